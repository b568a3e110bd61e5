import JvmDerived
import JvmDerived.Pilot.@@N@@Statement
import JvmDerived.Pilot.@@N@@Code
set_option linter.unusedVariables false
set_option linter.unusedSimpArgs false
namespace Jvm.Pilot.@@N@@
open Jvm Jvm.ClassFile Sem Op Lib Jvm.Free Jvm.Stand Jvm.LawKit Jvm.RoadKit Bundle Jvm.Pilot.@@N@@.Jvm.D
section Own
variable {p : Program} {l : Launch} {e : Env} {R : Room} {s : State} {m : MethodId} {args : Array Value} {below : List Frame} {meth : Method} {c : Code} {T : State} {locs : List Loc} {cells slots : Nat} {Z : State} {a0 : Array Value} {h h' : Heap} {Q : Option Value → Heap → List Loc → Prop} {k n : Nat}
/-- from U the walk comes to a return of which Q holds -/
def Goes (p : Program) (e : Env) (below : List Frame) (s : State) (Q : Option Value → Heap → List Loc → Prop) (k n : Nat) (U : State) : Prop :=
  ∃ s₂ o, Steps p.tables e below U s₂ ∧ s₂.status = .running ∧ Ended s₂ below o ∧ ∃ v L, o = .returned v ∧ Q v s₂.heap L ∧ FrameEnd s o s₂ L k n
theorem Goes.go {U U' : State} (h : ∀ t, Steps p.tables e below U' t → Steps p.tables e below U t) (r : Goes p e below s Q k n U') : Goes p e below s Q k n U := by
  obtain ⟨s₂, o, h1, r⟩ := r
  exact ⟨s₂, o, h _ h1, r⟩
theorem Goes.outI (X : Stand p l e R s m args below meth c T locs cells slots) (hx : p.tables.exec = Jvm.exec) (hlk : meth.locks = false) (hret : meth.sig.returnType = some .int) {pc : Nat} {Ls : Array Slot} {z : Int32} (hd : decode c.code pc = .ok (.ireturn, 1)) (eT : T.heap = h) (hq : Q (some (.int z)) h locs) (hk : cells ≤ k) (hn : slots ≤ n) :
    Goes p e below s Q k n (T.setTop (mkF m pc Ls [.int z])) := by
  obtain ⟨fs, hr, hrun, hended, hW, hsame⟩ := X.leave (v := some (.int z)) (fun h => by rw [hret] at h; cases h) hlk
  refine ⟨_, _, X.ireturnOut hx hret rfl (Or.inl rfl) hd hr, hrun, hended, _, _, rfl, ?_, ⟨_, rfl⟩, hW, hsame.mono hk hn⟩
  show Q _ T.heap _
  rw [eT]; exact hq
theorem Goes.outZ (X : Stand p l e R s m args below meth c T locs cells slots) (hx : p.tables.exec = Jvm.exec) (hlk : meth.locks = false) (hret : meth.sig.returnType = some .boolean) {pc : Nat} {Ls : Array Slot} {z : Int32} (hz : narrow .boolean (.int z) = .int z) (hd : decode c.code pc = .ok (.ireturn, 1)) (eT : T.heap = h) (hq : Q (some (.int z)) h locs) (hk : cells ≤ k) (hn : slots ≤ n) :
    Goes p e below s Q k n (T.setTop (mkF m pc Ls [.int z])) := by
  obtain ⟨fs, hr, hrun, hended, hW, hsame⟩ := X.leave (v := some (.int z)) (fun h => by rw [hret] at h; cases h) hlk
  refine ⟨_, _, X.ireturnOut hx hret hz (Or.inr (Or.inl rfl)) hd hr, hrun, hended, _, _, rfl, ?_, ⟨_, rfl⟩, hW, hsame.mono hk hn⟩
  show Q _ T.heap _
  rw [eT]; exact hq
theorem Goes.outJ (X : Stand p l e R s m args below meth c T locs cells slots) (hx : p.tables.exec = Jvm.exec) (hlk : meth.locks = false) (hret : meth.sig.returnType = some .long) {pc : Nat} {Ls : Array Slot} {z : Int64} (hd : decode c.code pc = .ok (.lreturn, 1)) (eT : T.heap = h) (hq : Q (some (.long z)) h locs) (hk : cells ≤ k) (hn : slots ≤ n) :
    Goes p e below s Q k n (T.setTop (mkF m pc Ls [.long z])) := by
  obtain ⟨fs, hr, hrun, hended, hW, hsame⟩ := X.leave (v := some (.long z)) (fun h => by rw [hret] at h; cases h) hlk
  refine ⟨_, _, X.lreturnOut hx hret hd hr, hrun, hended, _, _, rfl, ?_, ⟨_, rfl⟩, hW, hsame.mono hk hn⟩
  show Q _ T.heap _
  rw [eT]; exact hq
theorem Goes.outA (X : Stand p l e R s m args below meth c T locs cells slots) (hx : p.tables.exec = Jvm.exec) (hlk : meth.locks = false) {t : FieldType} (hret : meth.sig.returnType = some t) (ht : t.isReference = true) {pc : Nat} {Ls : Array Slot} {w : Value} (hw : w.isRef = true) (hd : decode c.code pc = .ok (.areturn, 1)) (eT : T.heap = h) (hq : Q (some w) h locs) (hk : cells ≤ k) (hn : slots ≤ n) :
    Goes p e below s Q k n (T.setTop (mkF m pc Ls [w])) := by
  obtain ⟨fs, hr, hrun, hended, hW, hsame⟩ := X.leave (v := some w) (fun h => by rw [hret] at h; cases h) hlk
  refine ⟨_, _, X.areturnOut hx hw hret ht hd hr, hrun, hended, _, _, rfl, ?_, ⟨_, rfl⟩, hW, hsame.mono hk hn⟩
  show Q _ T.heap _
  rw [eT]; exact hq
theorem Goes.outV (X : Stand p l e R s m args below meth c T locs cells slots) (hx : p.tables.exec = Jvm.exec) (hlk : meth.locks = false) (hret : meth.sig.returnType = none) {pc : Nat} {Ls : Array Slot} (hd : decode c.code pc = .ok (.return_, 1)) (eT : T.heap = h) (hq : Q none h locs) (hk : cells ≤ k) (hn : slots ≤ n) :
    Goes p e below s Q k n (T.setTop (mkF m pc Ls [])) := by
  obtain ⟨fs, hr, hrun, hended, hW, hsame⟩ := X.leave (v := none) (fun _ => rfl) hlk
  refine ⟨_, _, X.returnOut hx hret hd hr, hrun, hended, _, _, rfl, ?_, ⟨_, rfl⟩, hW, hsame.mono hk hn⟩
  show Q _ T.heap _
  rw [eT]; exact hq
/-- an array, by the list of what it holds -/
def Arl (Z : State) (h : Heap) (a : Addr) (ty : FieldType) (vs : List Value) : Prop := ∃ c : Cell, Arr Z h a c ty ∧ c.slots.toList = vs
section Arls
variable {a b : Addr} {ty : FieldType} {vs : List Value} {v : Value} {sl : Nat} {ws : List Addr} {j : Int32}
theorem Arl.lt (F : Arl Z h a ty vs) : a < h.size := by obtain ⟨c, A, -⟩ := F; exact A.lt
theorem Arl.ext (F : Arl Z h a ty vs) (E : Ext h h') : Arl Z h' a ty vs := by obtain ⟨c, A, r⟩ := F; exact ⟨c, A.ext E, r⟩
theorem Arl.other (F : Arl Z h b ty vs) (W : Wr h h' a sl v) (q : b ≠ a) : Arl Z h' b ty vs := by obtain ⟨c, A, r⟩ := F; exact ⟨c, A.other W q, r⟩
theorem Arl.keep (F : Arl Z h a ty vs) (K : Keep h h' ws) (q : a ∉ ws) : Arl Z h' a ty vs := by obtain ⟨c, A, r⟩ := F; exact ⟨c, ⟨K.2.1 a c A.1 q, A.2⟩, r⟩
theorem Arl.set (F : Arl Z h a ty vs) (W : Wr h h' a sl v) : Arl Z h' a ty (vs.set sl v) := by
  obtain ⟨c, A, r⟩ := F
  refine ⟨_, A.same W, ?_⟩
  subst r
  simp [Cell.setSlot]
theorem Arl.eq {vs' : List Value} (F : Arl Z h a ty vs) (e : vs = vs') : Arl Z h a ty vs' := e ▸ F
theorem own_in {c : Cell} (r : c.slots.toList = vs) (h0 : ¬ j < 0) (h1 : j.toNatClampNeg < vs.length) : ¬ (j < 0 ∨ c.slots.size ≤ j.toNatClampNeg) := by
  subst r
  intro q
  rcases q with q | q
  · exact h0 q
  · rw [Array.length_toList] at h1; omega
theorem own_lt (hv : vs[sl]? = some v) : sl < vs.length := (List.getElem?_eq_some_iff.mp hv).1
end Arls
theorem own_ati {xs : List Int32} {j : Nat} {w : Int32} (h : xs[j]? = some w) : (xs.map Value.int)[j]? = some (.int w) := by
  rw [List.getElem?_map, h]; rfl
theorem own_lni {xs : List Int32} {j k : Nat} (hl : xs.length = k) (h : j < k) : j < (xs.map Value.int).length := by
  rw [List.length_map, hl]; exact h
theorem own_sti {a : Addr} {xs : List Int32} {j : Nat} {w : Int32} (A : Arl Z h a .int ((xs.map Value.int).set j (.int w))) : Arl Z h a .int ((xs.set j w).map Value.int) := A.eq List.map_set.symm
theorem own_selP {C : String} {y y' : MethodName} (hs : (Cond.selects C y' y').before args s = true) (hcls : y'.cls = y.cls) (hpriv : s.PrivateAt y) (hinst : (Cond.instanceMethod y).before args s = true) (hy : y.cls ≠ "java/lang/invoke/MethodHandle" ∧ y.cls ≠ "java/lang/invoke/VarHandle") : (Cond.selects y.cls y y).before args s = true := by
  obtain ⟨c2, r2, m2, -, -, q3, -, kP, hkP, hkPi⟩ := Cond.selects_spec hs
  have hc : s.vm.findClass y.cls = some m2.cls := hcls ▸ findClass_of_methodNamed q3
  exact selects_self_of_private hc hkP hkPi hpriv hinst hy
theorem own_neA {a b : Addr} {C : String} {k : Nat} {ty : FieldType} {vs : List Value} (F : Exa Z h a C) (wi : (Cond.instantiable C k).before a0 Z = true) (G : Arl Z h b ty vs) : a ≠ b := by
  obtain ⟨c', A', -⟩ := G
  exact ne_arr F wi A'
theorem own_newP (X : Stand p l e R s m args below meth c T locs cells slots) (hx : p.tables.exec = Jvm.exec) (hZ : Z.Warmed39 s.vm) {aty : ArrayType} (w : (Cond.arrayClass (newarray.typeOf aty)).before a0 Z = true) (eT : T.heap = h) {g : JFrame} (hg : g.method = m) (hd : decode c.code g.pc = .ok (.newarray aty, 2)) {n : Int32} {rest : List Value} (hs : g.stack = .int n :: rest)
    (hn : ¬ n < 0) {cap : Nat} (hcap : n.toNatClampNeg ≤ cap) (hb : cap * 8 ≤ 536870912) (hc : cells + 1 ≤ R.cells) (hl : slots + cap ≤ R.slots) :
    ∃ T' h', Stand p l e R s m args below meth c T' locs (cells + 1) (slots + cap) ∧ T'.heap = h' ∧ Ext h h' ∧ Arl Z h' h.size (newarray.typeOf aty) (List.replicate n.toNatClampNeg (defaultValue (newarray.typeOf aty))) ∧
      ∀ target, Steps p.tables e below (T'.setTop { g with pc := g.pc + 2, stack := .ref h.size :: rest }) target → Steps p.tables e below (T.setTop g) target := by
  obtain ⟨T', h', cA, X', e', E', A', st⟩ := newP X hx hZ w eT hg hd hs hn hcap hb hc hl
  exact ⟨T', h', X', e', E', ⟨_, A', by simp [newA]⟩, st⟩
theorem own_stB (X : Stand p l e R s m args below meth c T locs cells slots) (hx : p.tables.exec = Jvm.exec) (hZ : Z.Warmed39 s.vm) (eT : T.heap = h) {a : Addr} {vs : List Value} (A : Arl Z h a .byte vs) {j x : Int32} (hj : ¬ j < 0) (hj' : j.toNatClampNeg < vs.length) {g : JFrame} (hg : g.method = m) {rest : List Value} (hs : g.stack = .int x :: .int j :: .ref a :: rest) (hd : decode c.code g.pc = .ok (.bastore, 1)) :
    ∃ T' h', Stand p l e R s m args below meth c T' (locs ++ [⟨a, j.toNatClampNeg⟩]) cells slots ∧ T'.heap = h' ∧ Wr h h' a j.toNatClampNeg (.int x.toInt8.toInt32) ∧ Arl Z h' a .byte (vs.set j.toNatClampNeg (.int x.toInt8.toInt32)) ∧ ∀ target, Steps p.tables e below (T'.setTop { g with pc := g.pc + 1, stack := rest }) target → Steps p.tables e below (T.setTop g) target := by
  obtain ⟨c', A', r⟩ := A
  obtain ⟨T', h', X', e', W, st⟩ := stB X hx hZ eT A' (own_in r hj hj') hg hs hd
  exact ⟨T', h', X', e', W, Arl.set ⟨c', A', r⟩ W, st⟩
theorem own_stI (X : Stand p l e R s m args below meth c T locs cells slots) (hx : p.tables.exec = Jvm.exec) (hZ : Z.Warmed39 s.vm) (eT : T.heap = h) {a : Addr} {vs : List Value} (A : Arl Z h a .int vs) {j x : Int32} (hj : ¬ j < 0) (hj' : j.toNatClampNeg < vs.length) {g : JFrame} (hg : g.method = m) {rest : List Value} (hs : g.stack = .int x :: .int j :: .ref a :: rest) (hd : decode c.code g.pc = .ok (.iastore, 1)) :
    ∃ T' h', Stand p l e R s m args below meth c T' (locs ++ [⟨a, j.toNatClampNeg⟩]) cells slots ∧ T'.heap = h' ∧ Wr h h' a j.toNatClampNeg (.int x) ∧ Arl Z h' a .int (vs.set j.toNatClampNeg (.int x)) ∧ ∀ target, Steps p.tables e below (T'.setTop { g with pc := g.pc + 1, stack := rest }) target → Steps p.tables e below (T.setTop g) target := by
  obtain ⟨c', A', r⟩ := A
  obtain ⟨T', h', X', e', W, st⟩ := stI X hx hZ eT A' (own_in r hj hj') hg hs hd
  exact ⟨T', h', X', e', W, Arl.set ⟨c', A', r⟩ W, st⟩
theorem own_stJ (X : Stand p l e R s m args below meth c T locs cells slots) (hx : p.tables.exec = Jvm.exec) (hZ : Z.Warmed39 s.vm) (eT : T.heap = h) {a : Addr} {vs : List Value} (A : Arl Z h a .long vs) {j : Int32} {x : Int64} (hj : ¬ j < 0) (hj' : j.toNatClampNeg < vs.length) {g : JFrame} (hg : g.method = m) {rest : List Value} (hs : g.stack = .long x :: .int j :: .ref a :: rest) (hd : decode c.code g.pc = .ok (.lastore, 1)) :
    ∃ T' h', Stand p l e R s m args below meth c T' (locs ++ [⟨a, j.toNatClampNeg⟩]) cells slots ∧ T'.heap = h' ∧ Wr h h' a j.toNatClampNeg (.long x) ∧ Arl Z h' a .long (vs.set j.toNatClampNeg (.long x)) ∧ ∀ target, Steps p.tables e below (T'.setTop { g with pc := g.pc + 1, stack := rest }) target → Steps p.tables e below (T.setTop g) target := by
  obtain ⟨c', A', r⟩ := A
  obtain ⟨T', h', X', e', W, st⟩ := stJ X hx hZ eT A' (own_in r hj hj') hg hs hd
  exact ⟨T', h', X', e', W, Arl.set ⟨c', A', r⟩ W, st⟩
theorem own_at {a : Addr} {c' : Cell} {vs : List Value} {v : Value} {j : Int32} (r : c'.slots.toList = vs) (hv : vs[j.toNatClampNeg]? = some v) : c'.slots[j.toNatClampNeg]? = some v := by
  subst r; simpa using hv
theorem own_ldB (X : Stand p l e R s m args below meth c T locs cells slots) (hx : p.tables.exec = Jvm.exec) (hZ : Z.Warmed39 s.vm) (eT : T.heap = h) {a : Addr} {vs : List Value} {v : Value} (A : Arl Z h a .byte vs) {j : Int32} (hj : ¬ j < 0) (hv : vs[j.toNatClampNeg]? = some v) {g : JFrame} (hg : g.method = m) {rest : List Value} (hs : g.stack = .int j :: .ref a :: rest) (hd : decode c.code g.pc = .ok (.baload, 1)) :
    ∀ target, Steps p.tables e below (T.setTop { g with pc := g.pc + 1, stack := v :: rest }) target → Steps p.tables e below (T.setTop g) target := by
  obtain ⟨c', A', r⟩ := A
  exact fun t k => X.baloadBytes hx (by rw [eT]; exact A'.1) (State.isArrayOf_alike hZ.alike A'.2.1) A'.2.2 (own_in r hj (own_lt hv)) (own_at (a := a) r hv) hg hs hd t k
theorem own_ldI (X : Stand p l e R s m args below meth c T locs cells slots) (hx : p.tables.exec = Jvm.exec) (hZ : Z.Warmed39 s.vm) (eT : T.heap = h) {a : Addr} {vs : List Value} {v : Value} (A : Arl Z h a .int vs) {j : Int32} (hj : ¬ j < 0) (hv : vs[j.toNatClampNeg]? = some v) {g : JFrame} (hg : g.method = m) {rest : List Value} (hs : g.stack = .int j :: .ref a :: rest) (hd : decode c.code g.pc = .ok (.iaload, 1)) :
    ∀ target, Steps p.tables e below (T.setTop { g with pc := g.pc + 1, stack := v :: rest }) target → Steps p.tables e below (T.setTop g) target := by
  obtain ⟨c', A', r⟩ := A
  exact fun t k => X.iaload hx (by rw [eT]; exact A'.1) (State.isArrayOf_alike hZ.alike A'.2.1) A'.2.2 (own_in r hj (own_lt hv)) (own_at (a := a) r hv) hg hs hd t k
theorem own_ldJ (X : Stand p l e R s m args below meth c T locs cells slots) (hx : p.tables.exec = Jvm.exec) (hZ : Z.Warmed39 s.vm) (eT : T.heap = h) {a : Addr} {vs : List Value} {v : Value} (A : Arl Z h a .long vs) {j : Int32} (hj : ¬ j < 0) (hv : vs[j.toNatClampNeg]? = some v) {g : JFrame} (hg : g.method = m) {rest : List Value} (hs : g.stack = .int j :: .ref a :: rest) (hd : decode c.code g.pc = .ok (.laload, 1)) :
    ∀ target, Steps p.tables e below (T.setTop { g with pc := g.pc + 1, stack := v :: rest }) target → Steps p.tables e below (T.setTop g) target := by
  obtain ⟨c', A', r⟩ := A
  exact fun t k => X.laload hx (by rw [eT]; exact A'.1) (State.isArrayOf_alike hZ.alike A'.2.1) A'.2.2 (own_in r hj (own_lt hv)) (own_at (a := a) r hv) hg hs hd t k
theorem own_len (X : Stand p l e R s m args below meth c T locs cells slots) (hx : p.tables.exec = Jvm.exec) (hZ : Z.Warmed39 s.vm) (eT : T.heap = h) {a : Addr} {ty : FieldType} {vs : List Value} (A : Arl Z h a ty vs) {n : Int32} (hn : vs.length.toInt32 = n) {g : JFrame} (hg : g.method = m) {rest : List Value} (hs : g.stack = .ref a :: rest) (hd : decode c.code g.pc = .ok (.arraylength, 1)) :
    ∀ target, Steps p.tables e below (T.setTop { g with pc := g.pc + 1, stack := .int n :: rest }) target → Steps p.tables e below (T.setTop g) target := by
  obtain ⟨c', A', r⟩ := A
  have q : c'.slots.size.toInt32 = n := by rw [← hn, ← r, Array.length_toList]
  exact fun t k => X.arraylength hx (ty := ty) (by rw [eT]; exact A'.1) (State.isArrayOf_alike hZ.alike A'.2.1) hg hs hd t (q.symm ▸ k)
end Own
/-- what sevenBits makes of the bytes that it meets -/
def svb : List Int32 → Int32 → Int64 → Int64
  | [], _, acc => acc
  | b :: bs, sh, acc => svb bs (sh + (7 : Int32)) (acc ||| ((((b &&& (255 : Int32)) &&& (127 : Int32))).toInt64 <<< (sh &&& 0x3f).toInt64))
def endp : List Int32 → Int32 → Int32
  | [], q => q
  | _ :: bs, q => endp bs (q + (1 : Int32))
/-- the bytes bs stand in vs from q on; all but the last have the high bit -/
def chain : List Int32 → Int32 → List Value → Prop
  | [], _, _ => False
  | [b], q, vs => ¬ q < 0 ∧ vs[q.toNatClampNeg]? = some (.int b) ∧ ((b &&& (255 : Int32)) &&& (128 : Int32)) = 0
  | b :: b2 :: bs, q, vs => ¬ q < 0 ∧ vs[q.toNatClampNeg]? = some (.int b) ∧ ¬ ((b &&& (255 : Int32)) &&& (128 : Int32)) = 0 ∧ chain (b2 :: bs) (q + (1 : Int32)) vs
theorem own_nar8 (x : Int32) : x.toInt8.toInt32.toInt8.toInt32 = x.toInt8.toInt32 := by simp
theorem own_k4 {x k : Int32} (h : (x &&& (3 : Int32)) = k) : k = 0 ∨ k = 1 ∨ k = 2 ∨ k = 3 := by
  have h1 := c_mask x 3 2 (by decide) (by decide)
  rw [h] at h1
  have : k.toInt = 0 ∨ k.toInt = 1 ∨ k.toInt = 2 ∨ k.toInt = 3 := by omega
  rcases this with q | q | q | q
  · exact Or.inl (Int32.toInt_inj.mp q)
  · exact Or.inr (Or.inl (Int32.toInt_inj.mp q))
  · exact Or.inr (Or.inr (Or.inl (Int32.toInt_inj.mp q)))
  · exact Or.inr (Or.inr (Or.inr (Int32.toInt_inj.mp q)))
/-- a byte cut to its lower seven bits -/
theorem own_7 (x : Int32) : 0 ≤ ((x &&& (127 : Int32)).toInt8.toInt32).toInt ∧ ((x &&& (127 : Int32)).toInt8.toInt32).toInt < 128 := by
  have h1 := c_mask x 127 7 (by decide) (by decide)
  have h2 := c_i2b (x &&& (127 : Int32))
  omega
theorem own_hi : ∀ b : BitVec 8, ¬ ((((Int8.ofBitVec b).toInt32 ||| (128 : Int32)).toInt8.toInt32 &&& (255 : Int32)) &&& (128 : Int32)) = 0 := by decide +kernel
theorem own_hi8 (x : Int8) : ¬ (((x.toInt32 ||| (128 : Int32)).toInt8.toInt32 &&& (255 : Int32)) &&& (128 : Int32)) = 0 := own_hi x.toBitVec
theorem own_lo : ∀ b : BitVec 8, ((((Int8.ofBitVec b).toInt32 &&& (127 : Int32)).toInt8.toInt32 &&& (255 : Int32)) &&& (128 : Int32)) = 0 := by decide +kernel
theorem own_lo8 (x : Int8) : (((x.toInt32 &&& (127 : Int32)).toInt8.toInt32 &&& (255 : Int32)) &&& (128 : Int32)) = 0 := own_lo x.toBitVec
theorem own_id : ∀ b : BitVec 8, ((((Int8.ofBitVec b).toInt32 &&& (127 : Int32)).toInt8.toInt32 &&& (255 : Int32)) &&& (127 : Int32)) = ((Int8.ofBitVec b).toInt32 &&& (127 : Int32)).toInt8.toInt32 := by decide +kernel
theorem own_id8 (x : Int8) : (((x.toInt32 &&& (127 : Int32)).toInt8.toInt32 &&& (255 : Int32)) &&& (127 : Int32)) = (x.toInt32 &&& (127 : Int32)).toInt8.toInt32 := own_id x.toBitVec
theorem own_sh {x : Int64} : x <<< (((0 : Int32)) &&& 0x3f).toInt64 = x := by
  have e : (((0 : Int32)) &&& 0x3f).toInt64 = 0 := by decide
  rw [e]; simp
theorem own_or0 {x : Int64} : (0 : Int64) ||| x = x := by simp
theorem svb_1 (x : Int8) : svb [(x.toInt32 &&& (127 : Int32)).toInt8.toInt32] 0 0 = ((x.toInt32 &&& (127 : Int32)).toInt8.toInt32).toInt64 := by
  show (0 : Int64) ||| _ = _
  rw [own_or0, own_sh, own_id8]
theorem fit_1 (x : Int8) : (svb [(x.toInt32 &&& (127 : Int32)).toInt8.toInt32] 0 0).toInt32.toInt64 = svb [(x.toInt32 &&& (127 : Int32)).toInt8.toInt32] 0 0 := by
  rw [svb_1]; simp
theorem val_1 (x : Int8) : (svb [(x.toInt32 &&& (127 : Int32)).toInt8.toInt32] 0 0).toInt32 = (x.toInt32 &&& (127 : Int32)).toInt8.toInt32 := by
  rw [svb_1]; simp
theorem own_6 (y : Int32) : (((y &&& (255 : Int32)) &&& (127 : Int32))) = (y &&& (127 : Int32)) := by
  rw [Int32.and_assoc]; rfl
theorem svb_2 (y : Int32) (x : Int8) : (svb [y, (x.toInt32 &&& (127 : Int32)).toInt8.toInt32] 0 0).toInt = (y &&& (127 : Int32)).toInt + ((x.toInt32 &&& (127 : Int32)).toInt8.toInt32).toInt * 128 := by
  have h7 := own_7 x.toInt32
  have h1 := c_mask y 127 7 (by decide) (by decide)
  show ((((0 : Int64) ||| _) ||| _) : Int64).toInt = _
  rw [own_or0, own_sh, own_id8, own_6]
  generalize (x.toInt32 &&& (127 : Int32)).toInt8.toInt32 = b at *
  generalize y &&& (127 : Int32) = d at *
  have e7 : (((0 : Int32) + (7 : Int32)) &&& 0x3f).toInt64 = (((7 : Int32)) &&& 0x3f).toInt64 := by decide
  rw [e7]
  have h2 := c_lshl b.toInt64 7 7 (by decide)
  rw [Int32.toInt_toInt64] at h2
  have r := rng64 (b.toInt64 <<< ((7 : Int32) &&& 0x3f).toInt64)
  have hd : d.toInt64.toInt = d.toInt := Int32.toInt_toInt64 d
  have h3 := c_orL' d.toInt64 (b.toInt64 <<< ((7 : Int32) &&& 0x3f).toInt64) 7 (by decide) 128 (by decide) (by omega) (by omega) (by omega)
  have r2 := rng64 (d.toInt64 ||| (b.toInt64 <<< ((7 : Int32) &&& 0x3f).toInt64))
  omega
theorem fit_2 (y : Int32) (x : Int8) : (svb [y, (x.toInt32 &&& (127 : Int32)).toInt8.toInt32] 0 0).toInt32.toInt64 = svb [y, (x.toInt32 &&& (127 : Int32)).toInt8.toInt32] 0 0 := by
  have h7 := own_7 x.toInt32
  have h1 := c_mask y 127 7 (by decide) (by decide)
  have h2 := svb_2 y x
  exact XT.narrowOk ⟨by omega, by omega⟩
theorem val_2 (y : Int32) (x : Int8) : (svb [y, (x.toInt32 &&& (127 : Int32)).toInt8.toInt32] 0 0).toInt32 = ((y &&& (127 : Int32)) ||| ((x.toInt32 &&& (127 : Int32)).toInt8.toInt32 <<< ((7 : Int32) &&& 31))) := by
  have h7 := own_7 x.toInt32
  have h1 := c_mask y 127 7 (by decide) (by decide)
  have h2 := svb_2 y x
  have h3 : (svb [y, (x.toInt32 &&& (127 : Int32)).toInt8.toInt32] 0 0).toInt32.toInt = _ := XT.narrowInt ⟨by omega, by omega⟩
  generalize (x.toInt32 &&& (127 : Int32)).toInt8.toInt32 = b at *
  generalize y &&& (127 : Int32) = d at *
  have h4 := c_ishl b 7 7 (by decide)
  have r := rng32 (b <<< ((7 : Int32) &&& 31))
  have h5 := c_or' d (b <<< ((7 : Int32) &&& 31)) 7 (by decide) 128 (by decide) (by omega) (by omega) (by omega)
  have r2 := rng32 (d ||| (b <<< ((7 : Int32) &&& 31)))
  apply Int32.toInt_inj.mp
  rw [h3]
  omega
def teOk (x : Int64) : Prop := x.toInt32.toInt64 = x
theorem pd0 : parseMethodDescriptor "([BI)V" = some ⟨[(.array .byte), .int], none⟩ := by decide +kernel
theorem pd1 : parseMethodDescriptor "()V" = some ⟨[], none⟩ := by decide +kernel
theorem pd2 : parseMethodDescriptor "()I" = some ⟨[], (some .int)⟩ := by decide +kernel
theorem pd3 : parseMethodDescriptor "()J" = some ⟨[], (some .long)⟩ := by decide +kernel
theorem pd4 : parseMethodDescriptor "(J)I" = some ⟨[.long], (some .int)⟩ := by decide +kernel
theorem pd5 : parseMethodDescriptor "(IJ)Z" = some ⟨[.int, .long], (some .boolean)⟩ := by decide +kernel
theorem d1_0 : decode prog_31_method_1_code 0 = .ok (.aload_n 0, 1) := by decide +kernel
theorem d1_1 : decode prog_31_method_1_code 1 = .ok (.invokespecial 1, 3) := by decide +kernel
theorem d1_4 : decode prog_31_method_1_code 4 = .ok (.aload_n 0, 1) := by decide +kernel
theorem d1_5 : decode prog_31_method_1_code 5 = .ok (.aload_n 1, 1) := by decide +kernel
theorem d1_6 : decode prog_31_method_1_code 6 = .ok (.putfield 7, 3) := by decide +kernel
theorem d1_9 : decode prog_31_method_1_code 9 = .ok (.aload_n 0, 1) := by decide +kernel
theorem d1_10 : decode prog_31_method_1_code 10 = .ok (.iload_n 2, 1) := by decide +kernel
theorem d1_11 : decode prog_31_method_1_code 11 = .ok (.putfield 13, 3) := by decide +kernel
theorem d1_14 : decode prog_31_method_1_code 14 = .ok (.return_, 1) := by decide +kernel
theorem pn0 : plainName "com/example/countermand/countermand/Packed$Reader" = true := by first | (simp [plainName, overriddenIn]; done) | decide +kernel
theorem ef_rm1 (m : MethodId) (a : Addr) (p0 : Addr) (p1 : Int32) : entryFrame m #[(.ref a), (.ref p0), (.int p1)] 3 = mkF m 0 #[.val (.ref a), .val (.ref p0), .val (.int p1)] [] := by first | (simp [entryFrame, mkF, argsToLocals, Value.category]; done) | rfl
def Q_rm1 (Z : State) (a : Addr) (p0 : Addr) (p1 : Int32) (h0 : Heap) (n0 : Nat) (v : Option Value) (h : Heap) (L : List Loc) : Prop := v = none ∧ Fr n0 L ∧ Keep h0 h [a] ∧ Exa Z h a "com/example/countermand/countermand/Packed$Reader" ∧ Fld Z h a "com/example/countermand/countermand/Packed$Reader" "in" "[B" (.ref p0) ∧ Fld Z h a "com/example/countermand/countermand/Packed$Reader" "position" "I" (.int p1)
set_option maxRecDepth 65536 in
set_option maxHeartbeats 40000000 in
theorem rm1 (l : Launch) (Z : State) (a0 : Array Value) (hw : ∀ d ∈ tables_1, d.before a0 Z = true) (ws : List Jvm.Cond) (a : Addr) (p0 : Addr) (p1 : Int32) (h0 : Heap) (n0 : Nat) (Z0 : n0 ≤ h0.size) (E0 : Exa Z h0 a "com/example/countermand/countermand/Packed$Reader") (F_in : Fld Z h0 a "com/example/countermand/countermand/Packed$Reader" "in" "[B" .null) (F_position : Fld Z h0 a "com/example/countermand/countermand/Packed$Reader" "position" "I" (.int (0 : Int32))) (ga : n0 ≤ a) :
    MetFree l (⟨"com/example/countermand/countermand/Packed$Reader", "<init>", "([BI)V"⟩ : MethodName) (head1 (Jvm.Cond.code (⟨"com/example/countermand/countermand/Packed$Reader", "<init>", "([BI)V"⟩ : MethodName) prog_31_method_1_code 3 none :: ws) ({ frames := 1, cells := 0, slots := 0, locals := 12 } : Room)) (fun aa U => aa = #[(.ref a), (.ref p0), (.int p1)] ∧ Z.Warmed39 U.vm ∧ U.heap = h0) (fun _ _ _ _ _ => True) (fun _ U o U' => ∃ v L, o = .returned v ∧ Q_rm1 Z a p0 p1 h0 n0 v U'.heap L ∧ FrameEnd U o U' L ({ frames := 1, cells := 0, slots := 0, locals := 12 } : Room).cells ({ frames := 1, cells := 0, slots := 0, locals := 12 } : Room).slots) := by
  refine MetFree.of_bodySF (plainFor_of_name pn0) hisR ?_
  intro p e s m args below meth c s₁ Bd hml0 hP hK
  obtain ⟨rfl, hZ, hh⟩ := hP
  have hx := Bd.exec
  have hby := Bd.bytes
  have hml : c.maxLocals = 3 := hml0
  have hown : s.vm.findClass "com/example/countermand/countermand/Packed$Reader" = some m.cls := findClass_of_methodNamed Bd.named
  have hnm := (name_of_methodNamed Bd.named Bd.method).1
  have hlk : meth.locks = false := Bd.notSynchronized
  have hret := Bd.returns
  have X0 : Stand p l e ({ frames := 1, cells := 0, slots := 0, locals := 12 } : Room) s m #[(.ref a), (.ref p0), (.int p1)] below meth c s₁ [] 0 0 := Stand.of_body Bd
  have e0 : s₁.heap = h0 := by rw [← hh, Bd.state]; rfl
  have N0 := Fr.nil n0
  have K0 : Keep h0 h0 [a] := Keep.refl _ _
  show Goes p e below s (Q_rm1 Z a p0 p1 h0 n0) ({ frames := 1, cells := 0, slots := 0, locals := 12 } : Room).cells ({ frames := 1, cells := 0, slots := 0, locals := 12 } : Room).slots _
  refine Goes.go (fun t k => castTop (ef_rm1 m a p0 p1) k) ?_
  show Goes _ _ _ _ _ _ _ (s₁.setTop (mkF m 0 #[.val (.ref a), .val (.ref p0), .val (.int p1)] []))
  refine Goes.go (fun _ k => XS.aloadN X0.here hx rfl (hb hby d1_0) rfl rfl k) ?_
  show Goes _ _ _ _ _ _ _ (s₁.setTop (mkF m 1 _ [(.ref a)]))
  obtain ⟨T1, X1, e1, st1⟩ := initO X0 hx hZ hown (hw _ (List.mem_of_getElem? (i := 7) rfl)) (hw _ (List.mem_of_getElem? (i := 8) rfl)) (hw _ (List.mem_of_getElem? (i := 9) rfl)) e0 (g := (mkF m 1 #[.val (.ref a), .val (.ref p0), .val (.int p1)] [(.ref a)])) rfl (by rw [hml]; rfl) rfl (hb hby d1_1) (by decide) (W := 0) (by show 2 * 0 + _ ≤ _; exact Nat.le_of_eq rfl) (by decide)
  refine Goes.go (st1) ?_
  show Goes _ _ _ _ _ _ _ (T1.setTop (mkF m 4 _ []))
  refine Goes.go (fun _ k => XS.aloadN X1.here hx rfl (hb hby d1_4) rfl rfl k) ?_
  show Goes _ _ _ _ _ _ _ (T1.setTop (mkF m 5 _ [(.ref a)]))
  refine Goes.go (fun _ k => XS.aloadN X1.here hx rfl (hb hby d1_5) rfl rfl k) ?_
  show Goes _ _ _ _ _ _ _ (T1.setTop (mkF m 6 _ [(.ref p0), (.ref a)]))
  obtain ⟨T2, h2, X2, e2, W2, st2⟩ := putF X1 hx hZ hown (host := "") (Or.inl (hw _ (List.mem_of_getElem? (i := 10) rfl))) Via.refl e1 F_in E0 (Or.inr ⟨(hw _ (List.mem_of_getElem? (i := 11) rfl)), rfl, hnm⟩) (hw _ (List.mem_of_getElem? (i := 2) rfl)) (ty := (.array .byte)) (by decide) rfl rfl (g := (mkF m 6 #[.val (.ref a), .val (.ref p0), .val (.int p1)] [(.ref p0), (.ref a)])) rfl rfl (hb hby d1_6)
  have N2 := Fr.snoc X2 N0 ga
  have f := Exa.wr W2 E0
  have f_1 := Fld.other W2 F_position (Or.inr (slot_ne (Or.inl (hw _ (List.mem_of_getElem? (i := 13) rfl))) (Or.inr (hw _ (List.mem_of_getElem? (i := 11) rfl))) (by decide) (t := .int) (t' := (.array .byte)) (by decide) (by decide)))
  have f_2 := Fld.same W2 F_in
  have Z2 : n0 ≤ h2.size := by rw [W2.size]; exact Z0
  have K2 := K0.wr W2 (Or.inl (List.mem_of_getElem? (i := 0) rfl))
  refine Goes.go (st2) ?_
  show Goes _ _ _ _ _ _ _ (T2.setTop (mkF m 9 _ []))
  refine Goes.go (fun _ k => XS.aloadN X2.here hx rfl (hb hby d1_9) rfl rfl k) ?_
  show Goes _ _ _ _ _ _ _ (T2.setTop (mkF m 10 _ [(.ref a)]))
  refine Goes.go (fun _ k => XS.iloadN X2.here hx rfl (hb hby d1_10) rfl k) ?_
  show Goes _ _ _ _ _ _ _ (T2.setTop (mkF m 11 _ [(.int p1), (.ref a)]))
  obtain ⟨T3, h3, X3, e3, W3, st3⟩ := putF X2 hx hZ hown (host := "") (Or.inl (hw _ (List.mem_of_getElem? (i := 12) rfl))) Via.refl e2 f_1 f (Or.inl (hw _ (List.mem_of_getElem? (i := 13) rfl))) (hw _ (List.mem_of_getElem? (i := 2) rfl)) (ty := .int) (by decide) rfl rfl (g := (mkF m 11 #[.val (.ref a), .val (.ref p0), .val (.int p1)] [(.int p1), (.ref a)])) rfl rfl (hb hby d1_11)
  have N3 := Fr.snoc X3 N2 ga
  have f_3 := Exa.wr W3 f
  have f_4 := Fld.other W3 f_2 (Or.inr (slot_ne (Or.inr (hw _ (List.mem_of_getElem? (i := 11) rfl))) (Or.inl (hw _ (List.mem_of_getElem? (i := 13) rfl))) (by decide) (t := (.array .byte)) (t' := .int) (by decide) (by decide)))
  have f_5 := Fld.same W3 f_1
  have Z3 : n0 ≤ h3.size := by rw [W3.size]; exact Z2
  have K3 := K2.wr W3 (Or.inl (List.mem_of_getElem? (i := 0) rfl))
  refine Goes.go (st3) ?_
  show Goes _ _ _ _ _ _ _ (T3.setTop (mkF m 14 _ []))
  exact Goes.outV X3 hx hlk hret (hb hby d1_14) e3 ⟨rfl, N3, K3, f_3, f_4, f_5⟩ (by decide) (by decide)
theorem d5_0 : decode prog_31_method_8_code 0 = .ok (.lconst 0, 1) := by decide +kernel
theorem d5_1 : decode prog_31_method_8_code 1 = .ok (.lstore_n 1, 1) := by decide +kernel
theorem d5_2 : decode prog_31_method_8_code 2 = .ok (.iconst 0, 1) := by decide +kernel
theorem d5_3 : decode prog_31_method_8_code 3 = .ok (.istore_n 3, 1) := by decide +kernel
theorem d5_4 : decode prog_31_method_8_code 4 = .ok (.aload_n 0, 1) := by decide +kernel
theorem d5_5 : decode prog_31_method_8_code 5 = .ok (.getfield 7, 3) := by decide +kernel
theorem d5_8 : decode prog_31_method_8_code 8 = .ok (.aload_n 0, 1) := by decide +kernel
theorem d5_9 : decode prog_31_method_8_code 9 = .ok (.dup, 1) := by decide +kernel
theorem d5_10 : decode prog_31_method_8_code 10 = .ok (.getfield 13, 3) := by decide +kernel
theorem d5_13 : decode prog_31_method_8_code 13 = .ok (.dup_x1, 1) := by decide +kernel
theorem d5_14 : decode prog_31_method_8_code 14 = .ok (.iconst 1, 1) := by decide +kernel
theorem d5_15 : decode prog_31_method_8_code 15 = .ok (.iadd, 1) := by decide +kernel
theorem d5_16 : decode prog_31_method_8_code 16 = .ok (.putfield 13, 3) := by decide +kernel
theorem d5_19 : decode prog_31_method_8_code 19 = .ok (.baload, 1) := by decide +kernel
theorem d5_20 : decode prog_31_method_8_code 20 = .ok (.sipush 255, 3) := by decide +kernel
theorem d5_23 : decode prog_31_method_8_code 23 = .ok (.iand, 1) := by decide +kernel
theorem d5_24 : decode prog_31_method_8_code 24 = .ok (.istore 4, 2) := by decide +kernel
theorem d5_26 : decode prog_31_method_8_code 26 = .ok (.lload_n 1, 1) := by decide +kernel
theorem d5_27 : decode prog_31_method_8_code 27 = .ok (.iload 4, 2) := by decide +kernel
theorem d5_29 : decode prog_31_method_8_code 29 = .ok (.bipush 127, 2) := by decide +kernel
theorem d5_31 : decode prog_31_method_8_code 31 = .ok (.iand, 1) := by decide +kernel
theorem d5_32 : decode prog_31_method_8_code 32 = .ok (.i2l, 1) := by decide +kernel
theorem d5_33 : decode prog_31_method_8_code 33 = .ok (.iload_n 3, 1) := by decide +kernel
theorem d5_34 : decode prog_31_method_8_code 34 = .ok (.lshl, 1) := by decide +kernel
theorem d5_35 : decode prog_31_method_8_code 35 = .ok (.lor, 1) := by decide +kernel
theorem d5_36 : decode prog_31_method_8_code 36 = .ok (.lstore_n 1, 1) := by decide +kernel
theorem d5_37 : decode prog_31_method_8_code 37 = .ok (.iload 4, 2) := by decide +kernel
theorem d5_39 : decode prog_31_method_8_code 39 = .ok (.sipush 128, 3) := by decide +kernel
theorem d5_42 : decode prog_31_method_8_code 42 = .ok (.iand, 1) := by decide +kernel
theorem d5_43 : decode prog_31_method_8_code 43 = .ok (.ifCond .ne 5, 3) := by decide +kernel
theorem d5_46 : decode prog_31_method_8_code 46 = .ok (.lload_n 1, 1) := by decide +kernel
theorem d5_47 : decode prog_31_method_8_code 47 = .ok (.lreturn, 1) := by decide +kernel
theorem d5_48 : decode prog_31_method_8_code 48 = .ok (.iinc 3 7, 3) := by decide +kernel
theorem d5_51 : decode prog_31_method_8_code 51 = .ok (.goto (-47), 3) := by decide +kernel
set_option maxRecDepth 65536 in
set_option maxHeartbeats 40000000 in
theorem lp4 {p : Program} {l : Launch} {e : Env} {s : State} {m : MethodId} {args : Array Value} {below : List Frame} {meth : Method} {c : Code} {Q : Option Value → Heap → List Loc → Prop} {Z : State} {a0 : Array Value} (hw : ∀ d ∈ tables_1, d.before a0 Z = true) (hx : p.tables.exec = Jvm.exec) (hby : c.code = prog_31_method_8_code) (hml : c.maxLocals = 5) (hown : s.vm.findClass "com/example/countermand/countermand/Packed$Reader" = some m.cls) (hnm : meth.name = "sevenBits") (hlk : meth.locks = false) (hret : meth.sig.returnType = (some .long)) (hZ : Z.Warmed39 s.vm) (n0 : Nat) (a bb : Addr) (vs : List Value) (nab : a ≠ bb) (ga : n0 ≤ a) (hS : Heap) (bs : List Int32) :
    ∀ (pos sh : Int32) (acc : Int64) (o4 : Slot) (q4 : One o4) {T : State} {locs : List Loc} {h0 : Heap} (Z0 : n0 ≤ h0.size) (X0 : Stand p l e ({ frames := 0, cells := 0, slots := 0, locals := 0 } : Room) s m args below meth c T locs 0 0) (e0 : T.heap = h0) (N0 : Fr n0 locs) (K0 : Keep hS h0 [a]) (E0 : Exa Z h0 a "com/example/countermand/countermand/Packed$Reader") (F_in : Fld Z h0 a "com/example/countermand/countermand/Packed$Reader" "in" "[B" (.ref bb)) (F_po : Fld Z h0 a "com/example/countermand/countermand/Packed$Reader" "position" "I" (.int pos)) (A0 : Arl Z h0 bb .byte vs) (hc : chain bs pos vs)
      (hQ : ∀ h L, Fr n0 L → Keep hS h [a] → Exa Z h a "com/example/countermand/countermand/Packed$Reader" → Fld Z h a "com/example/countermand/countermand/Packed$Reader" "in" "[B" (.ref bb) → Fld Z h a "com/example/countermand/countermand/Packed$Reader" "position" "I" (.int (endp bs pos)) → Q (some (.long (svb bs sh acc))) h L),
      Goes p e below s Q 0 0 (T.setTop (mkF m 4 #[.val (.ref a), .val (.long acc), .second, .val (.int sh), o4] [])) := by
  induction bs with
  | nil => intro pos sh acc o4 q4 T locs h0 Z0 X0 e0 N0 K0 E0 F_in F_po A0 hc hQ; exact hc.elim
  | cons b bs ih =>
    intro pos sh acc o4 q4 T locs h0 Z0 X0 e0 N0 K0 E0 F_in F_po A0 hc hQ
    cases bs with
    | nil =>
      obtain ⟨q1, q2, q3⟩ := hc
      show Goes _ _ _ _ _ _ _ (T.setTop (mkF m 4 #[.val (.ref a), .val (.long acc), .second, .val (.int sh), o4] []))
      refine Goes.go (fun _ k => XS.aloadN X0.here hx rfl (hb hby d5_4) rfl rfl k) ?_
      show Goes _ _ _ _ _ _ _ (T.setTop (mkF m 5 _ [(.ref a)]))
      obtain ⟨T1, X1, e1, st1⟩ := getF X0 hx hZ hown (host := "") (Or.inl (hw _ (List.mem_of_getElem? (i := 10) rfl))) Via.refl e0 F_in (g := (mkF m 5 #[.val (.ref a), .val (.long acc), .second, .val (.int sh), o4] [(.ref a)])) rfl rfl (hb hby d5_5)
      refine Goes.go (st1) ?_
      show Goes _ _ _ _ _ _ _ (T1.setTop (mkF m 8 _ [(.ref bb)]))
      refine Goes.go (fun _ k => XS.aloadN X1.here hx rfl (hb hby d5_8) rfl rfl k) ?_
      show Goes _ _ _ _ _ _ _ (T1.setTop (mkF m 9 _ [(.ref a), (.ref bb)]))
      refine Goes.go (fun _ k => XS.dup X1.here hx rfl (hb hby d5_9) rfl rfl k) ?_
      show Goes _ _ _ _ _ _ _ (T1.setTop (mkF m 10 _ [(.ref a), (.ref a), (.ref bb)]))
      obtain ⟨T2, X2, e2, st2⟩ := getF X1 hx hZ hown (host := "") (Or.inl (hw _ (List.mem_of_getElem? (i := 12) rfl))) Via.refl e1 F_po (g := (mkF m 10 #[.val (.ref a), .val (.long acc), .second, .val (.int sh), o4] [(.ref a), (.ref a), (.ref bb)])) rfl rfl (hb hby d5_10)
      refine Goes.go (st2) ?_
      show Goes _ _ _ _ _ _ _ (T2.setTop (mkF m 13 _ [(.int pos), (.ref a), (.ref bb)]))
      refine Goes.go (fun _ k => XS.dupX1 X2.here hx rfl (hb hby d5_13) rfl rfl rfl k) ?_
      show Goes _ _ _ _ _ _ _ (T2.setTop (mkF m 14 _ [(.int pos), (.ref a), (.int pos), (.ref bb)]))
      refine Goes.go (fun _ k => XS.iconst X2.here hx rfl (hb hby d5_14) k) ?_
      show Goes _ _ _ _ _ _ _ (T2.setTop (mkF m 15 _ [(.int (1 : Int32)), (.int pos), (.ref a), (.int pos), (.ref bb)]))
      refine Goes.go (fun _ k => XS.iadd X2.here hx rfl (hb hby d5_15) rfl k) ?_
      show Goes _ _ _ _ _ _ _ (T2.setTop (mkF m 16 _ [(.int (pos + (1 : Int32))), (.ref a), (.int pos), (.ref bb)]))
      obtain ⟨T3, h3, X3, e3, W3, st3⟩ := putF X2 hx hZ hown (host := "") (Or.inl (hw _ (List.mem_of_getElem? (i := 12) rfl))) Via.refl e2 F_po E0 (Or.inl (hw _ (List.mem_of_getElem? (i := 13) rfl))) (hw _ (List.mem_of_getElem? (i := 2) rfl)) (ty := .int) (by decide) rfl rfl (g := (mkF m 16 #[.val (.ref a), .val (.long acc), .second, .val (.int sh), o4] [(.int (pos + (1 : Int32))), (.ref a), (.int pos), (.ref bb)])) rfl rfl (hb hby d5_16)
      have N3 := Fr.snoc X3 N0 ga
      have f := Exa.wr W3 E0
      have f_1 := Fld.other W3 F_in (Or.inr (slot_ne (Or.inr (hw _ (List.mem_of_getElem? (i := 11) rfl))) (Or.inl (hw _ (List.mem_of_getElem? (i := 13) rfl))) (by decide) (t := (.array .byte)) (t' := .int) (by decide) (by decide)))
      have f_2 := Arl.other A0 W3 nab.symm
      have f_3 := Fld.same W3 F_po
      have Z3 : n0 ≤ h3.size := by rw [W3.size]; exact Z0
      have K3 := K0.wr W3 (Or.inl (List.mem_of_getElem? (i := 0) rfl))
      refine Goes.go (st3) ?_
      show Goes _ _ _ _ _ _ _ (T3.setTop (mkF m 19 _ [(.int pos), (.ref bb)]))
      refine Goes.go (own_ldB X3 hx hZ e3 f_2 (j := pos) (v := (.int b)) q1 q2 rfl rfl (hb hby d5_19)) ?_
      show Goes _ _ _ _ _ _ _ (T3.setTop (mkF m 20 _ [(.int b)]))
      refine Goes.go (fun _ k => XS.sipush X3.here hx rfl (hb hby d5_20) k) ?_
      show Goes _ _ _ _ _ _ _ (T3.setTop (mkF m 23 _ [(.int (255 : Int32)), (.int b)]))
      refine Goes.go (fun _ k => XS.iand X3.here hx rfl (hb hby d5_23) rfl k) ?_
      show Goes _ _ _ _ _ _ _ (T3.setTop (mkF m 24 _ [(.int (b &&& (255 : Int32)))]))
      refine Goes.go (fun _ k => XS.istoreS X3.here hx rfl (hb hby d5_24) rfl rfl q4 k) ?_
      show Goes _ _ _ _ _ _ _ (T3.setTop (mkF m 26 #[.val (.ref a), .val (.long acc), .second, .val (.int sh), .val (.int (b &&& (255 : Int32)))] []))
      refine Goes.go (fun _ k => XS.lloadN X3.here hx rfl (hb hby d5_26) rfl k) ?_
      show Goes _ _ _ _ _ _ _ (T3.setTop (mkF m 27 _ [(.long acc)]))
      refine Goes.go (fun _ k => XS.iload X3.here hx rfl (hb hby d5_27) rfl k) ?_
      show Goes _ _ _ _ _ _ _ (T3.setTop (mkF m 29 _ [(.int (b &&& (255 : Int32))), (.long acc)]))
      refine Goes.go (fun _ k => XS.bipush X3.here hx rfl (hb hby d5_29) k) ?_
      show Goes _ _ _ _ _ _ _ (T3.setTop (mkF m 31 _ [(.int (127 : Int32)), (.int (b &&& (255 : Int32))), (.long acc)]))
      refine Goes.go (fun _ k => XS.iand X3.here hx rfl (hb hby d5_31) rfl k) ?_
      show Goes _ _ _ _ _ _ _ (T3.setTop (mkF m 32 _ [(.int ((b &&& (255 : Int32)) &&& (127 : Int32))), (.long acc)]))
      refine Goes.go (fun _ k => XS.i2l X3.here hx rfl (hb hby d5_32) rfl k) ?_
      show Goes _ _ _ _ _ _ _ (T3.setTop (mkF m 33 _ [(.long (((b &&& (255 : Int32)) &&& (127 : Int32))).toInt64), (.long acc)]))
      refine Goes.go (fun _ k => XS.iloadN X3.here hx rfl (hb hby d5_33) rfl k) ?_
      show Goes _ _ _ _ _ _ _ (T3.setTop (mkF m 34 _ [(.int sh), (.long (((b &&& (255 : Int32)) &&& (127 : Int32))).toInt64), (.long acc)]))
      refine Goes.go (fun _ k => XS.lshl X3.here hx rfl (hb hby d5_34) rfl k) ?_
      show Goes _ _ _ _ _ _ _ (T3.setTop (mkF m 35 _ [(.long ((((b &&& (255 : Int32)) &&& (127 : Int32))).toInt64 <<< (sh &&& 0x3f).toInt64)), (.long acc)]))
      refine Goes.go (fun _ k => XS.lor X3.here hx rfl (hb hby d5_35) rfl k) ?_
      show Goes _ _ _ _ _ _ _ (T3.setTop (mkF m 36 _ [(.long (acc ||| ((((b &&& (255 : Int32)) &&& (127 : Int32))).toInt64 <<< (sh &&& 0x3f).toInt64)))]))
      refine Goes.go (fun _ k => XS.lstoreN X3.here hx rfl (hb hby d5_36) rfl (l' := #[.val (.ref a), .val (.long (acc ||| ((((b &&& (255 : Int32)) &&& (127 : Int32))).toInt64 <<< (sh &&& 0x3f).toInt64))), .second, .val (.int sh), .val (.int (b &&& (255 : Int32)))]) rfl k) ?_
      show Goes _ _ _ _ _ _ _ (T3.setTop (mkF m 37 #[.val (.ref a), .val (.long (acc ||| ((((b &&& (255 : Int32)) &&& (127 : Int32))).toInt64 <<< (sh &&& 0x3f).toInt64))), .second, .val (.int sh), .val (.int (b &&& (255 : Int32)))] []))
      refine Goes.go (fun _ k => XS.iload X3.here hx rfl (hb hby d5_37) rfl k) ?_
      show Goes _ _ _ _ _ _ _ (T3.setTop (mkF m 39 _ [(.int (b &&& (255 : Int32)))]))
      refine Goes.go (fun _ k => XS.sipush X3.here hx rfl (hb hby d5_39) k) ?_
      show Goes _ _ _ _ _ _ _ (T3.setTop (mkF m 42 _ [(.int (128 : Int32)), (.int (b &&& (255 : Int32)))]))
      refine Goes.go (fun _ k => XS.iand X3.here hx rfl (hb hby d5_42) rfl k) ?_
      show Goes _ _ _ _ _ _ _ (T3.setTop (mkF m 43 _ [(.int ((b &&& (255 : Int32)) &&& (128 : Int32)))]))
      refine Goes.go (fun _ k => XS.ifNo X3.here hx rfl (hb hby d5_43) rfl (XT.i0_ne_f q3) k) ?_
      show Goes _ _ _ _ _ _ _ (T3.setTop (mkF m 46 _ []))
      refine Goes.go (fun _ k => XS.lloadN X3.here hx rfl (hb hby d5_46) rfl k) ?_
      show Goes _ _ _ _ _ _ _ (T3.setTop (mkF m 47 _ [(.long (acc ||| ((((b &&& (255 : Int32)) &&& (127 : Int32))).toInt64 <<< (sh &&& 0x3f).toInt64)))]))
      exact Goes.outJ X3 hx hlk hret (hb hby d5_47) e3 (hQ _ _ N3 K3 f f_1 f_3) (by decide) (by decide)
    | cons b2 bs =>
      obtain ⟨q1, q2, q3, q5⟩ := hc
      show Goes _ _ _ _ _ _ _ (T.setTop (mkF m 4 #[.val (.ref a), .val (.long acc), .second, .val (.int sh), o4] []))
      refine Goes.go (fun _ k => XS.aloadN X0.here hx rfl (hb hby d5_4) rfl rfl k) ?_
      show Goes _ _ _ _ _ _ _ (T.setTop (mkF m 5 _ [(.ref a)]))
      obtain ⟨T1, X1, e1, st1⟩ := getF X0 hx hZ hown (host := "") (Or.inl (hw _ (List.mem_of_getElem? (i := 10) rfl))) Via.refl e0 F_in (g := (mkF m 5 #[.val (.ref a), .val (.long acc), .second, .val (.int sh), o4] [(.ref a)])) rfl rfl (hb hby d5_5)
      refine Goes.go (st1) ?_
      show Goes _ _ _ _ _ _ _ (T1.setTop (mkF m 8 _ [(.ref bb)]))
      refine Goes.go (fun _ k => XS.aloadN X1.here hx rfl (hb hby d5_8) rfl rfl k) ?_
      show Goes _ _ _ _ _ _ _ (T1.setTop (mkF m 9 _ [(.ref a), (.ref bb)]))
      refine Goes.go (fun _ k => XS.dup X1.here hx rfl (hb hby d5_9) rfl rfl k) ?_
      show Goes _ _ _ _ _ _ _ (T1.setTop (mkF m 10 _ [(.ref a), (.ref a), (.ref bb)]))
      obtain ⟨T2, X2, e2, st2⟩ := getF X1 hx hZ hown (host := "") (Or.inl (hw _ (List.mem_of_getElem? (i := 12) rfl))) Via.refl e1 F_po (g := (mkF m 10 #[.val (.ref a), .val (.long acc), .second, .val (.int sh), o4] [(.ref a), (.ref a), (.ref bb)])) rfl rfl (hb hby d5_10)
      refine Goes.go (st2) ?_
      show Goes _ _ _ _ _ _ _ (T2.setTop (mkF m 13 _ [(.int pos), (.ref a), (.ref bb)]))
      refine Goes.go (fun _ k => XS.dupX1 X2.here hx rfl (hb hby d5_13) rfl rfl rfl k) ?_
      show Goes _ _ _ _ _ _ _ (T2.setTop (mkF m 14 _ [(.int pos), (.ref a), (.int pos), (.ref bb)]))
      refine Goes.go (fun _ k => XS.iconst X2.here hx rfl (hb hby d5_14) k) ?_
      show Goes _ _ _ _ _ _ _ (T2.setTop (mkF m 15 _ [(.int (1 : Int32)), (.int pos), (.ref a), (.int pos), (.ref bb)]))
      refine Goes.go (fun _ k => XS.iadd X2.here hx rfl (hb hby d5_15) rfl k) ?_
      show Goes _ _ _ _ _ _ _ (T2.setTop (mkF m 16 _ [(.int (pos + (1 : Int32))), (.ref a), (.int pos), (.ref bb)]))
      obtain ⟨T3, h3, X3, e3, W3, st3⟩ := putF X2 hx hZ hown (host := "") (Or.inl (hw _ (List.mem_of_getElem? (i := 12) rfl))) Via.refl e2 F_po E0 (Or.inl (hw _ (List.mem_of_getElem? (i := 13) rfl))) (hw _ (List.mem_of_getElem? (i := 2) rfl)) (ty := .int) (by decide) rfl rfl (g := (mkF m 16 #[.val (.ref a), .val (.long acc), .second, .val (.int sh), o4] [(.int (pos + (1 : Int32))), (.ref a), (.int pos), (.ref bb)])) rfl rfl (hb hby d5_16)
      have N3 := Fr.snoc X3 N0 ga
      have f := Exa.wr W3 E0
      have f_1 := Fld.other W3 F_in (Or.inr (slot_ne (Or.inr (hw _ (List.mem_of_getElem? (i := 11) rfl))) (Or.inl (hw _ (List.mem_of_getElem? (i := 13) rfl))) (by decide) (t := (.array .byte)) (t' := .int) (by decide) (by decide)))
      have f_2 := Arl.other A0 W3 nab.symm
      have f_3 := Fld.same W3 F_po
      have Z3 : n0 ≤ h3.size := by rw [W3.size]; exact Z0
      have K3 := K0.wr W3 (Or.inl (List.mem_of_getElem? (i := 0) rfl))
      refine Goes.go (st3) ?_
      show Goes _ _ _ _ _ _ _ (T3.setTop (mkF m 19 _ [(.int pos), (.ref bb)]))
      refine Goes.go (own_ldB X3 hx hZ e3 f_2 (j := pos) (v := (.int b)) q1 q2 rfl rfl (hb hby d5_19)) ?_
      show Goes _ _ _ _ _ _ _ (T3.setTop (mkF m 20 _ [(.int b)]))
      refine Goes.go (fun _ k => XS.sipush X3.here hx rfl (hb hby d5_20) k) ?_
      show Goes _ _ _ _ _ _ _ (T3.setTop (mkF m 23 _ [(.int (255 : Int32)), (.int b)]))
      refine Goes.go (fun _ k => XS.iand X3.here hx rfl (hb hby d5_23) rfl k) ?_
      show Goes _ _ _ _ _ _ _ (T3.setTop (mkF m 24 _ [(.int (b &&& (255 : Int32)))]))
      refine Goes.go (fun _ k => XS.istoreS X3.here hx rfl (hb hby d5_24) rfl rfl q4 k) ?_
      show Goes _ _ _ _ _ _ _ (T3.setTop (mkF m 26 #[.val (.ref a), .val (.long acc), .second, .val (.int sh), .val (.int (b &&& (255 : Int32)))] []))
      refine Goes.go (fun _ k => XS.lloadN X3.here hx rfl (hb hby d5_26) rfl k) ?_
      show Goes _ _ _ _ _ _ _ (T3.setTop (mkF m 27 _ [(.long acc)]))
      refine Goes.go (fun _ k => XS.iload X3.here hx rfl (hb hby d5_27) rfl k) ?_
      show Goes _ _ _ _ _ _ _ (T3.setTop (mkF m 29 _ [(.int (b &&& (255 : Int32))), (.long acc)]))
      refine Goes.go (fun _ k => XS.bipush X3.here hx rfl (hb hby d5_29) k) ?_
      show Goes _ _ _ _ _ _ _ (T3.setTop (mkF m 31 _ [(.int (127 : Int32)), (.int (b &&& (255 : Int32))), (.long acc)]))
      refine Goes.go (fun _ k => XS.iand X3.here hx rfl (hb hby d5_31) rfl k) ?_
      show Goes _ _ _ _ _ _ _ (T3.setTop (mkF m 32 _ [(.int ((b &&& (255 : Int32)) &&& (127 : Int32))), (.long acc)]))
      refine Goes.go (fun _ k => XS.i2l X3.here hx rfl (hb hby d5_32) rfl k) ?_
      show Goes _ _ _ _ _ _ _ (T3.setTop (mkF m 33 _ [(.long (((b &&& (255 : Int32)) &&& (127 : Int32))).toInt64), (.long acc)]))
      refine Goes.go (fun _ k => XS.iloadN X3.here hx rfl (hb hby d5_33) rfl k) ?_
      show Goes _ _ _ _ _ _ _ (T3.setTop (mkF m 34 _ [(.int sh), (.long (((b &&& (255 : Int32)) &&& (127 : Int32))).toInt64), (.long acc)]))
      refine Goes.go (fun _ k => XS.lshl X3.here hx rfl (hb hby d5_34) rfl k) ?_
      show Goes _ _ _ _ _ _ _ (T3.setTop (mkF m 35 _ [(.long ((((b &&& (255 : Int32)) &&& (127 : Int32))).toInt64 <<< (sh &&& 0x3f).toInt64)), (.long acc)]))
      refine Goes.go (fun _ k => XS.lor X3.here hx rfl (hb hby d5_35) rfl k) ?_
      show Goes _ _ _ _ _ _ _ (T3.setTop (mkF m 36 _ [(.long (acc ||| ((((b &&& (255 : Int32)) &&& (127 : Int32))).toInt64 <<< (sh &&& 0x3f).toInt64)))]))
      refine Goes.go (fun _ k => XS.lstoreN X3.here hx rfl (hb hby d5_36) rfl (l' := #[.val (.ref a), .val (.long (acc ||| ((((b &&& (255 : Int32)) &&& (127 : Int32))).toInt64 <<< (sh &&& 0x3f).toInt64))), .second, .val (.int sh), .val (.int (b &&& (255 : Int32)))]) rfl k) ?_
      show Goes _ _ _ _ _ _ _ (T3.setTop (mkF m 37 #[.val (.ref a), .val (.long (acc ||| ((((b &&& (255 : Int32)) &&& (127 : Int32))).toInt64 <<< (sh &&& 0x3f).toInt64))), .second, .val (.int sh), .val (.int (b &&& (255 : Int32)))] []))
      refine Goes.go (fun _ k => XS.iload X3.here hx rfl (hb hby d5_37) rfl k) ?_
      show Goes _ _ _ _ _ _ _ (T3.setTop (mkF m 39 _ [(.int (b &&& (255 : Int32)))]))
      refine Goes.go (fun _ k => XS.sipush X3.here hx rfl (hb hby d5_39) k) ?_
      show Goes _ _ _ _ _ _ _ (T3.setTop (mkF m 42 _ [(.int (128 : Int32)), (.int (b &&& (255 : Int32)))]))
      refine Goes.go (fun _ k => XS.iand X3.here hx rfl (hb hby d5_42) rfl k) ?_
      show Goes _ _ _ _ _ _ _ (T3.setTop (mkF m 43 _ [(.int ((b &&& (255 : Int32)) &&& (128 : Int32)))]))
      refine Goes.go (fun _ k => XS.ifYes X3.here hx rfl (pc0 := 43) (pc' := 48) rfl (hb hby d5_43) rfl (XT.i0_ne_t q3) (by decide) (by decide) k) ?_
      show Goes _ _ _ _ _ _ _ (T3.setTop (mkF m 48 _ []))
      refine Goes.go (fun _ k => XT.iincV X3.here hx rfl (7 : Int32) (hb hby d5_48) rfl rfl (l' := #[.val (.ref a), .val (.long (acc ||| ((((b &&& (255 : Int32)) &&& (127 : Int32))).toInt64 <<< (sh &&& 0x3f).toInt64))), .second, .val (.int (sh + (7 : Int32))), .val (.int (b &&& (255 : Int32)))]) rfl k) ?_
      show Goes _ _ _ _ _ _ _ (T3.setTop (mkF m 51 #[.val (.ref a), .val (.long (acc ||| ((((b &&& (255 : Int32)) &&& (127 : Int32))).toInt64 <<< (sh &&& 0x3f).toInt64))), .second, .val (.int (sh + (7 : Int32))), .val (.int (b &&& (255 : Int32)))] []))
      refine Goes.go (fun _ k => XS.goto X3.here hx rfl (pc0 := 51) (pc' := 4) rfl (hb hby d5_51) (by decide) (by decide) k) ?_
      show Goes _ _ _ _ _ _ _ (T3.setTop (mkF m 4 _ []))
      exact ih _ _ _ _ (One.val rfl) Z3 X3 e3 N3 K3 f f_1 f_3 f_2 q5 hQ
theorem ef_rm7b (m : MethodId) (a : Addr) : entryFrame m #[(.ref a)] 5 = mkF m 0 #[.val (.ref a), .unset, .unset, .unset, .unset] [] := by first | (simp [entryFrame, mkF, argsToLocals, Value.category]; done) | rfl
def Q_rm7b (Z : State) (a : Addr) (bb : Addr) (vs : List Value) (pos : Int32) (bs : List Int32) (h0 : Heap) (n0 : Nat) (v : Option Value) (h : Heap) (L : List Loc) : Prop := v = some (.long (svb bs 0 0)) ∧ Fr n0 L ∧ Keep h0 h [a] ∧ Exa Z h a "com/example/countermand/countermand/Packed$Reader" ∧ Fld Z h a "com/example/countermand/countermand/Packed$Reader" "in" "[B" (.ref bb) ∧ Fld Z h a "com/example/countermand/countermand/Packed$Reader" "position" "I" (.int (endp bs pos))
set_option maxRecDepth 65536 in
set_option maxHeartbeats 40000000 in
theorem rm7b (l : Launch) (Z : State) (a0 : Array Value) (hw : ∀ d ∈ tables_1, d.before a0 Z = true) (ws : List Jvm.Cond) (a : Addr) (bb : Addr) (vs : List Value) (pos : Int32) (bs : List Int32) (h0 : Heap) (n0 : Nat) (Z0 : n0 ≤ h0.size) (E0 : Exa Z h0 a "com/example/countermand/countermand/Packed$Reader") (F_in : Fld Z h0 a "com/example/countermand/countermand/Packed$Reader" "in" "[B" (.ref bb)) (F_po : Fld Z h0 a "com/example/countermand/countermand/Packed$Reader" "position" "I" (.int pos)) (ga : n0 ≤ a) (A0 : Arl Z h0 bb .byte vs) (hc : chain bs pos vs) :
    MetFree l (⟨"com/example/countermand/countermand/Packed$Reader", "sevenBits", "()J"⟩ : MethodName) (head1 (Jvm.Cond.code (⟨"com/example/countermand/countermand/Packed$Reader", "sevenBits", "()J"⟩ : MethodName) prog_31_method_8_code 5 (some .long) :: ws) ({ frames := 0, cells := 0, slots := 0, locals := 0 } : Room)) (fun aa U => aa = #[(.ref a)] ∧ Z.Warmed39 U.vm ∧ U.heap = h0) (fun _ _ _ _ _ => True) (fun _ U o U' => ∃ v L, o = .returned v ∧ Q_rm7b Z a bb vs pos bs h0 n0 v U'.heap L ∧ FrameEnd U o U' L ({ frames := 0, cells := 0, slots := 0, locals := 0 } : Room).cells ({ frames := 0, cells := 0, slots := 0, locals := 0 } : Room).slots) := by
  refine MetFree.of_bodySF (plainFor_of_name pn0) hisR ?_
  intro p e s m args below meth c s₁ Bd hml0 hP hK
  obtain ⟨rfl, hZ, hh⟩ := hP
  have hx := Bd.exec
  have hby := Bd.bytes
  have hml : c.maxLocals = 5 := hml0
  have hown : s.vm.findClass "com/example/countermand/countermand/Packed$Reader" = some m.cls := findClass_of_methodNamed Bd.named
  have hnm := (name_of_methodNamed Bd.named Bd.method).1
  have hlk : meth.locks = false := Bd.notSynchronized
  have hret := Bd.returns
  have X0 : Stand p l e ({ frames := 0, cells := 0, slots := 0, locals := 0 } : Room) s m #[(.ref a)] below meth c s₁ [] 0 0 := Stand.of_body Bd
  have e0 : s₁.heap = h0 := by rw [← hh, Bd.state]; rfl
  have N0 := Fr.nil n0
  have K0 : Keep h0 h0 [a] := Keep.refl _ _
  show Goes p e below s (Q_rm7b Z a bb vs pos bs h0 n0) ({ frames := 0, cells := 0, slots := 0, locals := 0 } : Room).cells ({ frames := 0, cells := 0, slots := 0, locals := 0 } : Room).slots _
  refine Goes.go (fun t k => castTop (ef_rm7b m a) k) ?_
  have nab := own_neA E0 (hw _ (List.mem_of_getElem? (i := 2) rfl)) A0
  show Goes _ _ _ _ _ _ _ (s₁.setTop (mkF m 0 #[.val (.ref a), .unset, .unset, .unset, .unset] []))
  refine Goes.go (fun _ k => XS.lconst X0.here hx rfl (hb hby d5_0) k) ?_
  show Goes _ _ _ _ _ _ _ (s₁.setTop (mkF m 1 _ [(.long (0 : Int64))]))
  refine Goes.go (fun _ k => XS.lstoreN X0.here hx rfl (hb hby d5_1) rfl (l' := #[.val (.ref a), .val (.long (0 : Int64)), .second, .unset, .unset]) rfl k) ?_
  show Goes _ _ _ _ _ _ _ (s₁.setTop (mkF m 2 #[.val (.ref a), .val (.long (0 : Int64)), .second, .unset, .unset] []))
  refine Goes.go (fun _ k => XS.iconst X0.here hx rfl (hb hby d5_2) k) ?_
  show Goes _ _ _ _ _ _ _ (s₁.setTop (mkF m 3 _ [(.int (0 : Int32))]))
  refine Goes.go (fun _ k => XS.istoreN X0.here hx rfl (hb hby d5_3) rfl (l' := #[.val (.ref a), .val (.long (0 : Int64)), .second, .val (.int (0 : Int32)), .unset]) rfl k) ?_
  show Goes _ _ _ _ _ _ _ (s₁.setTop (mkF m 4 #[.val (.ref a), .val (.long (0 : Int64)), .second, .val (.int (0 : Int32)), .unset] []))
  exact lp4 hw hx hby hml hown hnm hlk hret hZ n0 a bb vs nab ga h0 bs pos 0 0 _ One.u Z0 X0 e0 N0 K0 E0 F_in F_po A0 hc (fun _ _ N K E F G => ⟨rfl, N, K, E, F, G⟩)
theorem d6_0 : decode jdk_29_method_43_code 0 = .ok (.lload_n 0, 1) := by decide +kernel
theorem d6_1 : decode jdk_29_method_43_code 1 = .ok (.l2i, 1) := by decide +kernel
theorem d6_2 : decode jdk_29_method_43_code 2 = .ok (.i2l, 1) := by decide +kernel
theorem d6_3 : decode jdk_29_method_43_code 3 = .ok (.lload_n 0, 1) := by decide +kernel
theorem d6_4 : decode jdk_29_method_43_code 4 = .ok (.lcmp, 1) := by decide +kernel
theorem d6_5 : decode jdk_29_method_43_code 5 = .ok (.ifCond .eq 13, 3) := by decide +kernel
theorem d6_8 : decode jdk_29_method_43_code 8 = .ok (.new 109, 3) := by decide +kernel
theorem d6_11 : decode jdk_29_method_43_code 11 = .ok (.dup, 1) := by decide +kernel
theorem d6_12 : decode jdk_29_method_43_code 12 = .ok (.ldc 111, 2) := by decide +kernel
theorem d6_14 : decode jdk_29_method_43_code 14 = .ok (.invokespecial 113, 3) := by decide +kernel
theorem d6_17 : decode jdk_29_method_43_code 17 = .ok (.athrow, 1) := by decide +kernel
theorem d6_18 : decode jdk_29_method_43_code 18 = .ok (.lload_n 0, 1) := by decide +kernel
theorem d6_19 : decode jdk_29_method_43_code 19 = .ok (.l2i, 1) := by decide +kernel
theorem d6_20 : decode jdk_29_method_43_code 20 = .ok (.ireturn, 1) := by decide +kernel
theorem ef_rm6 (m : MethodId) (p0 : Int64) : entryFrame m #[(.long p0)] 2 = mkF m 0 #[.val (.long p0), .second] [] := by first | (simp [entryFrame, mkF, argsToLocals, Value.category]; done) | rfl
def Q_rm6 (Z : State) (p0 : Int64) (h0 : Heap) (n0 : Nat) (v : Option Value) (h : Heap) (L : List Loc) : Prop := v = some (.int p0.toInt32) ∧ Fr n0 L ∧ h = h0
set_option maxRecDepth 65536 in
set_option maxHeartbeats 40000000 in
theorem rm6 (l : Launch) (Z : State) (a0 : Array Value) (hw : ∀ d ∈ tables_1, d.before a0 Z = true) (ws : List Jvm.Cond) (p0 : Int64) (h0 : Heap) (n0 : Nat) (Z0 : n0 ≤ h0.size) (ok : p0.toInt32.toInt64 = p0) :
    MetFree l (⟨"java/lang/Math", "toIntExact", "(J)I"⟩ : MethodName) (head1 (Jvm.Cond.code (⟨"java/lang/Math", "toIntExact", "(J)I"⟩ : MethodName) jdk_29_method_43_code 2 (some .int) :: ws) ({ frames := 0, cells := 0, slots := 0, locals := 0 } : Room)) (fun aa U => aa = #[(.long p0)] ∧ Z.Warmed39 U.vm ∧ U.heap = h0) (fun _ _ _ _ _ => True) (fun _ U o U' => ∃ v L, o = .returned v ∧ Q_rm6 Z p0 h0 n0 v U'.heap L ∧ FrameEnd U o U' L ({ frames := 0, cells := 0, slots := 0, locals := 0 } : Room).cells ({ frames := 0, cells := 0, slots := 0, locals := 0 } : Room).slots) := by
  refine MetFree.of_bodySF (Jvm.Free.JP.mathPlain rfl (by decide +kernel)) hisR ?_
  intro p e s m args below meth c s₁ Bd hml0 hP hK
  obtain ⟨rfl, hZ, hh⟩ := hP
  have hx := Bd.exec
  have hby := Bd.bytes
  have hml : c.maxLocals = 2 := hml0
  have hown : s.vm.findClass "java/lang/Math" = some m.cls := findClass_of_methodNamed Bd.named
  have hnm := (name_of_methodNamed Bd.named Bd.method).1
  have hlk : meth.locks = false := Bd.notSynchronized
  have hret := Bd.returns
  have X0 : Stand p l e ({ frames := 0, cells := 0, slots := 0, locals := 0 } : Room) s m #[(.long p0)] below meth c s₁ [] 0 0 := Stand.of_body Bd
  have e0 : s₁.heap = h0 := by rw [← hh, Bd.state]; rfl
  have N0 := Fr.nil n0
  have K0 : Keep h0 h0 [] := Keep.refl _ _
  show Goes p e below s (Q_rm6 Z p0 h0 n0) ({ frames := 0, cells := 0, slots := 0, locals := 0 } : Room).cells ({ frames := 0, cells := 0, slots := 0, locals := 0 } : Room).slots _
  refine Goes.go (fun t k => castTop (ef_rm6 m p0) k) ?_
  show Goes _ _ _ _ _ _ _ (s₁.setTop (mkF m 0 #[.val (.long p0), .second] []))
  refine Goes.go (fun _ k => XS.lloadN X0.here hx rfl (hb hby d6_0) rfl k) ?_
  show Goes _ _ _ _ _ _ _ (s₁.setTop (mkF m 1 _ [(.long p0)]))
  refine Goes.go (fun _ k => XS.l2i X0.here hx rfl (hb hby d6_1) rfl k) ?_
  show Goes _ _ _ _ _ _ _ (s₁.setTop (mkF m 2 _ [(.int (p0).toInt32)]))
  refine Goes.go (fun _ k => XS.i2l X0.here hx rfl (hb hby d6_2) rfl k) ?_
  show Goes _ _ _ _ _ _ _ (s₁.setTop (mkF m 3 _ [(.long ((p0).toInt32).toInt64)]))
  refine Goes.go (fun _ k => XS.lloadN X0.here hx rfl (hb hby d6_3) rfl k) ?_
  show Goes _ _ _ _ _ _ _ (s₁.setTop (mkF m 4 _ [(.long p0), (.long ((p0).toInt32).toInt64)]))
  refine Goes.go (fun _ k => XT.lcmp X0.here hx rfl (hb hby d6_4) rfl k) ?_
  show Goes _ _ _ _ _ _ _ (s₁.setTop (mkF m 5 _ [(.int (XT.cmpL ((p0).toInt32).toInt64 p0))]))
  refine Goes.go (fun _ k => XS.ifYes X0.here hx rfl (pc0 := 5) (pc' := 18) rfl (hb hby d6_5) rfl (XT.ll_eq_t ok) (by decide) (by decide) k) ?_
  show Goes _ _ _ _ _ _ _ (s₁.setTop (mkF m 18 _ []))
  refine Goes.go (fun _ k => XS.lloadN X0.here hx rfl (hb hby d6_18) rfl k) ?_
  show Goes _ _ _ _ _ _ _ (s₁.setTop (mkF m 19 _ [(.long p0)]))
  refine Goes.go (fun _ k => XS.l2i X0.here hx rfl (hb hby d6_19) rfl k) ?_
  show Goes _ _ _ _ _ _ _ (s₁.setTop (mkF m 20 _ [(.int (p0).toInt32)]))
  exact Goes.outI X0 hx hlk hret (hb hby d6_20) e0 ⟨rfl, N0, rfl⟩ (by decide) (by decide)
theorem d4_0 : decode prog_31_method_3_code 0 = .ok (.aload_n 0, 1) := by decide +kernel
theorem d4_1 : decode prog_31_method_3_code 1 = .ok (.invokevirtual 17, 3) := by decide +kernel
theorem d4_4 : decode prog_31_method_3_code 4 = .ok (.invokestatic 21, 3) := by decide +kernel
theorem d4_7 : decode prog_31_method_3_code 7 = .ok (.ireturn, 1) := by decide +kernel
theorem ef_rm4 (m : MethodId) (a : Addr) : entryFrame m #[(.ref a)] 1 = mkF m 0 #[.val (.ref a)] [] := by first | (simp [entryFrame, mkF, argsToLocals, Value.category]; done) | rfl
def Q_rm4 (Z : State) (a : Addr) (bb : Addr) (vs : List Value) (pos : Int32) (bs : List Int32) (h0 : Heap) (n0 : Nat) (v : Option Value) (h : Heap) (L : List Loc) : Prop := v = some (.int (svb bs 0 0).toInt32) ∧ Fr n0 L ∧ Keep h0 h [a] ∧ Exa Z h a "com/example/countermand/countermand/Packed$Reader" ∧ Fld Z h a "com/example/countermand/countermand/Packed$Reader" "in" "[B" (.ref bb) ∧ Fld Z h a "com/example/countermand/countermand/Packed$Reader" "position" "I" (.int (endp bs pos))
set_option maxRecDepth 65536 in
set_option maxHeartbeats 40000000 in
theorem rm4 (l : Launch) (Z : State) (a0 : Array Value) (hw : ∀ d ∈ tables_1, d.before a0 Z = true) (ws : List Jvm.Cond) (a : Addr) (bb : Addr) (vs : List Value) (pos : Int32) (bs : List Int32) (h0 : Heap) (n0 : Nat) (Z0 : n0 ≤ h0.size) (E0 : Exa Z h0 a "com/example/countermand/countermand/Packed$Reader") (F_in : Fld Z h0 a "com/example/countermand/countermand/Packed$Reader" "in" "[B" (.ref bb)) (F_po : Fld Z h0 a "com/example/countermand/countermand/Packed$Reader" "position" "I" (.int pos)) (ga : n0 ≤ a) (A0 : Arl Z h0 bb .byte vs) (hc : chain bs pos vs) (ok : (svb bs 0 0).toInt32.toInt64 = svb bs 0 0) :
    MetFree l (⟨"com/example/countermand/countermand/Packed$Reader", "count", "()I"⟩ : MethodName) (head1 (Jvm.Cond.code (⟨"com/example/countermand/countermand/Packed$Reader", "count", "()I"⟩ : MethodName) prog_31_method_3_code 1 (some .int) :: ws) ({ frames := 1, cells := 0, slots := 0, locals := 16 } : Room)) (fun aa U => aa = #[(.ref a)] ∧ Z.Warmed39 U.vm ∧ U.heap = h0) (fun _ _ _ _ _ => True) (fun _ U o U' => ∃ v L, o = .returned v ∧ Q_rm4 Z a bb vs pos bs h0 n0 v U'.heap L ∧ FrameEnd U o U' L ({ frames := 1, cells := 0, slots := 0, locals := 16 } : Room).cells ({ frames := 1, cells := 0, slots := 0, locals := 16 } : Room).slots) := by
  refine MetFree.of_bodySF (plainFor_of_name pn0) hisR ?_
  intro p e s m args below meth c s₁ Bd hml0 hP hK
  obtain ⟨rfl, hZ, hh⟩ := hP
  have hx := Bd.exec
  have hby := Bd.bytes
  have hml : c.maxLocals = 1 := hml0
  have hown : s.vm.findClass "com/example/countermand/countermand/Packed$Reader" = some m.cls := findClass_of_methodNamed Bd.named
  have hnm := (name_of_methodNamed Bd.named Bd.method).1
  have hlk : meth.locks = false := Bd.notSynchronized
  have hret := Bd.returns
  have X0 : Stand p l e ({ frames := 1, cells := 0, slots := 0, locals := 16 } : Room) s m #[(.ref a)] below meth c s₁ [] 0 0 := Stand.of_body Bd
  have e0 : s₁.heap = h0 := by rw [← hh, Bd.state]; rfl
  have N0 := Fr.nil n0
  have K0 : Keep h0 h0 [a] := Keep.refl _ _
  show Goes p e below s (Q_rm4 Z a bb vs pos bs h0 n0) ({ frames := 1, cells := 0, slots := 0, locals := 16 } : Room).cells ({ frames := 1, cells := 0, slots := 0, locals := 16 } : Room).slots _
  refine Goes.go (fun t k => castTop (ef_rm4 m a) k) ?_
  have nab := own_neA E0 (hw _ (List.mem_of_getElem? (i := 2) rfl)) A0
  show Goes _ _ _ _ _ _ _ (s₁.setTop (mkF m 0 #[.val (.ref a)] []))
  refine Goes.go (fun _ k => XS.aloadN X0.here hx rfl (hb hby d4_0) rfl rfl k) ?_
  show Goes _ _ _ _ _ _ _ (s₁.setTop (mkF m 1 _ [(.ref a)]))
  obtain ⟨cq1, qa1, qb1⟩ := E0.cell
  obtain ⟨_, _, ⟨T1, L1, k1, n1⟩, -, X1, ⟨Lc1, hQ1, l1, y1, z1⟩, st1⟩ := X0.privateBack hx (y := (⟨"com/example/countermand/countermand/Packed$Reader", "sevenBits", "()J"⟩ : MethodName)) hown (mvT hZ (hw _ (List.mem_of_getElem? (i := 24) rfl))) (mvT hZ (hw _ (List.mem_of_getElem? (i := 25) rfl))) (own_selP (args := #[]) (mvT hZ (hw _ (List.mem_of_getElem? (i := 17) rfl))) rfl (Cond.privateMethod_at (mvP hZ (hw _ (List.mem_of_getElem? (i := 26) rfl)) (args := #[]))) (mvT hZ (hw _ (List.mem_of_getElem? (i := 25) rfl))) (by decide)) (Cond.privateMethod_at (mvP hZ (hw _ (List.mem_of_getElem? (i := 26) rfl)) (args := #[]))) (mvT hZ (hw _ (List.mem_of_getElem? (i := 27) rfl))) (by decide) (backOf (W := 0) (rm7b l Z a0 hw [] a bb _ pos bs h0 n0 Z0 E0 F_in F_po ga A0 hc) hZ (hw _ (List.mem_of_getElem? (i := 27) rfl)) (hw _ (List.mem_of_getElem? (i := 3) rfl)) (by decide) (by decide)) (g := (mkF m 1 #[.val (.ref a)] [(.ref a)])) rfl (by rw [hml]; rfl) (Steps.refl _) (a := a) (by rw [e0]; exact qa1) qb1 (argsL := []) (rest := []) (lenOf pd3 rfl) rfl (by show 2 * 0 + _ ≤ _; exact Nat.le_of_eq rfl) (hb hby d4_1) (fun _ _ => ⟨rfl, e0, (by decide : 0 + 0 ≤ _), (by decide : 0 + 0 ≤ _)⟩)
  dsimp only [Pt.U, Pt.locs, Pt.cells, Pt.slots] at X1 l1 y1 z1 st1 hQ1
  subst l1 y1 z1
  obtain ⟨rfl, Nq1, Kq1, Eq1, Fq1_0, Fq1_1⟩ := hQ1
  have N1 := Fr.app N0 Nq1
  have Z1 : n0 ≤ T1.heap.size := Nat.le_trans Z0 Kq1.1
  have f := Arl.keep A0 Kq1 (ninS nab.symm nin0)
  have K1 := K0.trans Kq1 (allS (Or.inl (List.mem_of_getElem? (i := 0) rfl)) all0)
  refine Goes.go (fun _ k => st1.trans k) ?_
  show Goes _ _ _ _ _ _ _ (T1.setTop (mkF m 4 _ [(.long (svb bs 0 0))]))
  obtain ⟨_, _, ⟨T2, L2, k2, n2⟩, -, X2, ⟨Lc2, hQ2, l2, y2, z2⟩, st2⟩ := Jvm.LawKit.callS X1 hx (y := (⟨"java/lang/Math", "toIntExact", "(J)I"⟩ : MethodName)) hown (mvT hZ (hw _ (List.mem_of_getElem? (i := 28) rfl))) (mvT hZ (hw _ (List.mem_of_getElem? (i := 29) rfl))) (mvT hZ (hw _ (List.mem_of_getElem? (i := 30) rfl))) (mvT hZ (hw _ (List.mem_of_getElem? (i := 31) rfl))) (by decide) (backOf (W := 0) (rm6 l Z a0 hw [] (svb bs 0 0) T1.heap n0 Z1 ok) hZ (hw _ (List.mem_of_getElem? (i := 31) rfl)) (hw _ (List.mem_of_getElem? (i := 30) rfl)) (by decide) (by decide)) (g := (mkF m 4 #[.val (.ref a)] [(.long (svb bs 0 0))])) rfl (by rw [hml]; rfl) (argsL := [(.long (svb bs 0 0))]) (rest := []) (lenOf pd4 rfl) rfl (by show 2 * 0 + _ ≤ _; exact Nat.le_of_eq rfl) (hb hby d4_4) (fun _ _ => ⟨rfl, rfl, (by decide : 0 + 0 ≤ _), (by decide : 0 + 0 ≤ _)⟩)
  dsimp only [Pt.U, Pt.locs, Pt.cells, Pt.slots] at X2 l2 y2 z2 st2 hQ2
  subst l2 y2 z2
  obtain ⟨rfl, Nq2, hh2⟩ := hQ2
  have N2 := Fr.app N1 Nq2
  refine Goes.go (st2) ?_
  show Goes _ _ _ _ _ _ _ (T2.setTop (mkF m 7 _ [(.int ((svb bs 0 0)).toInt32)]))
  exact Goes.outI X2 hx hlk hret (hb hby d4_7) hh2 ⟨rfl, N2, K1, Eq1, Fq1_0, Fq1_1⟩ (by decide) (by decide)
theorem d3_0 : decode prog_31_method_6_code 0 = .ok (.aload_n 0, 1) := by decide +kernel
theorem d3_1 : decode prog_31_method_6_code 1 = .ok (.getfield 13, 3) := by decide +kernel
theorem d3_4 : decode prog_31_method_6_code 4 = .ok (.aload_n 0, 1) := by decide +kernel
theorem d3_5 : decode prog_31_method_6_code 5 = .ok (.getfield 7, 3) := by decide +kernel
theorem d3_8 : decode prog_31_method_6_code 8 = .ok (.arraylength, 1) := by decide +kernel
theorem d3_9 : decode prog_31_method_6_code 9 = .ok (.if_icmp .eq 26, 3) := by decide +kernel
theorem d3_12 : decode prog_31_method_6_code 12 = .ok (.new 31, 3) := by decide +kernel
theorem d3_15 : decode prog_31_method_6_code 15 = .ok (.dup, 1) := by decide +kernel
theorem d3_16 : decode prog_31_method_6_code 16 = .ok (.aload_n 0, 1) := by decide +kernel
theorem d3_17 : decode prog_31_method_6_code 17 = .ok (.getfield 7, 3) := by decide +kernel
theorem d3_20 : decode prog_31_method_6_code 20 = .ok (.arraylength, 1) := by decide +kernel
theorem d3_21 : decode prog_31_method_6_code 21 = .ok (.aload_n 0, 1) := by decide +kernel
theorem d3_22 : decode prog_31_method_6_code 22 = .ok (.getfield 13, 3) := by decide +kernel
theorem d3_25 : decode prog_31_method_6_code 25 = .ok (.isub, 1) := by decide +kernel
theorem d3_26 : decode prog_31_method_6_code 26 = .ok (.invokedynamic 33, 5) := by decide +kernel
theorem d3_31 : decode prog_31_method_6_code 31 = .ok (.invokespecial 37, 3) := by decide +kernel
theorem d3_34 : decode prog_31_method_6_code 34 = .ok (.athrow, 1) := by decide +kernel
theorem d3_35 : decode prog_31_method_6_code 35 = .ok (.return_, 1) := by decide +kernel
theorem ef_rm3 (m : MethodId) (a : Addr) : entryFrame m #[(.ref a)] 1 = mkF m 0 #[.val (.ref a)] [] := by first | (simp [entryFrame, mkF, argsToLocals, Value.category]; done) | rfl
def Q_rm3 (Z : State) (a : Addr) (bb : Addr) (vs : List Value) (pos : Int32) (h0 : Heap) (n0 : Nat) (v : Option Value) (h : Heap) (L : List Loc) : Prop := v = none ∧ Fr n0 L ∧ h = h0
set_option maxRecDepth 65536 in
set_option maxHeartbeats 40000000 in
theorem rm3 (l : Launch) (Z : State) (a0 : Array Value) (hw : ∀ d ∈ tables_1, d.before a0 Z = true) (ws : List Jvm.Cond) (a : Addr) (bb : Addr) (vs : List Value) (pos : Int32) (h0 : Heap) (n0 : Nat) (Z0 : n0 ≤ h0.size) (F_in : Fld Z h0 a "com/example/countermand/countermand/Packed$Reader" "in" "[B" (.ref bb)) (F_po : Fld Z h0 a "com/example/countermand/countermand/Packed$Reader" "position" "I" (.int pos)) (A0 : Arl Z h0 bb .byte vs) (hl : vs.length.toInt32 = pos) :
    MetFree l (⟨"com/example/countermand/countermand/Packed$Reader", "end", "()V"⟩ : MethodName) (head1 (Jvm.Cond.code (⟨"com/example/countermand/countermand/Packed$Reader", "end", "()V"⟩ : MethodName) prog_31_method_6_code 1 none :: ws) ({ frames := 0, cells := 0, slots := 0, locals := 0 } : Room)) (fun aa U => aa = #[(.ref a)] ∧ Z.Warmed39 U.vm ∧ U.heap = h0) (fun _ _ _ _ _ => True) (fun _ U o U' => ∃ v L, o = .returned v ∧ Q_rm3 Z a bb vs pos h0 n0 v U'.heap L ∧ FrameEnd U o U' L ({ frames := 0, cells := 0, slots := 0, locals := 0 } : Room).cells ({ frames := 0, cells := 0, slots := 0, locals := 0 } : Room).slots) := by
  refine MetFree.of_bodySF (plainFor_of_name pn0) hisR ?_
  intro p e s m args below meth c s₁ Bd hml0 hP hK
  obtain ⟨rfl, hZ, hh⟩ := hP
  have hx := Bd.exec
  have hby := Bd.bytes
  have hml : c.maxLocals = 1 := hml0
  have hown : s.vm.findClass "com/example/countermand/countermand/Packed$Reader" = some m.cls := findClass_of_methodNamed Bd.named
  have hnm := (name_of_methodNamed Bd.named Bd.method).1
  have hlk : meth.locks = false := Bd.notSynchronized
  have hret := Bd.returns
  have X0 : Stand p l e ({ frames := 0, cells := 0, slots := 0, locals := 0 } : Room) s m #[(.ref a)] below meth c s₁ [] 0 0 := Stand.of_body Bd
  have e0 : s₁.heap = h0 := by rw [← hh, Bd.state]; rfl
  have N0 := Fr.nil n0
  have K0 : Keep h0 h0 [] := Keep.refl _ _
  show Goes p e below s (Q_rm3 Z a bb vs pos h0 n0) ({ frames := 0, cells := 0, slots := 0, locals := 0 } : Room).cells ({ frames := 0, cells := 0, slots := 0, locals := 0 } : Room).slots _
  refine Goes.go (fun t k => castTop (ef_rm3 m a) k) ?_
  show Goes _ _ _ _ _ _ _ (s₁.setTop (mkF m 0 #[.val (.ref a)] []))
  refine Goes.go (fun _ k => XS.aloadN X0.here hx rfl (hb hby d3_0) rfl rfl k) ?_
  show Goes _ _ _ _ _ _ _ (s₁.setTop (mkF m 1 _ [(.ref a)]))
  obtain ⟨T1, X1, e1, st1⟩ := getF X0 hx hZ hown (host := "") (Or.inl (hw _ (List.mem_of_getElem? (i := 12) rfl))) Via.refl e0 F_po (g := (mkF m 1 #[.val (.ref a)] [(.ref a)])) rfl rfl (hb hby d3_1)
  refine Goes.go (st1) ?_
  show Goes _ _ _ _ _ _ _ (T1.setTop (mkF m 4 _ [(.int pos)]))
  refine Goes.go (fun _ k => XS.aloadN X1.here hx rfl (hb hby d3_4) rfl rfl k) ?_
  show Goes _ _ _ _ _ _ _ (T1.setTop (mkF m 5 _ [(.ref a), (.int pos)]))
  obtain ⟨T2, X2, e2, st2⟩ := getF X1 hx hZ hown (host := "") (Or.inl (hw _ (List.mem_of_getElem? (i := 10) rfl))) Via.refl e1 F_in (g := (mkF m 5 #[.val (.ref a)] [(.ref a), (.int pos)])) rfl rfl (hb hby d3_5)
  refine Goes.go (st2) ?_
  show Goes _ _ _ _ _ _ _ (T2.setTop (mkF m 8 _ [(.ref bb), (.int pos)]))
  refine Goes.go (own_len X2 hx hZ e2 A0 (n := pos) hl rfl rfl (hb hby d3_8)) ?_
  show Goes _ _ _ _ _ _ _ (T2.setTop (mkF m 9 _ [(.int pos), (.int pos)]))
  refine Goes.go (fun _ k => XS.icmpYes X2.here hx rfl (pc0 := 9) (pc' := 35) rfl (hb hby d3_9) rfl (XT.ii_eq_t rfl) (by decide) (by decide) k) ?_
  show Goes _ _ _ _ _ _ _ (T2.setTop (mkF m 35 _ []))
  exact Goes.outV X2 hx hlk hret (hb hby d3_35) e2 ⟨rfl, N0, rfl⟩ (by decide) (by decide)
theorem pn1 : plainName "com/example/countermand/countermand/ReaderEndPinLaw" = true := by first | (simp [plainName, overriddenIn]; done) | decide +kernel
theorem ef_rm0 (m : MethodId) (p0 : Int32) (p1 : Int64) : entryFrame m #[(.int p0), (.long p1)] maxLocals = mkF m 0 #[.val (.int p0), .val (.long p1), .second, .unset, .unset, .unset, .unset, .unset, .unset, .unset, .unset] [] := by first | (simp [entryFrame, mkF, argsToLocals, Value.category, maxLocals]; done) | rfl
def Q_rm0 (Z : State) (p0 : Int32) (p1 : Int64) (h0 : Heap) (n0 : Nat) (v : Option Value) (h : Heap) (L : List Loc) : Prop := v = some (.int 1) ∧ Fr n0 L
set_option maxRecDepth 65536 in
set_option maxHeartbeats 40000000 in
theorem rm0 (l : Launch) (Z : State) (a0 : Array Value) (hw : ∀ d ∈ tables_1, d.before a0 Z = true) (ws : List Jvm.Cond) (p0 : Int32) (p1 : Int64) (h0 : Heap) (n0 : Nat) (Z0 : n0 ≤ h0.size)  :
    MetFree l x (head1 (Jvm.Cond.code x code maxLocals ret :: ws) room_1) (fun aa U => aa = #[(.int p0), (.long p1)] ∧ Z.Warmed39 U.vm ∧ U.heap = h0) (fun _ _ _ _ _ => True) (fun _ U o U' => ∃ v L, o = .returned v ∧ Q_rm0 Z p0 p1 h0 n0 v U'.heap L ∧ FrameEnd U o U' L room_1.cells room_1.slots) := by
  refine MetFree.of_bodySF (plainFor_of_name pn1) hisR ?_
  intro p e s m args below meth c s₁ Bd hml0 hP hK
  obtain ⟨rfl, hZ, hh⟩ := hP
  have hx := Bd.exec
  have hby := Bd.bytes
  have hml : c.maxLocals = 11 := hml0
  have hown : s.vm.findClass "com/example/countermand/countermand/ReaderEndPinLaw" = some m.cls := findClass_of_methodNamed Bd.named
  have hnm := (name_of_methodNamed Bd.named Bd.method).1
  have hlk : meth.locks = false := Bd.notSynchronized
  have hret := Bd.returns
  have X0 : Stand p l e room_1 s m #[(.int p0), (.long p1)] below meth c s₁ [] 0 0 := Stand.of_body Bd
  have e0 : s₁.heap = h0 := by rw [← hh, Bd.state]; rfl
  have N0 := Fr.nil n0
  have K0 : Keep h0 h0 [] := Keep.refl _ _
  show Goes p e below s (Q_rm0 Z p0 p1 h0 n0) room_1.cells room_1.slots _
  refine Goes.go (fun t k => castTop (ef_rm0 m p0 p1) k) ?_
  show Goes _ _ _ _ _ _ _ (s₁.setTop (mkF m 0 #[.val (.int p0), .val (.long p1), .second, .unset, .unset, .unset, .unset, .unset, .unset, .unset, .unset] []))
  refine Goes.go (fun _ k => XS.iloadN X0.here hx rfl (hb hby at_0) rfl k) ?_
  show Goes _ _ _ _ _ _ _ (s₁.setTop (mkF m 1 _ [(.int p0)]))
  refine Goes.go (fun _ k => XS.iconst X0.here hx rfl (hb hby at_1) k) ?_
  show Goes _ _ _ _ _ _ _ (s₁.setTop (mkF m 2 _ [(.int (3 : Int32)), (.int p0)]))
  refine Goes.go (fun _ k => XS.iand X0.here hx rfl (hb hby at_2) rfl k) ?_
  show Goes _ _ _ _ _ _ _ (s₁.setTop (mkF m 3 _ [(.int (p0 &&& (3 : Int32)))]))
  generalize hv3 : (p0 &&& (3 : Int32)) = v3
  refine Goes.go (fun _ k => XS.istoreN X0.here hx rfl (hb hby at_3) rfl (l' := #[.val (.int p0), .val (.long p1), .second, .val (.int v3), .unset, .unset, .unset, .unset, .unset, .unset, .unset]) rfl k) ?_
  show Goes _ _ _ _ _ _ _ (s₁.setTop (mkF m 4 #[.val (.int p0), .val (.long p1), .second, .val (.int v3), .unset, .unset, .unset, .unset, .unset, .unset, .unset] []))
  rcases own_k4 hv3 with rfl | rfl | rfl | rfl
  · skip
    show Goes _ _ _ _ _ _ _ (s₁.setTop (mkF m 4 #[.val (.int p0), .val (.long p1), .second, .val (.int (0 : Int32)), .unset, .unset, .unset, .unset, .unset, .unset, .unset] []))
    refine Goes.go (fun _ k => XS.iloadN X0.here hx rfl (hb hby at_4) rfl k) ?_
    show Goes _ _ _ _ _ _ _ (s₁.setTop (mkF m 5 _ [(.int p0)]))
    refine Goes.go (fun _ k => XS.iconst X0.here hx rfl (hb hby at_5) k) ?_
    show Goes _ _ _ _ _ _ _ (s₁.setTop (mkF m 6 _ [(.int (2 : Int32)), (.int p0)]))
    refine Goes.go (fun _ k => XS.iushr X0.here hx rfl (hb hby at_6) rfl k) ?_
    show Goes _ _ _ _ _ _ _ (s₁.setTop (mkF m 7 _ [(.int ((p0).toUInt32 >>> ((2 : Int32) &&& 31).toUInt32).toInt32)]))
    refine Goes.go (fun _ k => XS.iconst X0.here hx rfl (hb hby at_7) k) ?_
    show Goes _ _ _ _ _ _ _ (s₁.setTop (mkF m 8 _ [(.int (1 : Int32)), (.int ((p0).toUInt32 >>> ((2 : Int32) &&& 31).toUInt32).toInt32)]))
    refine Goes.go (fun _ k => XS.iand X0.here hx rfl (hb hby at_8) rfl k) ?_
    show Goes _ _ _ _ _ _ _ (s₁.setTop (mkF m 9 _ [(.int (((p0).toUInt32 >>> ((2 : Int32) &&& 31).toUInt32).toInt32 &&& (1 : Int32)))]))
    by_cases c9 : (((p0).toUInt32 >>> ((2 : Int32) &&& 31).toUInt32).toInt32 &&& (1 : Int32)) = 0
    · skip
      refine Goes.go (fun _ k => XS.ifYes X0.here hx rfl (pc0 := 9) (pc' := 16) rfl (hb hby at_9) rfl (XT.i0_eq_t c9) (by decide) (by decide) k) ?_
      show Goes _ _ _ _ _ _ _ (s₁.setTop (mkF m 16 _ []))
      refine Goes.go (fun _ k => XS.iconst X0.here hx rfl (hb hby at_16) k) ?_
      show Goes _ _ _ _ _ _ _ (s₁.setTop (mkF m 17 _ [(.int (0 : Int32))]))
      refine Goes.go (fun _ k => XS.istore X0.here hx rfl (hb hby at_17) rfl (l' := #[.val (.int p0), .val (.long p1), .second, .val (.int (0 : Int32)), .val (.int (0 : Int32)), .unset, .unset, .unset, .unset, .unset, .unset]) rfl k) ?_
      show Goes _ _ _ _ _ _ _ (s₁.setTop (mkF m 19 #[.val (.int p0), .val (.long p1), .second, .val (.int (0 : Int32)), .val (.int (0 : Int32)), .unset, .unset, .unset, .unset, .unset, .unset] []))
      refine Goes.go (fun _ k => XS.bipush X0.here hx rfl (hb hby at_19) k) ?_
      show Goes _ _ _ _ _ _ _ (s₁.setTop (mkF m 21 _ [(.int (8 : Int32))]))
      obtain ⟨T1, h1, X1, e1, E1, A1, st1⟩ := own_newP X0 hx hZ (aty := .byte) (hw _ (List.mem_of_getElem? (i := 0) rfl)) e0 (g := (mkF m 21 #[.val (.int p0), .val (.long p1), .second, .val (.int (0 : Int32)), .val (.int (0 : Int32)), .unset, .unset, .unset, .unset, .unset, .unset] [(.int (8 : Int32))])) rfl (hb hby at_21) rfl (n := (8 : Int32)) (by decide) (cap := 8) (by decide) (by decide) (by decide) (by decide)
      obtain ⟨ar21, gar21⟩ : ∃ z, z = h0.size := ⟨_, rfl⟩
      rw [← gar21] at A1 st1
      have Z1 : n0 ≤ h1.size := Nat.le_trans Z0 E1.1
      have ge_ar21 : n0 ≤ ar21 := Nat.le_trans Z0 (Nat.le_of_eq gar21.symm)
      have f : Arl Z h1 ar21 .byte [(.int (0 : Int32)), (.int (0 : Int32)), (.int (0 : Int32)), (.int (0 : Int32)), (.int (0 : Int32)), (.int (0 : Int32)), (.int (0 : Int32)), (.int (0 : Int32))] := A1
      refine Goes.go (st1) ?_
      show Goes _ _ _ _ _ _ _ (T1.setTop (mkF m 23 _ [(.ref ar21)]))
      refine Goes.go (fun _ k => XS.astore X1.here hx rfl (hb hby at_23) rfl rfl (l' := #[.val (.int p0), .val (.long p1), .second, .val (.int (0 : Int32)), .val (.int (0 : Int32)), .val (.ref ar21), .unset, .unset, .unset, .unset, .unset]) rfl k) ?_
      show Goes _ _ _ _ _ _ _ (T1.setTop (mkF m 25 #[.val (.int p0), .val (.long p1), .second, .val (.int (0 : Int32)), .val (.int (0 : Int32)), .val (.ref ar21), .unset, .unset, .unset, .unset, .unset] []))
      refine Goes.go (fun _ k => XS.aload X1.here hx rfl (hb hby at_25) rfl rfl k) ?_
      show Goes _ _ _ _ _ _ _ (T1.setTop (mkF m 27 _ [(.ref ar21)]))
      refine Goes.go (fun _ k => XS.iconst X1.here hx rfl (hb hby at_27) k) ?_
      show Goes _ _ _ _ _ _ _ (T1.setTop (mkF m 28 _ [(.int (0 : Int32)), (.ref ar21)]))
      refine Goes.go (fun _ k => XS.lloadN X1.here hx rfl (hb hby at_28) rfl k) ?_
      show Goes _ _ _ _ _ _ _ (T1.setTop (mkF m 29 _ [(.long p1), (.int (0 : Int32)), (.ref ar21)]))
      refine Goes.go (fun _ k => XS.l2i X1.here hx rfl (hb hby at_29) rfl k) ?_
      show Goes _ _ _ _ _ _ _ (T1.setTop (mkF m 30 _ [(.int (p1).toInt32), (.int (0 : Int32)), (.ref ar21)]))
      refine Goes.go (fun _ k => XS.i2b X1.here hx rfl (hb hby at_30) rfl k) ?_
      show Goes _ _ _ _ _ _ _ (T1.setTop (mkF m 31 _ [(.int ((p1).toInt32).toInt8.toInt32), (.int (0 : Int32)), (.ref ar21)]))
      obtain ⟨T2, h2, X2, e2, W2, A2, st2⟩ := own_stB X1 hx hZ e1 f (j := (0 : Int32)) (x := ((p1).toInt32).toInt8.toInt32) (by decide) (show (0 : Nat) < 8 by decide) (g := (mkF m 31 #[.val (.int p0), .val (.long p1), .second, .val (.int (0 : Int32)), .val (.int (0 : Int32)), .val (.ref ar21), .unset, .unset, .unset, .unset, .unset] [(.int ((p1).toInt32).toInt8.toInt32), (.int (0 : Int32)), (.ref ar21)])) rfl rfl (hb hby at_31)
      rw [own_nar8] at A2
      have N2 := Fr.snoc X2 N0 ge_ar21
      have Z2 : n0 ≤ h2.size := by rw [W2.size]; exact Z1
      have f_1 : Arl Z h2 ar21 .byte [(.int ((p1).toInt32).toInt8.toInt32), (.int (0 : Int32)), (.int (0 : Int32)), (.int (0 : Int32)), (.int (0 : Int32)), (.int (0 : Int32)), (.int (0 : Int32)), (.int (0 : Int32))] := A2
      refine Goes.go (st2) ?_
      show Goes _ _ _ _ _ _ _ (T2.setTop (mkF m 32 _ []))
      refine Goes.go (fun _ k => XS.aload X2.here hx rfl (hb hby at_32) rfl rfl k) ?_
      show Goes _ _ _ _ _ _ _ (T2.setTop (mkF m 34 _ [(.ref ar21)]))
      refine Goes.go (fun _ k => XS.iconst X2.here hx rfl (hb hby at_34) k) ?_
      show Goes _ _ _ _ _ _ _ (T2.setTop (mkF m 35 _ [(.int (1 : Int32)), (.ref ar21)]))
      refine Goes.go (fun _ k => XS.lloadN X2.here hx rfl (hb hby at_35) rfl k) ?_
      show Goes _ _ _ _ _ _ _ (T2.setTop (mkF m 36 _ [(.long p1), (.int (1 : Int32)), (.ref ar21)]))
      refine Goes.go (fun _ k => XS.bipush X2.here hx rfl (hb hby at_36) k) ?_
      show Goes _ _ _ _ _ _ _ (T2.setTop (mkF m 38 _ [(.int (8 : Int32)), (.long p1), (.int (1 : Int32)), (.ref ar21)]))
      refine Goes.go (fun _ k => XS.lushr X2.here hx rfl (hb hby at_38) rfl k) ?_
      show Goes _ _ _ _ _ _ _ (T2.setTop (mkF m 39 _ [(.long ((p1).toUInt64 >>> ((8 : Int32) &&& 0x3f).toInt64.toUInt64).toInt64), (.int (1 : Int32)), (.ref ar21)]))
      refine Goes.go (fun _ k => XS.l2i X2.here hx rfl (hb hby at_39) rfl k) ?_
      show Goes _ _ _ _ _ _ _ (T2.setTop (mkF m 40 _ [(.int (((p1).toUInt64 >>> ((8 : Int32) &&& 0x3f).toInt64.toUInt64).toInt64).toInt32), (.int (1 : Int32)), (.ref ar21)]))
      refine Goes.go (fun _ k => XS.i2b X2.here hx rfl (hb hby at_40) rfl k) ?_
      show Goes _ _ _ _ _ _ _ (T2.setTop (mkF m 41 _ [(.int ((((p1).toUInt64 >>> ((8 : Int32) &&& 0x3f).toInt64.toUInt64).toInt64).toInt32).toInt8.toInt32), (.int (1 : Int32)), (.ref ar21)]))
      obtain ⟨T3, h3, X3, e3, W3, A3, st3⟩ := own_stB X2 hx hZ e2 f_1 (j := (1 : Int32)) (x := ((((p1).toUInt64 >>> ((8 : Int32) &&& 0x3f).toInt64.toUInt64).toInt64).toInt32).toInt8.toInt32) (by decide) (show (1 : Nat) < 8 by decide) (g := (mkF m 41 #[.val (.int p0), .val (.long p1), .second, .val (.int (0 : Int32)), .val (.int (0 : Int32)), .val (.ref ar21), .unset, .unset, .unset, .unset, .unset] [(.int ((((p1).toUInt64 >>> ((8 : Int32) &&& 0x3f).toInt64.toUInt64).toInt64).toInt32).toInt8.toInt32), (.int (1 : Int32)), (.ref ar21)])) rfl rfl (hb hby at_41)
      rw [own_nar8] at A3
      have N3 := Fr.snoc X3 N2 ge_ar21
      have Z3 : n0 ≤ h3.size := by rw [W3.size]; exact Z2
      have f_2 : Arl Z h3 ar21 .byte [(.int ((p1).toInt32).toInt8.toInt32), (.int ((((p1).toUInt64 >>> ((8 : Int32) &&& 0x3f).toInt64.toUInt64).toInt64).toInt32).toInt8.toInt32), (.int (0 : Int32)), (.int (0 : Int32)), (.int (0 : Int32)), (.int (0 : Int32)), (.int (0 : Int32)), (.int (0 : Int32))] := A3
      refine Goes.go (st3) ?_
      show Goes _ _ _ _ _ _ _ (T3.setTop (mkF m 42 _ []))
      refine Goes.go (fun _ k => XS.aload X3.here hx rfl (hb hby at_42) rfl rfl k) ?_
      show Goes _ _ _ _ _ _ _ (T3.setTop (mkF m 44 _ [(.ref ar21)]))
      refine Goes.go (fun _ k => XS.iconst X3.here hx rfl (hb hby at_44) k) ?_
      show Goes _ _ _ _ _ _ _ (T3.setTop (mkF m 45 _ [(.int (2 : Int32)), (.ref ar21)]))
      refine Goes.go (fun _ k => XS.lloadN X3.here hx rfl (hb hby at_45) rfl k) ?_
      show Goes _ _ _ _ _ _ _ (T3.setTop (mkF m 46 _ [(.long p1), (.int (2 : Int32)), (.ref ar21)]))
      refine Goes.go (fun _ k => XS.bipush X3.here hx rfl (hb hby at_46) k) ?_
      show Goes _ _ _ _ _ _ _ (T3.setTop (mkF m 48 _ [(.int (16 : Int32)), (.long p1), (.int (2 : Int32)), (.ref ar21)]))
      refine Goes.go (fun _ k => XS.lushr X3.here hx rfl (hb hby at_48) rfl k) ?_
      show Goes _ _ _ _ _ _ _ (T3.setTop (mkF m 49 _ [(.long ((p1).toUInt64 >>> ((16 : Int32) &&& 0x3f).toInt64.toUInt64).toInt64), (.int (2 : Int32)), (.ref ar21)]))
      refine Goes.go (fun _ k => XS.l2i X3.here hx rfl (hb hby at_49) rfl k) ?_
      show Goes _ _ _ _ _ _ _ (T3.setTop (mkF m 50 _ [(.int (((p1).toUInt64 >>> ((16 : Int32) &&& 0x3f).toInt64.toUInt64).toInt64).toInt32), (.int (2 : Int32)), (.ref ar21)]))
      refine Goes.go (fun _ k => XS.i2b X3.here hx rfl (hb hby at_50) rfl k) ?_
      show Goes _ _ _ _ _ _ _ (T3.setTop (mkF m 51 _ [(.int ((((p1).toUInt64 >>> ((16 : Int32) &&& 0x3f).toInt64.toUInt64).toInt64).toInt32).toInt8.toInt32), (.int (2 : Int32)), (.ref ar21)]))
      obtain ⟨T4, h4, X4, e4, W4, A4, st4⟩ := own_stB X3 hx hZ e3 f_2 (j := (2 : Int32)) (x := ((((p1).toUInt64 >>> ((16 : Int32) &&& 0x3f).toInt64.toUInt64).toInt64).toInt32).toInt8.toInt32) (by decide) (show (2 : Nat) < 8 by decide) (g := (mkF m 51 #[.val (.int p0), .val (.long p1), .second, .val (.int (0 : Int32)), .val (.int (0 : Int32)), .val (.ref ar21), .unset, .unset, .unset, .unset, .unset] [(.int ((((p1).toUInt64 >>> ((16 : Int32) &&& 0x3f).toInt64.toUInt64).toInt64).toInt32).toInt8.toInt32), (.int (2 : Int32)), (.ref ar21)])) rfl rfl (hb hby at_51)
      rw [own_nar8] at A4
      have N4 := Fr.snoc X4 N3 ge_ar21
      have Z4 : n0 ≤ h4.size := by rw [W4.size]; exact Z3
      have f_3 : Arl Z h4 ar21 .byte [(.int ((p1).toInt32).toInt8.toInt32), (.int ((((p1).toUInt64 >>> ((8 : Int32) &&& 0x3f).toInt64.toUInt64).toInt64).toInt32).toInt8.toInt32), (.int ((((p1).toUInt64 >>> ((16 : Int32) &&& 0x3f).toInt64.toUInt64).toInt64).toInt32).toInt8.toInt32), (.int (0 : Int32)), (.int (0 : Int32)), (.int (0 : Int32)), (.int (0 : Int32)), (.int (0 : Int32))] := A4
      refine Goes.go (st4) ?_
      show Goes _ _ _ _ _ _ _ (T4.setTop (mkF m 52 _ []))
      refine Goes.go (fun _ k => XS.aload X4.here hx rfl (hb hby at_52) rfl rfl k) ?_
      show Goes _ _ _ _ _ _ _ (T4.setTop (mkF m 54 _ [(.ref ar21)]))
      refine Goes.go (fun _ k => XS.iconst X4.here hx rfl (hb hby at_54) k) ?_
      show Goes _ _ _ _ _ _ _ (T4.setTop (mkF m 55 _ [(.int (3 : Int32)), (.ref ar21)]))
      refine Goes.go (fun _ k => XS.lloadN X4.here hx rfl (hb hby at_55) rfl k) ?_
      show Goes _ _ _ _ _ _ _ (T4.setTop (mkF m 56 _ [(.long p1), (.int (3 : Int32)), (.ref ar21)]))
      refine Goes.go (fun _ k => XS.bipush X4.here hx rfl (hb hby at_56) k) ?_
      show Goes _ _ _ _ _ _ _ (T4.setTop (mkF m 58 _ [(.int (24 : Int32)), (.long p1), (.int (3 : Int32)), (.ref ar21)]))
      refine Goes.go (fun _ k => XS.lushr X4.here hx rfl (hb hby at_58) rfl k) ?_
      show Goes _ _ _ _ _ _ _ (T4.setTop (mkF m 59 _ [(.long ((p1).toUInt64 >>> ((24 : Int32) &&& 0x3f).toInt64.toUInt64).toInt64), (.int (3 : Int32)), (.ref ar21)]))
      refine Goes.go (fun _ k => XS.l2i X4.here hx rfl (hb hby at_59) rfl k) ?_
      show Goes _ _ _ _ _ _ _ (T4.setTop (mkF m 60 _ [(.int (((p1).toUInt64 >>> ((24 : Int32) &&& 0x3f).toInt64.toUInt64).toInt64).toInt32), (.int (3 : Int32)), (.ref ar21)]))
      refine Goes.go (fun _ k => XS.i2b X4.here hx rfl (hb hby at_60) rfl k) ?_
      show Goes _ _ _ _ _ _ _ (T4.setTop (mkF m 61 _ [(.int ((((p1).toUInt64 >>> ((24 : Int32) &&& 0x3f).toInt64.toUInt64).toInt64).toInt32).toInt8.toInt32), (.int (3 : Int32)), (.ref ar21)]))
      obtain ⟨T5, h5, X5, e5, W5, A5, st5⟩ := own_stB X4 hx hZ e4 f_3 (j := (3 : Int32)) (x := ((((p1).toUInt64 >>> ((24 : Int32) &&& 0x3f).toInt64.toUInt64).toInt64).toInt32).toInt8.toInt32) (by decide) (show (3 : Nat) < 8 by decide) (g := (mkF m 61 #[.val (.int p0), .val (.long p1), .second, .val (.int (0 : Int32)), .val (.int (0 : Int32)), .val (.ref ar21), .unset, .unset, .unset, .unset, .unset] [(.int ((((p1).toUInt64 >>> ((24 : Int32) &&& 0x3f).toInt64.toUInt64).toInt64).toInt32).toInt8.toInt32), (.int (3 : Int32)), (.ref ar21)])) rfl rfl (hb hby at_61)
      rw [own_nar8] at A5
      have N5 := Fr.snoc X5 N4 ge_ar21
      have Z5 : n0 ≤ h5.size := by rw [W5.size]; exact Z4
      have f_4 : Arl Z h5 ar21 .byte [(.int ((p1).toInt32).toInt8.toInt32), (.int ((((p1).toUInt64 >>> ((8 : Int32) &&& 0x3f).toInt64.toUInt64).toInt64).toInt32).toInt8.toInt32), (.int ((((p1).toUInt64 >>> ((16 : Int32) &&& 0x3f).toInt64.toUInt64).toInt64).toInt32).toInt8.toInt32), (.int ((((p1).toUInt64 >>> ((24 : Int32) &&& 0x3f).toInt64.toUInt64).toInt64).toInt32).toInt8.toInt32), (.int (0 : Int32)), (.int (0 : Int32)), (.int (0 : Int32)), (.int (0 : Int32))] := A5
      refine Goes.go (st5) ?_
      show Goes _ _ _ _ _ _ _ (T5.setTop (mkF m 62 _ []))
      refine Goes.go (fun _ k => XS.aload X5.here hx rfl (hb hby at_62) rfl rfl k) ?_
      show Goes _ _ _ _ _ _ _ (T5.setTop (mkF m 64 _ [(.ref ar21)]))
      refine Goes.go (fun _ k => XS.iconst X5.here hx rfl (hb hby at_64) k) ?_
      show Goes _ _ _ _ _ _ _ (T5.setTop (mkF m 65 _ [(.int (4 : Int32)), (.ref ar21)]))
      refine Goes.go (fun _ k => XS.lloadN X5.here hx rfl (hb hby at_65) rfl k) ?_
      show Goes _ _ _ _ _ _ _ (T5.setTop (mkF m 66 _ [(.long p1), (.int (4 : Int32)), (.ref ar21)]))
      refine Goes.go (fun _ k => XS.bipush X5.here hx rfl (hb hby at_66) k) ?_
      show Goes _ _ _ _ _ _ _ (T5.setTop (mkF m 68 _ [(.int (32 : Int32)), (.long p1), (.int (4 : Int32)), (.ref ar21)]))
      refine Goes.go (fun _ k => XS.lushr X5.here hx rfl (hb hby at_68) rfl k) ?_
      show Goes _ _ _ _ _ _ _ (T5.setTop (mkF m 69 _ [(.long ((p1).toUInt64 >>> ((32 : Int32) &&& 0x3f).toInt64.toUInt64).toInt64), (.int (4 : Int32)), (.ref ar21)]))
      refine Goes.go (fun _ k => XS.l2i X5.here hx rfl (hb hby at_69) rfl k) ?_
      show Goes _ _ _ _ _ _ _ (T5.setTop (mkF m 70 _ [(.int (((p1).toUInt64 >>> ((32 : Int32) &&& 0x3f).toInt64.toUInt64).toInt64).toInt32), (.int (4 : Int32)), (.ref ar21)]))
      refine Goes.go (fun _ k => XS.i2b X5.here hx rfl (hb hby at_70) rfl k) ?_
      show Goes _ _ _ _ _ _ _ (T5.setTop (mkF m 71 _ [(.int ((((p1).toUInt64 >>> ((32 : Int32) &&& 0x3f).toInt64.toUInt64).toInt64).toInt32).toInt8.toInt32), (.int (4 : Int32)), (.ref ar21)]))
      obtain ⟨T6, h6, X6, e6, W6, A6, st6⟩ := own_stB X5 hx hZ e5 f_4 (j := (4 : Int32)) (x := ((((p1).toUInt64 >>> ((32 : Int32) &&& 0x3f).toInt64.toUInt64).toInt64).toInt32).toInt8.toInt32) (by decide) (show (4 : Nat) < 8 by decide) (g := (mkF m 71 #[.val (.int p0), .val (.long p1), .second, .val (.int (0 : Int32)), .val (.int (0 : Int32)), .val (.ref ar21), .unset, .unset, .unset, .unset, .unset] [(.int ((((p1).toUInt64 >>> ((32 : Int32) &&& 0x3f).toInt64.toUInt64).toInt64).toInt32).toInt8.toInt32), (.int (4 : Int32)), (.ref ar21)])) rfl rfl (hb hby at_71)
      rw [own_nar8] at A6
      have N6 := Fr.snoc X6 N5 ge_ar21
      have Z6 : n0 ≤ h6.size := by rw [W6.size]; exact Z5
      have f_5 : Arl Z h6 ar21 .byte [(.int ((p1).toInt32).toInt8.toInt32), (.int ((((p1).toUInt64 >>> ((8 : Int32) &&& 0x3f).toInt64.toUInt64).toInt64).toInt32).toInt8.toInt32), (.int ((((p1).toUInt64 >>> ((16 : Int32) &&& 0x3f).toInt64.toUInt64).toInt64).toInt32).toInt8.toInt32), (.int ((((p1).toUInt64 >>> ((24 : Int32) &&& 0x3f).toInt64.toUInt64).toInt64).toInt32).toInt8.toInt32), (.int ((((p1).toUInt64 >>> ((32 : Int32) &&& 0x3f).toInt64.toUInt64).toInt64).toInt32).toInt8.toInt32), (.int (0 : Int32)), (.int (0 : Int32)), (.int (0 : Int32))] := A6
      refine Goes.go (st6) ?_
      show Goes _ _ _ _ _ _ _ (T6.setTop (mkF m 72 _ []))
      refine Goes.go (fun _ k => XS.aload X6.here hx rfl (hb hby at_72) rfl rfl k) ?_
      show Goes _ _ _ _ _ _ _ (T6.setTop (mkF m 74 _ [(.ref ar21)]))
      refine Goes.go (fun _ k => XS.iconst X6.here hx rfl (hb hby at_74) k) ?_
      show Goes _ _ _ _ _ _ _ (T6.setTop (mkF m 75 _ [(.int (5 : Int32)), (.ref ar21)]))
      refine Goes.go (fun _ k => XS.lloadN X6.here hx rfl (hb hby at_75) rfl k) ?_
      show Goes _ _ _ _ _ _ _ (T6.setTop (mkF m 76 _ [(.long p1), (.int (5 : Int32)), (.ref ar21)]))
      refine Goes.go (fun _ k => XS.bipush X6.here hx rfl (hb hby at_76) k) ?_
      show Goes _ _ _ _ _ _ _ (T6.setTop (mkF m 78 _ [(.int (40 : Int32)), (.long p1), (.int (5 : Int32)), (.ref ar21)]))
      refine Goes.go (fun _ k => XS.lushr X6.here hx rfl (hb hby at_78) rfl k) ?_
      show Goes _ _ _ _ _ _ _ (T6.setTop (mkF m 79 _ [(.long ((p1).toUInt64 >>> ((40 : Int32) &&& 0x3f).toInt64.toUInt64).toInt64), (.int (5 : Int32)), (.ref ar21)]))
      refine Goes.go (fun _ k => XS.l2i X6.here hx rfl (hb hby at_79) rfl k) ?_
      show Goes _ _ _ _ _ _ _ (T6.setTop (mkF m 80 _ [(.int (((p1).toUInt64 >>> ((40 : Int32) &&& 0x3f).toInt64.toUInt64).toInt64).toInt32), (.int (5 : Int32)), (.ref ar21)]))
      refine Goes.go (fun _ k => XS.i2b X6.here hx rfl (hb hby at_80) rfl k) ?_
      show Goes _ _ _ _ _ _ _ (T6.setTop (mkF m 81 _ [(.int ((((p1).toUInt64 >>> ((40 : Int32) &&& 0x3f).toInt64.toUInt64).toInt64).toInt32).toInt8.toInt32), (.int (5 : Int32)), (.ref ar21)]))
      obtain ⟨T7, h7, X7, e7, W7, A7, st7⟩ := own_stB X6 hx hZ e6 f_5 (j := (5 : Int32)) (x := ((((p1).toUInt64 >>> ((40 : Int32) &&& 0x3f).toInt64.toUInt64).toInt64).toInt32).toInt8.toInt32) (by decide) (show (5 : Nat) < 8 by decide) (g := (mkF m 81 #[.val (.int p0), .val (.long p1), .second, .val (.int (0 : Int32)), .val (.int (0 : Int32)), .val (.ref ar21), .unset, .unset, .unset, .unset, .unset] [(.int ((((p1).toUInt64 >>> ((40 : Int32) &&& 0x3f).toInt64.toUInt64).toInt64).toInt32).toInt8.toInt32), (.int (5 : Int32)), (.ref ar21)])) rfl rfl (hb hby at_81)
      rw [own_nar8] at A7
      have N7 := Fr.snoc X7 N6 ge_ar21
      have Z7 : n0 ≤ h7.size := by rw [W7.size]; exact Z6
      have f_6 : Arl Z h7 ar21 .byte [(.int ((p1).toInt32).toInt8.toInt32), (.int ((((p1).toUInt64 >>> ((8 : Int32) &&& 0x3f).toInt64.toUInt64).toInt64).toInt32).toInt8.toInt32), (.int ((((p1).toUInt64 >>> ((16 : Int32) &&& 0x3f).toInt64.toUInt64).toInt64).toInt32).toInt8.toInt32), (.int ((((p1).toUInt64 >>> ((24 : Int32) &&& 0x3f).toInt64.toUInt64).toInt64).toInt32).toInt8.toInt32), (.int ((((p1).toUInt64 >>> ((32 : Int32) &&& 0x3f).toInt64.toUInt64).toInt64).toInt32).toInt8.toInt32), (.int ((((p1).toUInt64 >>> ((40 : Int32) &&& 0x3f).toInt64.toUInt64).toInt64).toInt32).toInt8.toInt32), (.int (0 : Int32)), (.int (0 : Int32))] := A7
      refine Goes.go (st7) ?_
      show Goes _ _ _ _ _ _ _ (T7.setTop (mkF m 82 _ []))
      refine Goes.go (fun _ k => XS.aload X7.here hx rfl (hb hby at_82) rfl rfl k) ?_
      show Goes _ _ _ _ _ _ _ (T7.setTop (mkF m 84 _ [(.ref ar21)]))
      refine Goes.go (fun _ k => XS.bipush X7.here hx rfl (hb hby at_84) k) ?_
      show Goes _ _ _ _ _ _ _ (T7.setTop (mkF m 86 _ [(.int (6 : Int32)), (.ref ar21)]))
      refine Goes.go (fun _ k => XS.lloadN X7.here hx rfl (hb hby at_86) rfl k) ?_
      show Goes _ _ _ _ _ _ _ (T7.setTop (mkF m 87 _ [(.long p1), (.int (6 : Int32)), (.ref ar21)]))
      refine Goes.go (fun _ k => XS.bipush X7.here hx rfl (hb hby at_87) k) ?_
      show Goes _ _ _ _ _ _ _ (T7.setTop (mkF m 89 _ [(.int (48 : Int32)), (.long p1), (.int (6 : Int32)), (.ref ar21)]))
      refine Goes.go (fun _ k => XS.lushr X7.here hx rfl (hb hby at_89) rfl k) ?_
      show Goes _ _ _ _ _ _ _ (T7.setTop (mkF m 90 _ [(.long ((p1).toUInt64 >>> ((48 : Int32) &&& 0x3f).toInt64.toUInt64).toInt64), (.int (6 : Int32)), (.ref ar21)]))
      refine Goes.go (fun _ k => XS.l2i X7.here hx rfl (hb hby at_90) rfl k) ?_
      show Goes _ _ _ _ _ _ _ (T7.setTop (mkF m 91 _ [(.int (((p1).toUInt64 >>> ((48 : Int32) &&& 0x3f).toInt64.toUInt64).toInt64).toInt32), (.int (6 : Int32)), (.ref ar21)]))
      refine Goes.go (fun _ k => XS.i2b X7.here hx rfl (hb hby at_91) rfl k) ?_
      show Goes _ _ _ _ _ _ _ (T7.setTop (mkF m 92 _ [(.int ((((p1).toUInt64 >>> ((48 : Int32) &&& 0x3f).toInt64.toUInt64).toInt64).toInt32).toInt8.toInt32), (.int (6 : Int32)), (.ref ar21)]))
      obtain ⟨T8, h8, X8, e8, W8, A8, st8⟩ := own_stB X7 hx hZ e7 f_6 (j := (6 : Int32)) (x := ((((p1).toUInt64 >>> ((48 : Int32) &&& 0x3f).toInt64.toUInt64).toInt64).toInt32).toInt8.toInt32) (by decide) (show (6 : Nat) < 8 by decide) (g := (mkF m 92 #[.val (.int p0), .val (.long p1), .second, .val (.int (0 : Int32)), .val (.int (0 : Int32)), .val (.ref ar21), .unset, .unset, .unset, .unset, .unset] [(.int ((((p1).toUInt64 >>> ((48 : Int32) &&& 0x3f).toInt64.toUInt64).toInt64).toInt32).toInt8.toInt32), (.int (6 : Int32)), (.ref ar21)])) rfl rfl (hb hby at_92)
      rw [own_nar8] at A8
      have N8 := Fr.snoc X8 N7 ge_ar21
      have Z8 : n0 ≤ h8.size := by rw [W8.size]; exact Z7
      have f_7 : Arl Z h8 ar21 .byte [(.int ((p1).toInt32).toInt8.toInt32), (.int ((((p1).toUInt64 >>> ((8 : Int32) &&& 0x3f).toInt64.toUInt64).toInt64).toInt32).toInt8.toInt32), (.int ((((p1).toUInt64 >>> ((16 : Int32) &&& 0x3f).toInt64.toUInt64).toInt64).toInt32).toInt8.toInt32), (.int ((((p1).toUInt64 >>> ((24 : Int32) &&& 0x3f).toInt64.toUInt64).toInt64).toInt32).toInt8.toInt32), (.int ((((p1).toUInt64 >>> ((32 : Int32) &&& 0x3f).toInt64.toUInt64).toInt64).toInt32).toInt8.toInt32), (.int ((((p1).toUInt64 >>> ((40 : Int32) &&& 0x3f).toInt64.toUInt64).toInt64).toInt32).toInt8.toInt32), (.int ((((p1).toUInt64 >>> ((48 : Int32) &&& 0x3f).toInt64.toUInt64).toInt64).toInt32).toInt8.toInt32), (.int (0 : Int32))] := A8
      refine Goes.go (st8) ?_
      show Goes _ _ _ _ _ _ _ (T8.setTop (mkF m 93 _ []))
      refine Goes.go (fun _ k => XS.aload X8.here hx rfl (hb hby at_93) rfl rfl k) ?_
      show Goes _ _ _ _ _ _ _ (T8.setTop (mkF m 95 _ [(.ref ar21)]))
      refine Goes.go (fun _ k => XS.bipush X8.here hx rfl (hb hby at_95) k) ?_
      show Goes _ _ _ _ _ _ _ (T8.setTop (mkF m 97 _ [(.int (7 : Int32)), (.ref ar21)]))
      refine Goes.go (fun _ k => XS.lloadN X8.here hx rfl (hb hby at_97) rfl k) ?_
      show Goes _ _ _ _ _ _ _ (T8.setTop (mkF m 98 _ [(.long p1), (.int (7 : Int32)), (.ref ar21)]))
      refine Goes.go (fun _ k => XS.bipush X8.here hx rfl (hb hby at_98) k) ?_
      show Goes _ _ _ _ _ _ _ (T8.setTop (mkF m 100 _ [(.int (56 : Int32)), (.long p1), (.int (7 : Int32)), (.ref ar21)]))
      refine Goes.go (fun _ k => XS.lushr X8.here hx rfl (hb hby at_100) rfl k) ?_
      show Goes _ _ _ _ _ _ _ (T8.setTop (mkF m 101 _ [(.long ((p1).toUInt64 >>> ((56 : Int32) &&& 0x3f).toInt64.toUInt64).toInt64), (.int (7 : Int32)), (.ref ar21)]))
      refine Goes.go (fun _ k => XS.l2i X8.here hx rfl (hb hby at_101) rfl k) ?_
      show Goes _ _ _ _ _ _ _ (T8.setTop (mkF m 102 _ [(.int (((p1).toUInt64 >>> ((56 : Int32) &&& 0x3f).toInt64.toUInt64).toInt64).toInt32), (.int (7 : Int32)), (.ref ar21)]))
      refine Goes.go (fun _ k => XS.i2b X8.here hx rfl (hb hby at_102) rfl k) ?_
      show Goes _ _ _ _ _ _ _ (T8.setTop (mkF m 103 _ [(.int ((((p1).toUInt64 >>> ((56 : Int32) &&& 0x3f).toInt64.toUInt64).toInt64).toInt32).toInt8.toInt32), (.int (7 : Int32)), (.ref ar21)]))
      obtain ⟨T9, h9, X9, e9, W9, A9, st9⟩ := own_stB X8 hx hZ e8 f_7 (j := (7 : Int32)) (x := ((((p1).toUInt64 >>> ((56 : Int32) &&& 0x3f).toInt64.toUInt64).toInt64).toInt32).toInt8.toInt32) (by decide) (show (7 : Nat) < 8 by decide) (g := (mkF m 103 #[.val (.int p0), .val (.long p1), .second, .val (.int (0 : Int32)), .val (.int (0 : Int32)), .val (.ref ar21), .unset, .unset, .unset, .unset, .unset] [(.int ((((p1).toUInt64 >>> ((56 : Int32) &&& 0x3f).toInt64.toUInt64).toInt64).toInt32).toInt8.toInt32), (.int (7 : Int32)), (.ref ar21)])) rfl rfl (hb hby at_103)
      rw [own_nar8] at A9
      have N9 := Fr.snoc X9 N8 ge_ar21
      have Z9 : n0 ≤ h9.size := by rw [W9.size]; exact Z8
      have f_8 : Arl Z h9 ar21 .byte [(.int ((p1).toInt32).toInt8.toInt32), (.int ((((p1).toUInt64 >>> ((8 : Int32) &&& 0x3f).toInt64.toUInt64).toInt64).toInt32).toInt8.toInt32), (.int ((((p1).toUInt64 >>> ((16 : Int32) &&& 0x3f).toInt64.toUInt64).toInt64).toInt32).toInt8.toInt32), (.int ((((p1).toUInt64 >>> ((24 : Int32) &&& 0x3f).toInt64.toUInt64).toInt64).toInt32).toInt8.toInt32), (.int ((((p1).toUInt64 >>> ((32 : Int32) &&& 0x3f).toInt64.toUInt64).toInt64).toInt32).toInt8.toInt32), (.int ((((p1).toUInt64 >>> ((40 : Int32) &&& 0x3f).toInt64.toUInt64).toInt64).toInt32).toInt8.toInt32), (.int ((((p1).toUInt64 >>> ((48 : Int32) &&& 0x3f).toInt64.toUInt64).toInt64).toInt32).toInt8.toInt32), (.int ((((p1).toUInt64 >>> ((56 : Int32) &&& 0x3f).toInt64.toUInt64).toInt64).toInt32).toInt8.toInt32)] := A9
      refine Goes.go (st9) ?_
      show Goes _ _ _ _ _ _ _ (T9.setTop (mkF m 104 _ []))
      refine Goes.go (fun _ k => XS.iload X9.here hx rfl (hb hby at_104) rfl k) ?_
      show Goes _ _ _ _ _ _ _ (T9.setTop (mkF m 106 _ [(.int (0 : Int32))]))
      refine Goes.go (fun _ k => XS.ifYes X9.here hx rfl (pc0 := 106) (pc' := 113) rfl (hb hby at_106) rfl (XT.i0_eq_t (by decide)) (by decide) (by decide) k) ?_
      show Goes _ _ _ _ _ _ _ (T9.setTop (mkF m 113 _ []))
      refine Goes.go (fun _ k => XS.iconst X9.here hx rfl (hb hby at_113) k) ?_
      show Goes _ _ _ _ _ _ _ (T9.setTop (mkF m 114 _ [(.int (0 : Int32))]))
      refine Goes.go (fun _ k => XS.istore X9.here hx rfl (hb hby at_114) rfl (l' := #[.val (.int p0), .val (.long p1), .second, .val (.int (0 : Int32)), .val (.int (0 : Int32)), .val (.ref ar21), .val (.int (0 : Int32)), .unset, .unset, .unset, .unset]) rfl k) ?_
      show Goes _ _ _ _ _ _ _ (T9.setTop (mkF m 116 #[.val (.int p0), .val (.long p1), .second, .val (.int (0 : Int32)), .val (.int (0 : Int32)), .val (.ref ar21), .val (.int (0 : Int32)), .unset, .unset, .unset, .unset] []))
      refine Goes.go (fun _ k => XS.bipush X9.here hx rfl (hb hby at_116) k) ?_
      show Goes _ _ _ _ _ _ _ (T9.setTop (mkF m 118 _ [(.int (8 : Int32))]))
      refine Goes.go (fun _ k => XS.iload X9.here hx rfl (hb hby at_118) rfl k) ?_
      show Goes _ _ _ _ _ _ _ (T9.setTop (mkF m 120 _ [(.int (0 : Int32)), (.int (8 : Int32))]))
      refine Goes.go (fun _ k => XS.isub X9.here hx rfl (hb hby at_120) rfl k) ?_
      show Goes _ _ _ _ _ _ _ (T9.setTop (mkF m 121 _ [(.int (8 : Int32))]))
      refine Goes.go (fun _ k => XS.iloadN X9.here hx rfl (hb hby at_121) rfl k) ?_
      show Goes _ _ _ _ _ _ _ (T9.setTop (mkF m 122 _ [(.int (0 : Int32)), (.int (8 : Int32))]))
      refine Goes.go (fun _ k => XS.isub X9.here hx rfl (hb hby at_122) rfl k) ?_
      show Goes _ _ _ _ _ _ _ (T9.setTop (mkF m 123 _ [(.int (8 : Int32))]))
      refine Goes.go (fun _ k => XS.istore X9.here hx rfl (hb hby at_123) rfl (l' := #[.val (.int p0), .val (.long p1), .second, .val (.int (0 : Int32)), .val (.int (0 : Int32)), .val (.ref ar21), .val (.int (0 : Int32)), .val (.int (8 : Int32)), .unset, .unset, .unset]) rfl k) ?_
      show Goes _ _ _ _ _ _ _ (T9.setTop (mkF m 125 #[.val (.int p0), .val (.long p1), .second, .val (.int (0 : Int32)), .val (.int (0 : Int32)), .val (.ref ar21), .val (.int (0 : Int32)), .val (.int (8 : Int32)), .unset, .unset, .unset] []))
      refine Goes.go (fun _ k => XS.iloadN X9.here hx rfl (hb hby at_125) rfl k) ?_
      show Goes _ _ _ _ _ _ _ (T9.setTop (mkF m 126 _ [(.int (0 : Int32))]))
      refine Goes.go (fun _ k => XS.iconst X9.here hx rfl (hb hby at_126) k) ?_
      show Goes _ _ _ _ _ _ _ (T9.setTop (mkF m 127 _ [(.int (1 : Int32)), (.int (0 : Int32))]))
      refine Goes.go (fun _ k => XS.icmpYes X9.here hx rfl (pc0 := 127) (pc' := 144) rfl (hb hby at_127) rfl (XT.ii_lt_t (by decide)) (by decide) (by decide) k) ?_
      show Goes _ _ _ _ _ _ _ (T9.setTop (mkF m 144 _ []))
      refine Goes.go (fun _ k => XS.iloadN X9.here hx rfl (hb hby at_144) rfl k) ?_
      show Goes _ _ _ _ _ _ _ (T9.setTop (mkF m 145 _ [(.int (0 : Int32))]))
      refine Goes.go (fun _ k => XS.iconst X9.here hx rfl (hb hby at_145) k) ?_
      show Goes _ _ _ _ _ _ _ (T9.setTop (mkF m 146 _ [(.int (2 : Int32)), (.int (0 : Int32))]))
      refine Goes.go (fun _ k => XS.icmpYes X9.here hx rfl (pc0 := 146) (pc' := 167) rfl (hb hby at_146) rfl (XT.ii_lt_t (by decide)) (by decide) (by decide) k) ?_
      show Goes _ _ _ _ _ _ _ (T9.setTop (mkF m 167 _ []))
      refine Goes.go (fun _ k => XS.iloadN X9.here hx rfl (hb hby at_167) rfl k) ?_
      show Goes _ _ _ _ _ _ _ (T9.setTop (mkF m 168 _ [(.int (0 : Int32))]))
      refine Goes.go (fun _ k => XS.iconst X9.here hx rfl (hb hby at_168) k) ?_
      show Goes _ _ _ _ _ _ _ (T9.setTop (mkF m 169 _ [(.int (3 : Int32)), (.int (0 : Int32))]))
      refine Goes.go (fun _ k => XS.icmpYes X9.here hx rfl (pc0 := 169) (pc' := 190) rfl (hb hby at_169) rfl (XT.ii_lt_t (by decide)) (by decide) (by decide) k) ?_
      show Goes _ _ _ _ _ _ _ (T9.setTop (mkF m 190 _ []))
      refine Goes.go (fun _ k => XS.iload X9.here hx rfl (hb hby at_190) rfl k) ?_
      show Goes _ _ _ _ _ _ _ (T9.setTop (mkF m 192 _ [(.int (0 : Int32))]))
      refine Goes.go (fun _ k => XS.ifYes X9.here hx rfl (pc0 := 192) (pc' := 224) rfl (hb hby at_192) rfl (XT.i0_eq_t (by decide)) (by decide) (by decide) k) ?_
      show Goes _ _ _ _ _ _ _ (T9.setTop (mkF m 224 _ []))
      obtain ⟨T10, h10, X10, e10, E10, A10, D10, -, st10⟩ := newO X9 hx hZ hown (hw _ (List.mem_of_getElem? (i := 1) rfl)) (hw _ (List.mem_of_getElem? (i := 2) rfl)) (hw _ (List.mem_of_getElem? (i := 3) rfl)) e9 (g := (mkF m 224 #[.val (.int p0), .val (.long p1), .second, .val (.int (0 : Int32)), .val (.int (0 : Int32)), .val (.ref ar21), .val (.int (0 : Int32)), .val (.int (8 : Int32)), .unset, .unset, .unset] [])) rfl (hb hby at_224) (by decide) (by decide)
      obtain ⟨ob224, gob224⟩ : ∃ z, z = h9.size := ⟨_, rfl⟩
      rw [← gob224] at A10 D10 st10
      have ne_ar21_ob224 : ar21 ≠ ob224 := by rw [gob224]; exact Nat.ne_of_lt f_8.lt
      have f_9 := f_8.ext E10
      have Z10 : n0 ≤ h10.size := Nat.le_trans Z9 E10.1
      have ge_ob224 : n0 ≤ ob224 := Nat.le_trans Z9 (Nat.le_of_eq gob224.symm)
      have f_10 : Fld Z h10 ob224 "com/example/countermand/countermand/Packed$Reader" "in" "[B" .null := D10 (Or.inr (hw _ (List.mem_of_getElem? (i := 11) rfl))) (ty := (.array .byte)) (by decide)
      have f_11 : Fld Z h10 ob224 "com/example/countermand/countermand/Packed$Reader" "position" "I" (.int (0 : Int32)) := D10 (Or.inl (hw _ (List.mem_of_getElem? (i := 13) rfl))) (ty := .int) (by decide)
      refine Goes.go (st10) ?_
      show Goes _ _ _ _ _ _ _ (T10.setTop (mkF m 227 _ [(.ref ob224)]))
      refine Goes.go (fun _ k => XS.dup X10.here hx rfl (hb hby at_227) rfl rfl k) ?_
      show Goes _ _ _ _ _ _ _ (T10.setTop (mkF m 228 _ [(.ref ob224), (.ref ob224)]))
      refine Goes.go (fun _ k => XS.aload X10.here hx rfl (hb hby at_228) rfl rfl k) ?_
      show Goes _ _ _ _ _ _ _ (T10.setTop (mkF m 230 _ [(.ref ar21), (.ref ob224), (.ref ob224)]))
      refine Goes.go (fun _ k => XS.iload X10.here hx rfl (hb hby at_230) rfl k) ?_
      show Goes _ _ _ _ _ _ _ (T10.setTop (mkF m 232 _ [(.int (8 : Int32)), (.ref ar21), (.ref ob224), (.ref ob224)]))
      obtain ⟨_, _, ⟨T11, L11, k11, n11⟩, -, X11, ⟨Lc11, hQ11, l11, y11, z11⟩, st11⟩ := X10.specialBack hx (y := (⟨"com/example/countermand/countermand/Packed$Reader", "<init>", "([BI)V"⟩ : MethodName)) rfl hown (mvT hZ (hw _ (List.mem_of_getElem? (i := 4) rfl))) (mvT hZ (hw _ (List.mem_of_getElem? (i := 5) rfl))) (mvT hZ (hw _ (List.mem_of_getElem? (i := 6) rfl))) (by decide) (backOf (W := 1) (rm1 l Z a0 hw [] ob224 ar21 (8 : Int32) h10 n0 Z10 A10 f_10 f_11 ge_ob224) hZ (hw _ (List.mem_of_getElem? (i := 6) rfl)) (hw _ (List.mem_of_getElem? (i := 3) rfl)) (by decide) (by decide)) (g := (mkF m 232 #[.val (.int p0), .val (.long p1), .second, .val (.int (0 : Int32)), .val (.int (0 : Int32)), .val (.ref ar21), .val (.int (0 : Int32)), .val (.int (8 : Int32)), .unset, .unset, .unset] [(.int (8 : Int32)), (.ref ar21), (.ref ob224), (.ref ob224)])) rfl (by rw [hml]; rfl) (Steps.refl _) (a := ob224) (argsL := [(.ref ar21), (.int (8 : Int32))]) (rest := [(.ref ob224)]) (lenOf pd0 rfl) rfl (by show 2 * 0 + _ ≤ _; exact Nat.le_of_eq rfl) (hb hby at_232) (fun _ _ => ⟨rfl, e10, (by decide : 2 + 0 ≤ _), (by decide : 10 + 0 ≤ _)⟩)
      dsimp only [Pt.U, Pt.locs, Pt.cells, Pt.slots] at X11 l11 y11 z11 st11 hQ11
      subst l11 y11 z11
      obtain ⟨rfl, Nq11, Kq11, Eq11, Fq11_0, Fq11_1⟩ := hQ11
      have N11 := Fr.app N9 Nq11
      have Z11 : n0 ≤ T11.heap.size := Nat.le_trans Z10 Kq11.1
      have f_12 := Arl.keep f_9 Kq11 (ninS ne_ar21_ob224 nin0)
      refine Goes.go (fun _ k => st11.trans k) ?_
      show Goes _ _ _ _ _ _ _ (T11.setTop (mkF m 235 _ [(.ref ob224)]))
      refine Goes.go (fun _ k => XS.astore X11.here hx rfl (hb hby at_235) rfl rfl (l' := #[.val (.int p0), .val (.long p1), .second, .val (.int (0 : Int32)), .val (.int (0 : Int32)), .val (.ref ar21), .val (.int (0 : Int32)), .val (.int (8 : Int32)), .val (.ref ob224), .unset, .unset]) rfl k) ?_
      show Goes _ _ _ _ _ _ _ (T11.setTop (mkF m 237 #[.val (.int p0), .val (.long p1), .second, .val (.int (0 : Int32)), .val (.int (0 : Int32)), .val (.ref ar21), .val (.int (0 : Int32)), .val (.int (8 : Int32)), .val (.ref ob224), .unset, .unset] []))
      refine Goes.go (fun _ k => XS.iconst X11.here hx rfl (hb hby at_237) k) ?_
      show Goes _ _ _ _ _ _ _ (T11.setTop (mkF m 238 _ [(.int (1 : Int32))]))
      refine Goes.go (fun _ k => XS.istore X11.here hx rfl (hb hby at_238) rfl (l' := #[.val (.int p0), .val (.long p1), .second, .val (.int (0 : Int32)), .val (.int (0 : Int32)), .val (.ref ar21), .val (.int (0 : Int32)), .val (.int (8 : Int32)), .val (.ref ob224), .val (.int (1 : Int32)), .unset]) rfl k) ?_
      show Goes _ _ _ _ _ _ _ (T11.setTop (mkF m 240 #[.val (.int p0), .val (.long p1), .second, .val (.int (0 : Int32)), .val (.int (0 : Int32)), .val (.ref ar21), .val (.int (0 : Int32)), .val (.int (8 : Int32)), .val (.ref ob224), .val (.int (1 : Int32)), .unset] []))
      refine Goes.go (fun _ k => XS.iloadN X11.here hx rfl (hb hby at_240) rfl k) ?_
      show Goes _ _ _ _ _ _ _ (T11.setTop (mkF m 241 _ [(.int (0 : Int32))]))
      refine Goes.go (fun _ k => XS.iconst X11.here hx rfl (hb hby at_241) k) ?_
      show Goes _ _ _ _ _ _ _ (T11.setTop (mkF m 242 _ [(.int (1 : Int32)), (.int (0 : Int32))]))
      refine Goes.go (fun _ k => XS.icmpYes X11.here hx rfl (pc0 := 242) (pc' := 270) rfl (hb hby at_242) rfl (XT.ii_lt_t (by decide)) (by decide) (by decide) k) ?_
      show Goes _ _ _ _ _ _ _ (T11.setTop (mkF m 270 _ []))
      refine Goes.go (fun _ k => XS.iloadN X11.here hx rfl (hb hby at_270) rfl k) ?_
      show Goes _ _ _ _ _ _ _ (T11.setTop (mkF m 271 _ [(.int (0 : Int32))]))
      refine Goes.go (fun _ k => XS.iconst X11.here hx rfl (hb hby at_271) k) ?_
      show Goes _ _ _ _ _ _ _ (T11.setTop (mkF m 272 _ [(.int (2 : Int32)), (.int (0 : Int32))]))
      refine Goes.go (fun _ k => XS.icmpYes X11.here hx rfl (pc0 := 272) (pc' := 302) rfl (hb hby at_272) rfl (XT.ii_lt_t (by decide)) (by decide) (by decide) k) ?_
      show Goes _ _ _ _ _ _ _ (T11.setTop (mkF m 302 _ []))
      refine Goes.go (fun _ k => XS.iloadN X11.here hx rfl (hb hby at_302) rfl k) ?_
      show Goes _ _ _ _ _ _ _ (T11.setTop (mkF m 303 _ [(.int (0 : Int32))]))
      refine Goes.go (fun _ k => XS.iconst X11.here hx rfl (hb hby at_303) k) ?_
      show Goes _ _ _ _ _ _ _ (T11.setTop (mkF m 304 _ [(.int (3 : Int32)), (.int (0 : Int32))]))
      refine Goes.go (fun _ k => XS.icmpYes X11.here hx rfl (pc0 := 304) (pc' := 334) rfl (hb hby at_304) rfl (XT.ii_lt_t (by decide)) (by decide) (by decide) k) ?_
      show Goes _ _ _ _ _ _ _ (T11.setTop (mkF m 334 _ []))
      refine Goes.go (fun _ k => XS.iload X11.here hx rfl (hb hby at_334) rfl k) ?_
      show Goes _ _ _ _ _ _ _ (T11.setTop (mkF m 336 _ [(.int (0 : Int32))]))
      refine Goes.go (fun _ k => XS.ifYes X11.here hx rfl (pc0 := 336) (pc' := 380) rfl (hb hby at_336) rfl (XT.i0_eq_t (by decide)) (by decide) (by decide) k) ?_
      show Goes _ _ _ _ _ _ _ (T11.setTop (mkF m 380 _ []))
      refine Goes.go (fun _ k => XS.aload X11.here hx rfl (hb hby at_380) rfl rfl k) ?_
      show Goes _ _ _ _ _ _ _ (T11.setTop (mkF m 382 _ [(.ref ob224)]))
      obtain ⟨cq12, kq12, qa12, qb12, qc12⟩ := isOf hZ rfl Eq11
      obtain ⟨_, _, ⟨T12, L12, k12, n12⟩, -, X12, ⟨Lc12, hQ12, l12, y12, z12⟩, st12⟩ := X11.virtualBack hx (y := (⟨"com/example/countermand/countermand/Packed$Reader", "end", "()V"⟩ : MethodName)) (z := (⟨"com/example/countermand/countermand/Packed$Reader", "end", "()V"⟩ : MethodName)) hown (mvT hZ (hw _ (List.mem_of_getElem? (i := 14) rfl))) (mvT hZ (hw _ (List.mem_of_getElem? (i := 15) rfl))) (notFace_of_selects (args := #[]) (mvT hZ (hw _ (List.mem_of_getElem? (i := 17) rfl)))) (mvT hZ (hw _ (List.mem_of_getElem? (i := 17) rfl))) (mvT hZ (hw _ (List.mem_of_getElem? (i := 16) rfl))) (by decide) (backOf (W := 0) (rm3 l Z a0 hw [] ob224 ar21 _ (8 : Int32) T11.heap n0 Z11 Fq11_0 Fq11_1 f_12 rfl) hZ (hw _ (List.mem_of_getElem? (i := 18) rfl)) (hw _ (List.mem_of_getElem? (i := 3) rfl)) (by decide) (by decide)) qa12 qc12 (g := (mkF m 382 #[.val (.int p0), .val (.long p1), .second, .val (.int (0 : Int32)), .val (.int (0 : Int32)), .val (.ref ar21), .val (.int (0 : Int32)), .val (.int (8 : Int32)), .val (.ref ob224), .val (.int (1 : Int32)), .unset] [(.ref ob224)])) rfl (by rw [hml]; rfl) (Steps.refl _) (argsL := []) (rest := []) (lenOf pd1 rfl) rfl (by show 2 * 0 + _ ≤ _; exact Nat.le_of_eq rfl) (hb hby at_382) (fun _ _ => ⟨rfl, rfl, (by decide : 2 + 0 ≤ _), (by decide : 10 + 0 ≤ _)⟩)
      dsimp only [Pt.U, Pt.locs, Pt.cells, Pt.slots] at X12 l12 y12 z12 st12 hQ12
      subst l12 y12 z12
      obtain ⟨rfl, Nq12, hh12⟩ := hQ12
      have N12 := Fr.app N11 Nq12
      refine Goes.go (fun _ k => st12.trans k) ?_
      show Goes _ _ _ _ _ _ _ (T12.setTop (mkF m 385 _ []))
      refine Goes.go (fun _ k => XS.iload X12.here hx rfl (hb hby at_385) rfl k) ?_
      show Goes _ _ _ _ _ _ _ (T12.setTop (mkF m 387 _ [(.int (1 : Int32))]))
      exact Goes.outZ X12 hx hlk hret rfl (hb hby at_387) hh12 ⟨rfl, N12⟩ (by decide) (by decide)
    · skip
      refine Goes.go (fun _ k => XS.ifNo X0.here hx rfl (hb hby at_9) rfl (XT.i0_eq_f c9) k) ?_
      show Goes _ _ _ _ _ _ _ (s₁.setTop (mkF m 12 _ []))
      refine Goes.go (fun _ k => XS.iconst X0.here hx rfl (hb hby at_12) k) ?_
      show Goes _ _ _ _ _ _ _ (s₁.setTop (mkF m 13 _ [(.int (1 : Int32))]))
      refine Goes.go (fun _ k => XS.goto X0.here hx rfl (pc0 := 13) (pc' := 17) rfl (hb hby at_13) (by decide) (by decide) k) ?_
      show Goes _ _ _ _ _ _ _ (s₁.setTop (mkF m 17 _ [(.int (1 : Int32))]))
      refine Goes.go (fun _ k => XS.istore X0.here hx rfl (hb hby at_17) rfl (l' := #[.val (.int p0), .val (.long p1), .second, .val (.int (0 : Int32)), .val (.int (1 : Int32)), .unset, .unset, .unset, .unset, .unset, .unset]) rfl k) ?_
      show Goes _ _ _ _ _ _ _ (s₁.setTop (mkF m 19 #[.val (.int p0), .val (.long p1), .second, .val (.int (0 : Int32)), .val (.int (1 : Int32)), .unset, .unset, .unset, .unset, .unset, .unset] []))
      refine Goes.go (fun _ k => XS.bipush X0.here hx rfl (hb hby at_19) k) ?_
      show Goes _ _ _ _ _ _ _ (s₁.setTop (mkF m 21 _ [(.int (8 : Int32))]))
      obtain ⟨T1, h1, X1, e1, E1, A1, st1⟩ := own_newP X0 hx hZ (aty := .byte) (hw _ (List.mem_of_getElem? (i := 0) rfl)) e0 (g := (mkF m 21 #[.val (.int p0), .val (.long p1), .second, .val (.int (0 : Int32)), .val (.int (1 : Int32)), .unset, .unset, .unset, .unset, .unset, .unset] [(.int (8 : Int32))])) rfl (hb hby at_21) rfl (n := (8 : Int32)) (by decide) (cap := 8) (by decide) (by decide) (by decide) (by decide)
      obtain ⟨ar21, gar21⟩ : ∃ z, z = h0.size := ⟨_, rfl⟩
      rw [← gar21] at A1 st1
      have Z1 : n0 ≤ h1.size := Nat.le_trans Z0 E1.1
      have ge_ar21 : n0 ≤ ar21 := Nat.le_trans Z0 (Nat.le_of_eq gar21.symm)
      have f : Arl Z h1 ar21 .byte [(.int (0 : Int32)), (.int (0 : Int32)), (.int (0 : Int32)), (.int (0 : Int32)), (.int (0 : Int32)), (.int (0 : Int32)), (.int (0 : Int32)), (.int (0 : Int32))] := A1
      refine Goes.go (st1) ?_
      show Goes _ _ _ _ _ _ _ (T1.setTop (mkF m 23 _ [(.ref ar21)]))
      refine Goes.go (fun _ k => XS.astore X1.here hx rfl (hb hby at_23) rfl rfl (l' := #[.val (.int p0), .val (.long p1), .second, .val (.int (0 : Int32)), .val (.int (1 : Int32)), .val (.ref ar21), .unset, .unset, .unset, .unset, .unset]) rfl k) ?_
      show Goes _ _ _ _ _ _ _ (T1.setTop (mkF m 25 #[.val (.int p0), .val (.long p1), .second, .val (.int (0 : Int32)), .val (.int (1 : Int32)), .val (.ref ar21), .unset, .unset, .unset, .unset, .unset] []))
      refine Goes.go (fun _ k => XS.aload X1.here hx rfl (hb hby at_25) rfl rfl k) ?_
      show Goes _ _ _ _ _ _ _ (T1.setTop (mkF m 27 _ [(.ref ar21)]))
      refine Goes.go (fun _ k => XS.iconst X1.here hx rfl (hb hby at_27) k) ?_
      show Goes _ _ _ _ _ _ _ (T1.setTop (mkF m 28 _ [(.int (0 : Int32)), (.ref ar21)]))
      refine Goes.go (fun _ k => XS.lloadN X1.here hx rfl (hb hby at_28) rfl k) ?_
      show Goes _ _ _ _ _ _ _ (T1.setTop (mkF m 29 _ [(.long p1), (.int (0 : Int32)), (.ref ar21)]))
      refine Goes.go (fun _ k => XS.l2i X1.here hx rfl (hb hby at_29) rfl k) ?_
      show Goes _ _ _ _ _ _ _ (T1.setTop (mkF m 30 _ [(.int (p1).toInt32), (.int (0 : Int32)), (.ref ar21)]))
      refine Goes.go (fun _ k => XS.i2b X1.here hx rfl (hb hby at_30) rfl k) ?_
      show Goes _ _ _ _ _ _ _ (T1.setTop (mkF m 31 _ [(.int ((p1).toInt32).toInt8.toInt32), (.int (0 : Int32)), (.ref ar21)]))
      obtain ⟨T2, h2, X2, e2, W2, A2, st2⟩ := own_stB X1 hx hZ e1 f (j := (0 : Int32)) (x := ((p1).toInt32).toInt8.toInt32) (by decide) (show (0 : Nat) < 8 by decide) (g := (mkF m 31 #[.val (.int p0), .val (.long p1), .second, .val (.int (0 : Int32)), .val (.int (1 : Int32)), .val (.ref ar21), .unset, .unset, .unset, .unset, .unset] [(.int ((p1).toInt32).toInt8.toInt32), (.int (0 : Int32)), (.ref ar21)])) rfl rfl (hb hby at_31)
      rw [own_nar8] at A2
      have N2 := Fr.snoc X2 N0 ge_ar21
      have Z2 : n0 ≤ h2.size := by rw [W2.size]; exact Z1
      have f_1 : Arl Z h2 ar21 .byte [(.int ((p1).toInt32).toInt8.toInt32), (.int (0 : Int32)), (.int (0 : Int32)), (.int (0 : Int32)), (.int (0 : Int32)), (.int (0 : Int32)), (.int (0 : Int32)), (.int (0 : Int32))] := A2
      refine Goes.go (st2) ?_
      show Goes _ _ _ _ _ _ _ (T2.setTop (mkF m 32 _ []))
      refine Goes.go (fun _ k => XS.aload X2.here hx rfl (hb hby at_32) rfl rfl k) ?_
      show Goes _ _ _ _ _ _ _ (T2.setTop (mkF m 34 _ [(.ref ar21)]))
      refine Goes.go (fun _ k => XS.iconst X2.here hx rfl (hb hby at_34) k) ?_
      show Goes _ _ _ _ _ _ _ (T2.setTop (mkF m 35 _ [(.int (1 : Int32)), (.ref ar21)]))
      refine Goes.go (fun _ k => XS.lloadN X2.here hx rfl (hb hby at_35) rfl k) ?_
      show Goes _ _ _ _ _ _ _ (T2.setTop (mkF m 36 _ [(.long p1), (.int (1 : Int32)), (.ref ar21)]))
      refine Goes.go (fun _ k => XS.bipush X2.here hx rfl (hb hby at_36) k) ?_
      show Goes _ _ _ _ _ _ _ (T2.setTop (mkF m 38 _ [(.int (8 : Int32)), (.long p1), (.int (1 : Int32)), (.ref ar21)]))
      refine Goes.go (fun _ k => XS.lushr X2.here hx rfl (hb hby at_38) rfl k) ?_
      show Goes _ _ _ _ _ _ _ (T2.setTop (mkF m 39 _ [(.long ((p1).toUInt64 >>> ((8 : Int32) &&& 0x3f).toInt64.toUInt64).toInt64), (.int (1 : Int32)), (.ref ar21)]))
      refine Goes.go (fun _ k => XS.l2i X2.here hx rfl (hb hby at_39) rfl k) ?_
      show Goes _ _ _ _ _ _ _ (T2.setTop (mkF m 40 _ [(.int (((p1).toUInt64 >>> ((8 : Int32) &&& 0x3f).toInt64.toUInt64).toInt64).toInt32), (.int (1 : Int32)), (.ref ar21)]))
      refine Goes.go (fun _ k => XS.i2b X2.here hx rfl (hb hby at_40) rfl k) ?_
      show Goes _ _ _ _ _ _ _ (T2.setTop (mkF m 41 _ [(.int ((((p1).toUInt64 >>> ((8 : Int32) &&& 0x3f).toInt64.toUInt64).toInt64).toInt32).toInt8.toInt32), (.int (1 : Int32)), (.ref ar21)]))
      obtain ⟨T3, h3, X3, e3, W3, A3, st3⟩ := own_stB X2 hx hZ e2 f_1 (j := (1 : Int32)) (x := ((((p1).toUInt64 >>> ((8 : Int32) &&& 0x3f).toInt64.toUInt64).toInt64).toInt32).toInt8.toInt32) (by decide) (show (1 : Nat) < 8 by decide) (g := (mkF m 41 #[.val (.int p0), .val (.long p1), .second, .val (.int (0 : Int32)), .val (.int (1 : Int32)), .val (.ref ar21), .unset, .unset, .unset, .unset, .unset] [(.int ((((p1).toUInt64 >>> ((8 : Int32) &&& 0x3f).toInt64.toUInt64).toInt64).toInt32).toInt8.toInt32), (.int (1 : Int32)), (.ref ar21)])) rfl rfl (hb hby at_41)
      rw [own_nar8] at A3
      have N3 := Fr.snoc X3 N2 ge_ar21
      have Z3 : n0 ≤ h3.size := by rw [W3.size]; exact Z2
      have f_2 : Arl Z h3 ar21 .byte [(.int ((p1).toInt32).toInt8.toInt32), (.int ((((p1).toUInt64 >>> ((8 : Int32) &&& 0x3f).toInt64.toUInt64).toInt64).toInt32).toInt8.toInt32), (.int (0 : Int32)), (.int (0 : Int32)), (.int (0 : Int32)), (.int (0 : Int32)), (.int (0 : Int32)), (.int (0 : Int32))] := A3
      refine Goes.go (st3) ?_
      show Goes _ _ _ _ _ _ _ (T3.setTop (mkF m 42 _ []))
      refine Goes.go (fun _ k => XS.aload X3.here hx rfl (hb hby at_42) rfl rfl k) ?_
      show Goes _ _ _ _ _ _ _ (T3.setTop (mkF m 44 _ [(.ref ar21)]))
      refine Goes.go (fun _ k => XS.iconst X3.here hx rfl (hb hby at_44) k) ?_
      show Goes _ _ _ _ _ _ _ (T3.setTop (mkF m 45 _ [(.int (2 : Int32)), (.ref ar21)]))
      refine Goes.go (fun _ k => XS.lloadN X3.here hx rfl (hb hby at_45) rfl k) ?_
      show Goes _ _ _ _ _ _ _ (T3.setTop (mkF m 46 _ [(.long p1), (.int (2 : Int32)), (.ref ar21)]))
      refine Goes.go (fun _ k => XS.bipush X3.here hx rfl (hb hby at_46) k) ?_
      show Goes _ _ _ _ _ _ _ (T3.setTop (mkF m 48 _ [(.int (16 : Int32)), (.long p1), (.int (2 : Int32)), (.ref ar21)]))
      refine Goes.go (fun _ k => XS.lushr X3.here hx rfl (hb hby at_48) rfl k) ?_
      show Goes _ _ _ _ _ _ _ (T3.setTop (mkF m 49 _ [(.long ((p1).toUInt64 >>> ((16 : Int32) &&& 0x3f).toInt64.toUInt64).toInt64), (.int (2 : Int32)), (.ref ar21)]))
      refine Goes.go (fun _ k => XS.l2i X3.here hx rfl (hb hby at_49) rfl k) ?_
      show Goes _ _ _ _ _ _ _ (T3.setTop (mkF m 50 _ [(.int (((p1).toUInt64 >>> ((16 : Int32) &&& 0x3f).toInt64.toUInt64).toInt64).toInt32), (.int (2 : Int32)), (.ref ar21)]))
      refine Goes.go (fun _ k => XS.i2b X3.here hx rfl (hb hby at_50) rfl k) ?_
      show Goes _ _ _ _ _ _ _ (T3.setTop (mkF m 51 _ [(.int ((((p1).toUInt64 >>> ((16 : Int32) &&& 0x3f).toInt64.toUInt64).toInt64).toInt32).toInt8.toInt32), (.int (2 : Int32)), (.ref ar21)]))
      obtain ⟨T4, h4, X4, e4, W4, A4, st4⟩ := own_stB X3 hx hZ e3 f_2 (j := (2 : Int32)) (x := ((((p1).toUInt64 >>> ((16 : Int32) &&& 0x3f).toInt64.toUInt64).toInt64).toInt32).toInt8.toInt32) (by decide) (show (2 : Nat) < 8 by decide) (g := (mkF m 51 #[.val (.int p0), .val (.long p1), .second, .val (.int (0 : Int32)), .val (.int (1 : Int32)), .val (.ref ar21), .unset, .unset, .unset, .unset, .unset] [(.int ((((p1).toUInt64 >>> ((16 : Int32) &&& 0x3f).toInt64.toUInt64).toInt64).toInt32).toInt8.toInt32), (.int (2 : Int32)), (.ref ar21)])) rfl rfl (hb hby at_51)
      rw [own_nar8] at A4
      have N4 := Fr.snoc X4 N3 ge_ar21
      have Z4 : n0 ≤ h4.size := by rw [W4.size]; exact Z3
      have f_3 : Arl Z h4 ar21 .byte [(.int ((p1).toInt32).toInt8.toInt32), (.int ((((p1).toUInt64 >>> ((8 : Int32) &&& 0x3f).toInt64.toUInt64).toInt64).toInt32).toInt8.toInt32), (.int ((((p1).toUInt64 >>> ((16 : Int32) &&& 0x3f).toInt64.toUInt64).toInt64).toInt32).toInt8.toInt32), (.int (0 : Int32)), (.int (0 : Int32)), (.int (0 : Int32)), (.int (0 : Int32)), (.int (0 : Int32))] := A4
      refine Goes.go (st4) ?_
      show Goes _ _ _ _ _ _ _ (T4.setTop (mkF m 52 _ []))
      refine Goes.go (fun _ k => XS.aload X4.here hx rfl (hb hby at_52) rfl rfl k) ?_
      show Goes _ _ _ _ _ _ _ (T4.setTop (mkF m 54 _ [(.ref ar21)]))
      refine Goes.go (fun _ k => XS.iconst X4.here hx rfl (hb hby at_54) k) ?_
      show Goes _ _ _ _ _ _ _ (T4.setTop (mkF m 55 _ [(.int (3 : Int32)), (.ref ar21)]))
      refine Goes.go (fun _ k => XS.lloadN X4.here hx rfl (hb hby at_55) rfl k) ?_
      show Goes _ _ _ _ _ _ _ (T4.setTop (mkF m 56 _ [(.long p1), (.int (3 : Int32)), (.ref ar21)]))
      refine Goes.go (fun _ k => XS.bipush X4.here hx rfl (hb hby at_56) k) ?_
      show Goes _ _ _ _ _ _ _ (T4.setTop (mkF m 58 _ [(.int (24 : Int32)), (.long p1), (.int (3 : Int32)), (.ref ar21)]))
      refine Goes.go (fun _ k => XS.lushr X4.here hx rfl (hb hby at_58) rfl k) ?_
      show Goes _ _ _ _ _ _ _ (T4.setTop (mkF m 59 _ [(.long ((p1).toUInt64 >>> ((24 : Int32) &&& 0x3f).toInt64.toUInt64).toInt64), (.int (3 : Int32)), (.ref ar21)]))
      refine Goes.go (fun _ k => XS.l2i X4.here hx rfl (hb hby at_59) rfl k) ?_
      show Goes _ _ _ _ _ _ _ (T4.setTop (mkF m 60 _ [(.int (((p1).toUInt64 >>> ((24 : Int32) &&& 0x3f).toInt64.toUInt64).toInt64).toInt32), (.int (3 : Int32)), (.ref ar21)]))
      refine Goes.go (fun _ k => XS.i2b X4.here hx rfl (hb hby at_60) rfl k) ?_
      show Goes _ _ _ _ _ _ _ (T4.setTop (mkF m 61 _ [(.int ((((p1).toUInt64 >>> ((24 : Int32) &&& 0x3f).toInt64.toUInt64).toInt64).toInt32).toInt8.toInt32), (.int (3 : Int32)), (.ref ar21)]))
      obtain ⟨T5, h5, X5, e5, W5, A5, st5⟩ := own_stB X4 hx hZ e4 f_3 (j := (3 : Int32)) (x := ((((p1).toUInt64 >>> ((24 : Int32) &&& 0x3f).toInt64.toUInt64).toInt64).toInt32).toInt8.toInt32) (by decide) (show (3 : Nat) < 8 by decide) (g := (mkF m 61 #[.val (.int p0), .val (.long p1), .second, .val (.int (0 : Int32)), .val (.int (1 : Int32)), .val (.ref ar21), .unset, .unset, .unset, .unset, .unset] [(.int ((((p1).toUInt64 >>> ((24 : Int32) &&& 0x3f).toInt64.toUInt64).toInt64).toInt32).toInt8.toInt32), (.int (3 : Int32)), (.ref ar21)])) rfl rfl (hb hby at_61)
      rw [own_nar8] at A5
      have N5 := Fr.snoc X5 N4 ge_ar21
      have Z5 : n0 ≤ h5.size := by rw [W5.size]; exact Z4
      have f_4 : Arl Z h5 ar21 .byte [(.int ((p1).toInt32).toInt8.toInt32), (.int ((((p1).toUInt64 >>> ((8 : Int32) &&& 0x3f).toInt64.toUInt64).toInt64).toInt32).toInt8.toInt32), (.int ((((p1).toUInt64 >>> ((16 : Int32) &&& 0x3f).toInt64.toUInt64).toInt64).toInt32).toInt8.toInt32), (.int ((((p1).toUInt64 >>> ((24 : Int32) &&& 0x3f).toInt64.toUInt64).toInt64).toInt32).toInt8.toInt32), (.int (0 : Int32)), (.int (0 : Int32)), (.int (0 : Int32)), (.int (0 : Int32))] := A5
      refine Goes.go (st5) ?_
      show Goes _ _ _ _ _ _ _ (T5.setTop (mkF m 62 _ []))
      refine Goes.go (fun _ k => XS.aload X5.here hx rfl (hb hby at_62) rfl rfl k) ?_
      show Goes _ _ _ _ _ _ _ (T5.setTop (mkF m 64 _ [(.ref ar21)]))
      refine Goes.go (fun _ k => XS.iconst X5.here hx rfl (hb hby at_64) k) ?_
      show Goes _ _ _ _ _ _ _ (T5.setTop (mkF m 65 _ [(.int (4 : Int32)), (.ref ar21)]))
      refine Goes.go (fun _ k => XS.lloadN X5.here hx rfl (hb hby at_65) rfl k) ?_
      show Goes _ _ _ _ _ _ _ (T5.setTop (mkF m 66 _ [(.long p1), (.int (4 : Int32)), (.ref ar21)]))
      refine Goes.go (fun _ k => XS.bipush X5.here hx rfl (hb hby at_66) k) ?_
      show Goes _ _ _ _ _ _ _ (T5.setTop (mkF m 68 _ [(.int (32 : Int32)), (.long p1), (.int (4 : Int32)), (.ref ar21)]))
      refine Goes.go (fun _ k => XS.lushr X5.here hx rfl (hb hby at_68) rfl k) ?_
      show Goes _ _ _ _ _ _ _ (T5.setTop (mkF m 69 _ [(.long ((p1).toUInt64 >>> ((32 : Int32) &&& 0x3f).toInt64.toUInt64).toInt64), (.int (4 : Int32)), (.ref ar21)]))
      refine Goes.go (fun _ k => XS.l2i X5.here hx rfl (hb hby at_69) rfl k) ?_
      show Goes _ _ _ _ _ _ _ (T5.setTop (mkF m 70 _ [(.int (((p1).toUInt64 >>> ((32 : Int32) &&& 0x3f).toInt64.toUInt64).toInt64).toInt32), (.int (4 : Int32)), (.ref ar21)]))
      refine Goes.go (fun _ k => XS.i2b X5.here hx rfl (hb hby at_70) rfl k) ?_
      show Goes _ _ _ _ _ _ _ (T5.setTop (mkF m 71 _ [(.int ((((p1).toUInt64 >>> ((32 : Int32) &&& 0x3f).toInt64.toUInt64).toInt64).toInt32).toInt8.toInt32), (.int (4 : Int32)), (.ref ar21)]))
      obtain ⟨T6, h6, X6, e6, W6, A6, st6⟩ := own_stB X5 hx hZ e5 f_4 (j := (4 : Int32)) (x := ((((p1).toUInt64 >>> ((32 : Int32) &&& 0x3f).toInt64.toUInt64).toInt64).toInt32).toInt8.toInt32) (by decide) (show (4 : Nat) < 8 by decide) (g := (mkF m 71 #[.val (.int p0), .val (.long p1), .second, .val (.int (0 : Int32)), .val (.int (1 : Int32)), .val (.ref ar21), .unset, .unset, .unset, .unset, .unset] [(.int ((((p1).toUInt64 >>> ((32 : Int32) &&& 0x3f).toInt64.toUInt64).toInt64).toInt32).toInt8.toInt32), (.int (4 : Int32)), (.ref ar21)])) rfl rfl (hb hby at_71)
      rw [own_nar8] at A6
      have N6 := Fr.snoc X6 N5 ge_ar21
      have Z6 : n0 ≤ h6.size := by rw [W6.size]; exact Z5
      have f_5 : Arl Z h6 ar21 .byte [(.int ((p1).toInt32).toInt8.toInt32), (.int ((((p1).toUInt64 >>> ((8 : Int32) &&& 0x3f).toInt64.toUInt64).toInt64).toInt32).toInt8.toInt32), (.int ((((p1).toUInt64 >>> ((16 : Int32) &&& 0x3f).toInt64.toUInt64).toInt64).toInt32).toInt8.toInt32), (.int ((((p1).toUInt64 >>> ((24 : Int32) &&& 0x3f).toInt64.toUInt64).toInt64).toInt32).toInt8.toInt32), (.int ((((p1).toUInt64 >>> ((32 : Int32) &&& 0x3f).toInt64.toUInt64).toInt64).toInt32).toInt8.toInt32), (.int (0 : Int32)), (.int (0 : Int32)), (.int (0 : Int32))] := A6
      refine Goes.go (st6) ?_
      show Goes _ _ _ _ _ _ _ (T6.setTop (mkF m 72 _ []))
      refine Goes.go (fun _ k => XS.aload X6.here hx rfl (hb hby at_72) rfl rfl k) ?_
      show Goes _ _ _ _ _ _ _ (T6.setTop (mkF m 74 _ [(.ref ar21)]))
      refine Goes.go (fun _ k => XS.iconst X6.here hx rfl (hb hby at_74) k) ?_
      show Goes _ _ _ _ _ _ _ (T6.setTop (mkF m 75 _ [(.int (5 : Int32)), (.ref ar21)]))
      refine Goes.go (fun _ k => XS.lloadN X6.here hx rfl (hb hby at_75) rfl k) ?_
      show Goes _ _ _ _ _ _ _ (T6.setTop (mkF m 76 _ [(.long p1), (.int (5 : Int32)), (.ref ar21)]))
      refine Goes.go (fun _ k => XS.bipush X6.here hx rfl (hb hby at_76) k) ?_
      show Goes _ _ _ _ _ _ _ (T6.setTop (mkF m 78 _ [(.int (40 : Int32)), (.long p1), (.int (5 : Int32)), (.ref ar21)]))
      refine Goes.go (fun _ k => XS.lushr X6.here hx rfl (hb hby at_78) rfl k) ?_
      show Goes _ _ _ _ _ _ _ (T6.setTop (mkF m 79 _ [(.long ((p1).toUInt64 >>> ((40 : Int32) &&& 0x3f).toInt64.toUInt64).toInt64), (.int (5 : Int32)), (.ref ar21)]))
      refine Goes.go (fun _ k => XS.l2i X6.here hx rfl (hb hby at_79) rfl k) ?_
      show Goes _ _ _ _ _ _ _ (T6.setTop (mkF m 80 _ [(.int (((p1).toUInt64 >>> ((40 : Int32) &&& 0x3f).toInt64.toUInt64).toInt64).toInt32), (.int (5 : Int32)), (.ref ar21)]))
      refine Goes.go (fun _ k => XS.i2b X6.here hx rfl (hb hby at_80) rfl k) ?_
      show Goes _ _ _ _ _ _ _ (T6.setTop (mkF m 81 _ [(.int ((((p1).toUInt64 >>> ((40 : Int32) &&& 0x3f).toInt64.toUInt64).toInt64).toInt32).toInt8.toInt32), (.int (5 : Int32)), (.ref ar21)]))
      obtain ⟨T7, h7, X7, e7, W7, A7, st7⟩ := own_stB X6 hx hZ e6 f_5 (j := (5 : Int32)) (x := ((((p1).toUInt64 >>> ((40 : Int32) &&& 0x3f).toInt64.toUInt64).toInt64).toInt32).toInt8.toInt32) (by decide) (show (5 : Nat) < 8 by decide) (g := (mkF m 81 #[.val (.int p0), .val (.long p1), .second, .val (.int (0 : Int32)), .val (.int (1 : Int32)), .val (.ref ar21), .unset, .unset, .unset, .unset, .unset] [(.int ((((p1).toUInt64 >>> ((40 : Int32) &&& 0x3f).toInt64.toUInt64).toInt64).toInt32).toInt8.toInt32), (.int (5 : Int32)), (.ref ar21)])) rfl rfl (hb hby at_81)
      rw [own_nar8] at A7
      have N7 := Fr.snoc X7 N6 ge_ar21
      have Z7 : n0 ≤ h7.size := by rw [W7.size]; exact Z6
      have f_6 : Arl Z h7 ar21 .byte [(.int ((p1).toInt32).toInt8.toInt32), (.int ((((p1).toUInt64 >>> ((8 : Int32) &&& 0x3f).toInt64.toUInt64).toInt64).toInt32).toInt8.toInt32), (.int ((((p1).toUInt64 >>> ((16 : Int32) &&& 0x3f).toInt64.toUInt64).toInt64).toInt32).toInt8.toInt32), (.int ((((p1).toUInt64 >>> ((24 : Int32) &&& 0x3f).toInt64.toUInt64).toInt64).toInt32).toInt8.toInt32), (.int ((((p1).toUInt64 >>> ((32 : Int32) &&& 0x3f).toInt64.toUInt64).toInt64).toInt32).toInt8.toInt32), (.int ((((p1).toUInt64 >>> ((40 : Int32) &&& 0x3f).toInt64.toUInt64).toInt64).toInt32).toInt8.toInt32), (.int (0 : Int32)), (.int (0 : Int32))] := A7
      refine Goes.go (st7) ?_
      show Goes _ _ _ _ _ _ _ (T7.setTop (mkF m 82 _ []))
      refine Goes.go (fun _ k => XS.aload X7.here hx rfl (hb hby at_82) rfl rfl k) ?_
      show Goes _ _ _ _ _ _ _ (T7.setTop (mkF m 84 _ [(.ref ar21)]))
      refine Goes.go (fun _ k => XS.bipush X7.here hx rfl (hb hby at_84) k) ?_
      show Goes _ _ _ _ _ _ _ (T7.setTop (mkF m 86 _ [(.int (6 : Int32)), (.ref ar21)]))
      refine Goes.go (fun _ k => XS.lloadN X7.here hx rfl (hb hby at_86) rfl k) ?_
      show Goes _ _ _ _ _ _ _ (T7.setTop (mkF m 87 _ [(.long p1), (.int (6 : Int32)), (.ref ar21)]))
      refine Goes.go (fun _ k => XS.bipush X7.here hx rfl (hb hby at_87) k) ?_
      show Goes _ _ _ _ _ _ _ (T7.setTop (mkF m 89 _ [(.int (48 : Int32)), (.long p1), (.int (6 : Int32)), (.ref ar21)]))
      refine Goes.go (fun _ k => XS.lushr X7.here hx rfl (hb hby at_89) rfl k) ?_
      show Goes _ _ _ _ _ _ _ (T7.setTop (mkF m 90 _ [(.long ((p1).toUInt64 >>> ((48 : Int32) &&& 0x3f).toInt64.toUInt64).toInt64), (.int (6 : Int32)), (.ref ar21)]))
      refine Goes.go (fun _ k => XS.l2i X7.here hx rfl (hb hby at_90) rfl k) ?_
      show Goes _ _ _ _ _ _ _ (T7.setTop (mkF m 91 _ [(.int (((p1).toUInt64 >>> ((48 : Int32) &&& 0x3f).toInt64.toUInt64).toInt64).toInt32), (.int (6 : Int32)), (.ref ar21)]))
      refine Goes.go (fun _ k => XS.i2b X7.here hx rfl (hb hby at_91) rfl k) ?_
      show Goes _ _ _ _ _ _ _ (T7.setTop (mkF m 92 _ [(.int ((((p1).toUInt64 >>> ((48 : Int32) &&& 0x3f).toInt64.toUInt64).toInt64).toInt32).toInt8.toInt32), (.int (6 : Int32)), (.ref ar21)]))
      obtain ⟨T8, h8, X8, e8, W8, A8, st8⟩ := own_stB X7 hx hZ e7 f_6 (j := (6 : Int32)) (x := ((((p1).toUInt64 >>> ((48 : Int32) &&& 0x3f).toInt64.toUInt64).toInt64).toInt32).toInt8.toInt32) (by decide) (show (6 : Nat) < 8 by decide) (g := (mkF m 92 #[.val (.int p0), .val (.long p1), .second, .val (.int (0 : Int32)), .val (.int (1 : Int32)), .val (.ref ar21), .unset, .unset, .unset, .unset, .unset] [(.int ((((p1).toUInt64 >>> ((48 : Int32) &&& 0x3f).toInt64.toUInt64).toInt64).toInt32).toInt8.toInt32), (.int (6 : Int32)), (.ref ar21)])) rfl rfl (hb hby at_92)
      rw [own_nar8] at A8
      have N8 := Fr.snoc X8 N7 ge_ar21
      have Z8 : n0 ≤ h8.size := by rw [W8.size]; exact Z7
      have f_7 : Arl Z h8 ar21 .byte [(.int ((p1).toInt32).toInt8.toInt32), (.int ((((p1).toUInt64 >>> ((8 : Int32) &&& 0x3f).toInt64.toUInt64).toInt64).toInt32).toInt8.toInt32), (.int ((((p1).toUInt64 >>> ((16 : Int32) &&& 0x3f).toInt64.toUInt64).toInt64).toInt32).toInt8.toInt32), (.int ((((p1).toUInt64 >>> ((24 : Int32) &&& 0x3f).toInt64.toUInt64).toInt64).toInt32).toInt8.toInt32), (.int ((((p1).toUInt64 >>> ((32 : Int32) &&& 0x3f).toInt64.toUInt64).toInt64).toInt32).toInt8.toInt32), (.int ((((p1).toUInt64 >>> ((40 : Int32) &&& 0x3f).toInt64.toUInt64).toInt64).toInt32).toInt8.toInt32), (.int ((((p1).toUInt64 >>> ((48 : Int32) &&& 0x3f).toInt64.toUInt64).toInt64).toInt32).toInt8.toInt32), (.int (0 : Int32))] := A8
      refine Goes.go (st8) ?_
      show Goes _ _ _ _ _ _ _ (T8.setTop (mkF m 93 _ []))
      refine Goes.go (fun _ k => XS.aload X8.here hx rfl (hb hby at_93) rfl rfl k) ?_
      show Goes _ _ _ _ _ _ _ (T8.setTop (mkF m 95 _ [(.ref ar21)]))
      refine Goes.go (fun _ k => XS.bipush X8.here hx rfl (hb hby at_95) k) ?_
      show Goes _ _ _ _ _ _ _ (T8.setTop (mkF m 97 _ [(.int (7 : Int32)), (.ref ar21)]))
      refine Goes.go (fun _ k => XS.lloadN X8.here hx rfl (hb hby at_97) rfl k) ?_
      show Goes _ _ _ _ _ _ _ (T8.setTop (mkF m 98 _ [(.long p1), (.int (7 : Int32)), (.ref ar21)]))
      refine Goes.go (fun _ k => XS.bipush X8.here hx rfl (hb hby at_98) k) ?_
      show Goes _ _ _ _ _ _ _ (T8.setTop (mkF m 100 _ [(.int (56 : Int32)), (.long p1), (.int (7 : Int32)), (.ref ar21)]))
      refine Goes.go (fun _ k => XS.lushr X8.here hx rfl (hb hby at_100) rfl k) ?_
      show Goes _ _ _ _ _ _ _ (T8.setTop (mkF m 101 _ [(.long ((p1).toUInt64 >>> ((56 : Int32) &&& 0x3f).toInt64.toUInt64).toInt64), (.int (7 : Int32)), (.ref ar21)]))
      refine Goes.go (fun _ k => XS.l2i X8.here hx rfl (hb hby at_101) rfl k) ?_
      show Goes _ _ _ _ _ _ _ (T8.setTop (mkF m 102 _ [(.int (((p1).toUInt64 >>> ((56 : Int32) &&& 0x3f).toInt64.toUInt64).toInt64).toInt32), (.int (7 : Int32)), (.ref ar21)]))
      refine Goes.go (fun _ k => XS.i2b X8.here hx rfl (hb hby at_102) rfl k) ?_
      show Goes _ _ _ _ _ _ _ (T8.setTop (mkF m 103 _ [(.int ((((p1).toUInt64 >>> ((56 : Int32) &&& 0x3f).toInt64.toUInt64).toInt64).toInt32).toInt8.toInt32), (.int (7 : Int32)), (.ref ar21)]))
      obtain ⟨T9, h9, X9, e9, W9, A9, st9⟩ := own_stB X8 hx hZ e8 f_7 (j := (7 : Int32)) (x := ((((p1).toUInt64 >>> ((56 : Int32) &&& 0x3f).toInt64.toUInt64).toInt64).toInt32).toInt8.toInt32) (by decide) (show (7 : Nat) < 8 by decide) (g := (mkF m 103 #[.val (.int p0), .val (.long p1), .second, .val (.int (0 : Int32)), .val (.int (1 : Int32)), .val (.ref ar21), .unset, .unset, .unset, .unset, .unset] [(.int ((((p1).toUInt64 >>> ((56 : Int32) &&& 0x3f).toInt64.toUInt64).toInt64).toInt32).toInt8.toInt32), (.int (7 : Int32)), (.ref ar21)])) rfl rfl (hb hby at_103)
      rw [own_nar8] at A9
      have N9 := Fr.snoc X9 N8 ge_ar21
      have Z9 : n0 ≤ h9.size := by rw [W9.size]; exact Z8
      have f_8 : Arl Z h9 ar21 .byte [(.int ((p1).toInt32).toInt8.toInt32), (.int ((((p1).toUInt64 >>> ((8 : Int32) &&& 0x3f).toInt64.toUInt64).toInt64).toInt32).toInt8.toInt32), (.int ((((p1).toUInt64 >>> ((16 : Int32) &&& 0x3f).toInt64.toUInt64).toInt64).toInt32).toInt8.toInt32), (.int ((((p1).toUInt64 >>> ((24 : Int32) &&& 0x3f).toInt64.toUInt64).toInt64).toInt32).toInt8.toInt32), (.int ((((p1).toUInt64 >>> ((32 : Int32) &&& 0x3f).toInt64.toUInt64).toInt64).toInt32).toInt8.toInt32), (.int ((((p1).toUInt64 >>> ((40 : Int32) &&& 0x3f).toInt64.toUInt64).toInt64).toInt32).toInt8.toInt32), (.int ((((p1).toUInt64 >>> ((48 : Int32) &&& 0x3f).toInt64.toUInt64).toInt64).toInt32).toInt8.toInt32), (.int ((((p1).toUInt64 >>> ((56 : Int32) &&& 0x3f).toInt64.toUInt64).toInt64).toInt32).toInt8.toInt32)] := A9
      refine Goes.go (st9) ?_
      show Goes _ _ _ _ _ _ _ (T9.setTop (mkF m 104 _ []))
      refine Goes.go (fun _ k => XS.iload X9.here hx rfl (hb hby at_104) rfl k) ?_
      show Goes _ _ _ _ _ _ _ (T9.setTop (mkF m 106 _ [(.int (1 : Int32))]))
      refine Goes.go (fun _ k => XS.ifNo X9.here hx rfl (hb hby at_106) rfl (XT.i0_eq_f (by decide)) k) ?_
      show Goes _ _ _ _ _ _ _ (T9.setTop (mkF m 109 _ []))
      refine Goes.go (fun _ k => XS.iconst X9.here hx rfl (hb hby at_109) k) ?_
      show Goes _ _ _ _ _ _ _ (T9.setTop (mkF m 110 _ [(.int (2 : Int32))]))
      refine Goes.go (fun _ k => XS.goto X9.here hx rfl (pc0 := 110) (pc' := 114) rfl (hb hby at_110) (by decide) (by decide) k) ?_
      show Goes _ _ _ _ _ _ _ (T9.setTop (mkF m 114 _ [(.int (2 : Int32))]))
      refine Goes.go (fun _ k => XS.istore X9.here hx rfl (hb hby at_114) rfl (l' := #[.val (.int p0), .val (.long p1), .second, .val (.int (0 : Int32)), .val (.int (1 : Int32)), .val (.ref ar21), .val (.int (2 : Int32)), .unset, .unset, .unset, .unset]) rfl k) ?_
      show Goes _ _ _ _ _ _ _ (T9.setTop (mkF m 116 #[.val (.int p0), .val (.long p1), .second, .val (.int (0 : Int32)), .val (.int (1 : Int32)), .val (.ref ar21), .val (.int (2 : Int32)), .unset, .unset, .unset, .unset] []))
      refine Goes.go (fun _ k => XS.bipush X9.here hx rfl (hb hby at_116) k) ?_
      show Goes _ _ _ _ _ _ _ (T9.setTop (mkF m 118 _ [(.int (8 : Int32))]))
      refine Goes.go (fun _ k => XS.iload X9.here hx rfl (hb hby at_118) rfl k) ?_
      show Goes _ _ _ _ _ _ _ (T9.setTop (mkF m 120 _ [(.int (2 : Int32)), (.int (8 : Int32))]))
      refine Goes.go (fun _ k => XS.isub X9.here hx rfl (hb hby at_120) rfl k) ?_
      show Goes _ _ _ _ _ _ _ (T9.setTop (mkF m 121 _ [(.int (6 : Int32))]))
      refine Goes.go (fun _ k => XS.iloadN X9.here hx rfl (hb hby at_121) rfl k) ?_
      show Goes _ _ _ _ _ _ _ (T9.setTop (mkF m 122 _ [(.int (0 : Int32)), (.int (6 : Int32))]))
      refine Goes.go (fun _ k => XS.isub X9.here hx rfl (hb hby at_122) rfl k) ?_
      show Goes _ _ _ _ _ _ _ (T9.setTop (mkF m 123 _ [(.int (6 : Int32))]))
      refine Goes.go (fun _ k => XS.istore X9.here hx rfl (hb hby at_123) rfl (l' := #[.val (.int p0), .val (.long p1), .second, .val (.int (0 : Int32)), .val (.int (1 : Int32)), .val (.ref ar21), .val (.int (2 : Int32)), .val (.int (6 : Int32)), .unset, .unset, .unset]) rfl k) ?_
      show Goes _ _ _ _ _ _ _ (T9.setTop (mkF m 125 #[.val (.int p0), .val (.long p1), .second, .val (.int (0 : Int32)), .val (.int (1 : Int32)), .val (.ref ar21), .val (.int (2 : Int32)), .val (.int (6 : Int32)), .unset, .unset, .unset] []))
      refine Goes.go (fun _ k => XS.iloadN X9.here hx rfl (hb hby at_125) rfl k) ?_
      show Goes _ _ _ _ _ _ _ (T9.setTop (mkF m 126 _ [(.int (0 : Int32))]))
      refine Goes.go (fun _ k => XS.iconst X9.here hx rfl (hb hby at_126) k) ?_
      show Goes _ _ _ _ _ _ _ (T9.setTop (mkF m 127 _ [(.int (1 : Int32)), (.int (0 : Int32))]))
      refine Goes.go (fun _ k => XS.icmpYes X9.here hx rfl (pc0 := 127) (pc' := 144) rfl (hb hby at_127) rfl (XT.ii_lt_t (by decide)) (by decide) (by decide) k) ?_
      show Goes _ _ _ _ _ _ _ (T9.setTop (mkF m 144 _ []))
      refine Goes.go (fun _ k => XS.iloadN X9.here hx rfl (hb hby at_144) rfl k) ?_
      show Goes _ _ _ _ _ _ _ (T9.setTop (mkF m 145 _ [(.int (0 : Int32))]))
      refine Goes.go (fun _ k => XS.iconst X9.here hx rfl (hb hby at_145) k) ?_
      show Goes _ _ _ _ _ _ _ (T9.setTop (mkF m 146 _ [(.int (2 : Int32)), (.int (0 : Int32))]))
      refine Goes.go (fun _ k => XS.icmpYes X9.here hx rfl (pc0 := 146) (pc' := 167) rfl (hb hby at_146) rfl (XT.ii_lt_t (by decide)) (by decide) (by decide) k) ?_
      show Goes _ _ _ _ _ _ _ (T9.setTop (mkF m 167 _ []))
      refine Goes.go (fun _ k => XS.iloadN X9.here hx rfl (hb hby at_167) rfl k) ?_
      show Goes _ _ _ _ _ _ _ (T9.setTop (mkF m 168 _ [(.int (0 : Int32))]))
      refine Goes.go (fun _ k => XS.iconst X9.here hx rfl (hb hby at_168) k) ?_
      show Goes _ _ _ _ _ _ _ (T9.setTop (mkF m 169 _ [(.int (3 : Int32)), (.int (0 : Int32))]))
      refine Goes.go (fun _ k => XS.icmpYes X9.here hx rfl (pc0 := 169) (pc' := 190) rfl (hb hby at_169) rfl (XT.ii_lt_t (by decide)) (by decide) (by decide) k) ?_
      show Goes _ _ _ _ _ _ _ (T9.setTop (mkF m 190 _ []))
      refine Goes.go (fun _ k => XS.iload X9.here hx rfl (hb hby at_190) rfl k) ?_
      show Goes _ _ _ _ _ _ _ (T9.setTop (mkF m 192 _ [(.int (1 : Int32))]))
      refine Goes.go (fun _ k => XS.ifNo X9.here hx rfl (hb hby at_192) rfl (XT.i0_eq_f (by decide)) k) ?_
      show Goes _ _ _ _ _ _ _ (T9.setTop (mkF m 195 _ []))
      refine Goes.go (fun _ k => XS.aload X9.here hx rfl (hb hby at_195) rfl rfl k) ?_
      show Goes _ _ _ _ _ _ _ (T9.setTop (mkF m 197 _ [(.ref ar21)]))
      refine Goes.go (fun _ k => XS.bipush X9.here hx rfl (hb hby at_197) k) ?_
      show Goes _ _ _ _ _ _ _ (T9.setTop (mkF m 199 _ [(.int (6 : Int32)), (.ref ar21)]))
      refine Goes.go (fun _ k => XS.aload X9.here hx rfl (hb hby at_199) rfl rfl k) ?_
      show Goes _ _ _ _ _ _ _ (T9.setTop (mkF m 201 _ [(.ref ar21), (.int (6 : Int32)), (.ref ar21)]))
      refine Goes.go (fun _ k => XS.bipush X9.here hx rfl (hb hby at_201) k) ?_
      show Goes _ _ _ _ _ _ _ (T9.setTop (mkF m 203 _ [(.int (6 : Int32)), (.ref ar21), (.int (6 : Int32)), (.ref ar21)]))
      refine Goes.go (own_ldB X9 hx hZ e9 f_8 (j := (6 : Int32)) (v := (.int ((((p1).toUInt64 >>> ((48 : Int32) &&& 0x3f).toInt64.toUInt64).toInt64).toInt32).toInt8.toInt32)) (by decide) rfl rfl rfl (hb hby at_203)) ?_
      show Goes _ _ _ _ _ _ _ (T9.setTop (mkF m 204 _ [(.int ((((p1).toUInt64 >>> ((48 : Int32) &&& 0x3f).toInt64.toUInt64).toInt64).toInt32).toInt8.toInt32), (.int (6 : Int32)), (.ref ar21)]))
      refine Goes.go (fun _ k => XS.sipush X9.here hx rfl (hb hby at_204) k) ?_
      show Goes _ _ _ _ _ _ _ (T9.setTop (mkF m 207 _ [(.int (128 : Int32)), (.int ((((p1).toUInt64 >>> ((48 : Int32) &&& 0x3f).toInt64.toUInt64).toInt64).toInt32).toInt8.toInt32), (.int (6 : Int32)), (.ref ar21)]))
      refine Goes.go (fun _ k => XS.ior X9.here hx rfl (hb hby at_207) rfl k) ?_
      show Goes _ _ _ _ _ _ _ (T9.setTop (mkF m 208 _ [(.int (((((p1).toUInt64 >>> ((48 : Int32) &&& 0x3f).toInt64.toUInt64).toInt64).toInt32).toInt8.toInt32 ||| (128 : Int32))), (.int (6 : Int32)), (.ref ar21)]))
      refine Goes.go (fun _ k => XS.i2b X9.here hx rfl (hb hby at_208) rfl k) ?_
      show Goes _ _ _ _ _ _ _ (T9.setTop (mkF m 209 _ [(.int ((((((p1).toUInt64 >>> ((48 : Int32) &&& 0x3f).toInt64.toUInt64).toInt64).toInt32).toInt8.toInt32 ||| (128 : Int32))).toInt8.toInt32), (.int (6 : Int32)), (.ref ar21)]))
      obtain ⟨T10, h10, X10, e10, W10, A10, st10⟩ := own_stB X9 hx hZ e9 f_8 (j := (6 : Int32)) (x := ((((((p1).toUInt64 >>> ((48 : Int32) &&& 0x3f).toInt64.toUInt64).toInt64).toInt32).toInt8.toInt32 ||| (128 : Int32))).toInt8.toInt32) (by decide) (show (6 : Nat) < 8 by decide) (g := (mkF m 209 #[.val (.int p0), .val (.long p1), .second, .val (.int (0 : Int32)), .val (.int (1 : Int32)), .val (.ref ar21), .val (.int (2 : Int32)), .val (.int (6 : Int32)), .unset, .unset, .unset] [(.int ((((((p1).toUInt64 >>> ((48 : Int32) &&& 0x3f).toInt64.toUInt64).toInt64).toInt32).toInt8.toInt32 ||| (128 : Int32))).toInt8.toInt32), (.int (6 : Int32)), (.ref ar21)])) rfl rfl (hb hby at_209)
      rw [own_nar8] at A10
      have N10 := Fr.snoc X10 N9 ge_ar21
      have Z10 : n0 ≤ h10.size := by rw [W10.size]; exact Z9
      have f_9 : Arl Z h10 ar21 .byte [(.int ((p1).toInt32).toInt8.toInt32), (.int ((((p1).toUInt64 >>> ((8 : Int32) &&& 0x3f).toInt64.toUInt64).toInt64).toInt32).toInt8.toInt32), (.int ((((p1).toUInt64 >>> ((16 : Int32) &&& 0x3f).toInt64.toUInt64).toInt64).toInt32).toInt8.toInt32), (.int ((((p1).toUInt64 >>> ((24 : Int32) &&& 0x3f).toInt64.toUInt64).toInt64).toInt32).toInt8.toInt32), (.int ((((p1).toUInt64 >>> ((32 : Int32) &&& 0x3f).toInt64.toUInt64).toInt64).toInt32).toInt8.toInt32), (.int ((((p1).toUInt64 >>> ((40 : Int32) &&& 0x3f).toInt64.toUInt64).toInt64).toInt32).toInt8.toInt32), (.int ((((((p1).toUInt64 >>> ((48 : Int32) &&& 0x3f).toInt64.toUInt64).toInt64).toInt32).toInt8.toInt32 ||| (128 : Int32))).toInt8.toInt32), (.int ((((p1).toUInt64 >>> ((56 : Int32) &&& 0x3f).toInt64.toUInt64).toInt64).toInt32).toInt8.toInt32)] := A10
      refine Goes.go (st10) ?_
      show Goes _ _ _ _ _ _ _ (T10.setTop (mkF m 210 _ []))
      refine Goes.go (fun _ k => XS.aload X10.here hx rfl (hb hby at_210) rfl rfl k) ?_
      show Goes _ _ _ _ _ _ _ (T10.setTop (mkF m 212 _ [(.ref ar21)]))
      refine Goes.go (fun _ k => XS.bipush X10.here hx rfl (hb hby at_212) k) ?_
      show Goes _ _ _ _ _ _ _ (T10.setTop (mkF m 214 _ [(.int (7 : Int32)), (.ref ar21)]))
      refine Goes.go (fun _ k => XS.aload X10.here hx rfl (hb hby at_214) rfl rfl k) ?_
      show Goes _ _ _ _ _ _ _ (T10.setTop (mkF m 216 _ [(.ref ar21), (.int (7 : Int32)), (.ref ar21)]))
      refine Goes.go (fun _ k => XS.bipush X10.here hx rfl (hb hby at_216) k) ?_
      show Goes _ _ _ _ _ _ _ (T10.setTop (mkF m 218 _ [(.int (7 : Int32)), (.ref ar21), (.int (7 : Int32)), (.ref ar21)]))
      refine Goes.go (own_ldB X10 hx hZ e10 f_9 (j := (7 : Int32)) (v := (.int ((((p1).toUInt64 >>> ((56 : Int32) &&& 0x3f).toInt64.toUInt64).toInt64).toInt32).toInt8.toInt32)) (by decide) rfl rfl rfl (hb hby at_218)) ?_
      show Goes _ _ _ _ _ _ _ (T10.setTop (mkF m 219 _ [(.int ((((p1).toUInt64 >>> ((56 : Int32) &&& 0x3f).toInt64.toUInt64).toInt64).toInt32).toInt8.toInt32), (.int (7 : Int32)), (.ref ar21)]))
      refine Goes.go (fun _ k => XS.bipush X10.here hx rfl (hb hby at_219) k) ?_
      show Goes _ _ _ _ _ _ _ (T10.setTop (mkF m 221 _ [(.int (127 : Int32)), (.int ((((p1).toUInt64 >>> ((56 : Int32) &&& 0x3f).toInt64.toUInt64).toInt64).toInt32).toInt8.toInt32), (.int (7 : Int32)), (.ref ar21)]))
      refine Goes.go (fun _ k => XS.iand X10.here hx rfl (hb hby at_221) rfl k) ?_
      show Goes _ _ _ _ _ _ _ (T10.setTop (mkF m 222 _ [(.int (((((p1).toUInt64 >>> ((56 : Int32) &&& 0x3f).toInt64.toUInt64).toInt64).toInt32).toInt8.toInt32 &&& (127 : Int32))), (.int (7 : Int32)), (.ref ar21)]))
      refine Goes.go (fun _ k => XS.i2b X10.here hx rfl (hb hby at_222) rfl k) ?_
      show Goes _ _ _ _ _ _ _ (T10.setTop (mkF m 223 _ [(.int ((((((p1).toUInt64 >>> ((56 : Int32) &&& 0x3f).toInt64.toUInt64).toInt64).toInt32).toInt8.toInt32 &&& (127 : Int32))).toInt8.toInt32), (.int (7 : Int32)), (.ref ar21)]))
      obtain ⟨T11, h11, X11, e11, W11, A11, st11⟩ := own_stB X10 hx hZ e10 f_9 (j := (7 : Int32)) (x := ((((((p1).toUInt64 >>> ((56 : Int32) &&& 0x3f).toInt64.toUInt64).toInt64).toInt32).toInt8.toInt32 &&& (127 : Int32))).toInt8.toInt32) (by decide) (show (7 : Nat) < 8 by decide) (g := (mkF m 223 #[.val (.int p0), .val (.long p1), .second, .val (.int (0 : Int32)), .val (.int (1 : Int32)), .val (.ref ar21), .val (.int (2 : Int32)), .val (.int (6 : Int32)), .unset, .unset, .unset] [(.int ((((((p1).toUInt64 >>> ((56 : Int32) &&& 0x3f).toInt64.toUInt64).toInt64).toInt32).toInt8.toInt32 &&& (127 : Int32))).toInt8.toInt32), (.int (7 : Int32)), (.ref ar21)])) rfl rfl (hb hby at_223)
      rw [own_nar8] at A11
      have N11 := Fr.snoc X11 N10 ge_ar21
      have Z11 : n0 ≤ h11.size := by rw [W11.size]; exact Z10
      have f_10 : Arl Z h11 ar21 .byte [(.int ((p1).toInt32).toInt8.toInt32), (.int ((((p1).toUInt64 >>> ((8 : Int32) &&& 0x3f).toInt64.toUInt64).toInt64).toInt32).toInt8.toInt32), (.int ((((p1).toUInt64 >>> ((16 : Int32) &&& 0x3f).toInt64.toUInt64).toInt64).toInt32).toInt8.toInt32), (.int ((((p1).toUInt64 >>> ((24 : Int32) &&& 0x3f).toInt64.toUInt64).toInt64).toInt32).toInt8.toInt32), (.int ((((p1).toUInt64 >>> ((32 : Int32) &&& 0x3f).toInt64.toUInt64).toInt64).toInt32).toInt8.toInt32), (.int ((((p1).toUInt64 >>> ((40 : Int32) &&& 0x3f).toInt64.toUInt64).toInt64).toInt32).toInt8.toInt32), (.int ((((((p1).toUInt64 >>> ((48 : Int32) &&& 0x3f).toInt64.toUInt64).toInt64).toInt32).toInt8.toInt32 ||| (128 : Int32))).toInt8.toInt32), (.int ((((((p1).toUInt64 >>> ((56 : Int32) &&& 0x3f).toInt64.toUInt64).toInt64).toInt32).toInt8.toInt32 &&& (127 : Int32))).toInt8.toInt32)] := A11
      refine Goes.go (st11) ?_
      show Goes _ _ _ _ _ _ _ (T11.setTop (mkF m 224 _ []))
      obtain ⟨T12, h12, X12, e12, E12, A12, D12, -, st12⟩ := newO X11 hx hZ hown (hw _ (List.mem_of_getElem? (i := 1) rfl)) (hw _ (List.mem_of_getElem? (i := 2) rfl)) (hw _ (List.mem_of_getElem? (i := 3) rfl)) e11 (g := (mkF m 224 #[.val (.int p0), .val (.long p1), .second, .val (.int (0 : Int32)), .val (.int (1 : Int32)), .val (.ref ar21), .val (.int (2 : Int32)), .val (.int (6 : Int32)), .unset, .unset, .unset] [])) rfl (hb hby at_224) (by decide) (by decide)
      obtain ⟨ob224, gob224⟩ : ∃ z, z = h11.size := ⟨_, rfl⟩
      rw [← gob224] at A12 D12 st12
      have ne_ar21_ob224 : ar21 ≠ ob224 := by rw [gob224]; exact Nat.ne_of_lt f_10.lt
      have f_11 := f_10.ext E12
      have Z12 : n0 ≤ h12.size := Nat.le_trans Z11 E12.1
      have ge_ob224 : n0 ≤ ob224 := Nat.le_trans Z11 (Nat.le_of_eq gob224.symm)
      have f_12 : Fld Z h12 ob224 "com/example/countermand/countermand/Packed$Reader" "in" "[B" .null := D12 (Or.inr (hw _ (List.mem_of_getElem? (i := 11) rfl))) (ty := (.array .byte)) (by decide)
      have f_13 : Fld Z h12 ob224 "com/example/countermand/countermand/Packed$Reader" "position" "I" (.int (0 : Int32)) := D12 (Or.inl (hw _ (List.mem_of_getElem? (i := 13) rfl))) (ty := .int) (by decide)
      refine Goes.go (st12) ?_
      show Goes _ _ _ _ _ _ _ (T12.setTop (mkF m 227 _ [(.ref ob224)]))
      refine Goes.go (fun _ k => XS.dup X12.here hx rfl (hb hby at_227) rfl rfl k) ?_
      show Goes _ _ _ _ _ _ _ (T12.setTop (mkF m 228 _ [(.ref ob224), (.ref ob224)]))
      refine Goes.go (fun _ k => XS.aload X12.here hx rfl (hb hby at_228) rfl rfl k) ?_
      show Goes _ _ _ _ _ _ _ (T12.setTop (mkF m 230 _ [(.ref ar21), (.ref ob224), (.ref ob224)]))
      refine Goes.go (fun _ k => XS.iload X12.here hx rfl (hb hby at_230) rfl k) ?_
      show Goes _ _ _ _ _ _ _ (T12.setTop (mkF m 232 _ [(.int (6 : Int32)), (.ref ar21), (.ref ob224), (.ref ob224)]))
      obtain ⟨_, _, ⟨T13, L13, k13, n13⟩, -, X13, ⟨Lc13, hQ13, l13, y13, z13⟩, st13⟩ := X12.specialBack hx (y := (⟨"com/example/countermand/countermand/Packed$Reader", "<init>", "([BI)V"⟩ : MethodName)) rfl hown (mvT hZ (hw _ (List.mem_of_getElem? (i := 4) rfl))) (mvT hZ (hw _ (List.mem_of_getElem? (i := 5) rfl))) (mvT hZ (hw _ (List.mem_of_getElem? (i := 6) rfl))) (by decide) (backOf (W := 1) (rm1 l Z a0 hw [] ob224 ar21 (6 : Int32) h12 n0 Z12 A12 f_12 f_13 ge_ob224) hZ (hw _ (List.mem_of_getElem? (i := 6) rfl)) (hw _ (List.mem_of_getElem? (i := 3) rfl)) (by decide) (by decide)) (g := (mkF m 232 #[.val (.int p0), .val (.long p1), .second, .val (.int (0 : Int32)), .val (.int (1 : Int32)), .val (.ref ar21), .val (.int (2 : Int32)), .val (.int (6 : Int32)), .unset, .unset, .unset] [(.int (6 : Int32)), (.ref ar21), (.ref ob224), (.ref ob224)])) rfl (by rw [hml]; rfl) (Steps.refl _) (a := ob224) (argsL := [(.ref ar21), (.int (6 : Int32))]) (rest := [(.ref ob224)]) (lenOf pd0 rfl) rfl (by show 2 * 0 + _ ≤ _; exact Nat.le_of_eq rfl) (hb hby at_232) (fun _ _ => ⟨rfl, e12, (by decide : 2 + 0 ≤ _), (by decide : 10 + 0 ≤ _)⟩)
      dsimp only [Pt.U, Pt.locs, Pt.cells, Pt.slots] at X13 l13 y13 z13 st13 hQ13
      subst l13 y13 z13
      obtain ⟨rfl, Nq13, Kq13, Eq13, Fq13_0, Fq13_1⟩ := hQ13
      have N13 := Fr.app N11 Nq13
      have Z13 : n0 ≤ T13.heap.size := Nat.le_trans Z12 Kq13.1
      have f_14 := Arl.keep f_11 Kq13 (ninS ne_ar21_ob224 nin0)
      refine Goes.go (fun _ k => st13.trans k) ?_
      show Goes _ _ _ _ _ _ _ (T13.setTop (mkF m 235 _ [(.ref ob224)]))
      refine Goes.go (fun _ k => XS.astore X13.here hx rfl (hb hby at_235) rfl rfl (l' := #[.val (.int p0), .val (.long p1), .second, .val (.int (0 : Int32)), .val (.int (1 : Int32)), .val (.ref ar21), .val (.int (2 : Int32)), .val (.int (6 : Int32)), .val (.ref ob224), .unset, .unset]) rfl k) ?_
      show Goes _ _ _ _ _ _ _ (T13.setTop (mkF m 237 #[.val (.int p0), .val (.long p1), .second, .val (.int (0 : Int32)), .val (.int (1 : Int32)), .val (.ref ar21), .val (.int (2 : Int32)), .val (.int (6 : Int32)), .val (.ref ob224), .unset, .unset] []))
      refine Goes.go (fun _ k => XS.iconst X13.here hx rfl (hb hby at_237) k) ?_
      show Goes _ _ _ _ _ _ _ (T13.setTop (mkF m 238 _ [(.int (1 : Int32))]))
      refine Goes.go (fun _ k => XS.istore X13.here hx rfl (hb hby at_238) rfl (l' := #[.val (.int p0), .val (.long p1), .second, .val (.int (0 : Int32)), .val (.int (1 : Int32)), .val (.ref ar21), .val (.int (2 : Int32)), .val (.int (6 : Int32)), .val (.ref ob224), .val (.int (1 : Int32)), .unset]) rfl k) ?_
      show Goes _ _ _ _ _ _ _ (T13.setTop (mkF m 240 #[.val (.int p0), .val (.long p1), .second, .val (.int (0 : Int32)), .val (.int (1 : Int32)), .val (.ref ar21), .val (.int (2 : Int32)), .val (.int (6 : Int32)), .val (.ref ob224), .val (.int (1 : Int32)), .unset] []))
      refine Goes.go (fun _ k => XS.iloadN X13.here hx rfl (hb hby at_240) rfl k) ?_
      show Goes _ _ _ _ _ _ _ (T13.setTop (mkF m 241 _ [(.int (0 : Int32))]))
      refine Goes.go (fun _ k => XS.iconst X13.here hx rfl (hb hby at_241) k) ?_
      show Goes _ _ _ _ _ _ _ (T13.setTop (mkF m 242 _ [(.int (1 : Int32)), (.int (0 : Int32))]))
      refine Goes.go (fun _ k => XS.icmpYes X13.here hx rfl (pc0 := 242) (pc' := 270) rfl (hb hby at_242) rfl (XT.ii_lt_t (by decide)) (by decide) (by decide) k) ?_
      show Goes _ _ _ _ _ _ _ (T13.setTop (mkF m 270 _ []))
      refine Goes.go (fun _ k => XS.iloadN X13.here hx rfl (hb hby at_270) rfl k) ?_
      show Goes _ _ _ _ _ _ _ (T13.setTop (mkF m 271 _ [(.int (0 : Int32))]))
      refine Goes.go (fun _ k => XS.iconst X13.here hx rfl (hb hby at_271) k) ?_
      show Goes _ _ _ _ _ _ _ (T13.setTop (mkF m 272 _ [(.int (2 : Int32)), (.int (0 : Int32))]))
      refine Goes.go (fun _ k => XS.icmpYes X13.here hx rfl (pc0 := 272) (pc' := 302) rfl (hb hby at_272) rfl (XT.ii_lt_t (by decide)) (by decide) (by decide) k) ?_
      show Goes _ _ _ _ _ _ _ (T13.setTop (mkF m 302 _ []))
      refine Goes.go (fun _ k => XS.iloadN X13.here hx rfl (hb hby at_302) rfl k) ?_
      show Goes _ _ _ _ _ _ _ (T13.setTop (mkF m 303 _ [(.int (0 : Int32))]))
      refine Goes.go (fun _ k => XS.iconst X13.here hx rfl (hb hby at_303) k) ?_
      show Goes _ _ _ _ _ _ _ (T13.setTop (mkF m 304 _ [(.int (3 : Int32)), (.int (0 : Int32))]))
      refine Goes.go (fun _ k => XS.icmpYes X13.here hx rfl (pc0 := 304) (pc' := 334) rfl (hb hby at_304) rfl (XT.ii_lt_t (by decide)) (by decide) (by decide) k) ?_
      show Goes _ _ _ _ _ _ _ (T13.setTop (mkF m 334 _ []))
      refine Goes.go (fun _ k => XS.iload X13.here hx rfl (hb hby at_334) rfl k) ?_
      show Goes _ _ _ _ _ _ _ (T13.setTop (mkF m 336 _ [(.int (1 : Int32))]))
      refine Goes.go (fun _ k => XS.ifNo X13.here hx rfl (hb hby at_336) rfl (XT.i0_eq_f (by decide)) k) ?_
      show Goes _ _ _ _ _ _ _ (T13.setTop (mkF m 339 _ []))
      refine Goes.go (fun _ k => XS.aload X13.here hx rfl (hb hby at_339) rfl rfl k) ?_
      show Goes _ _ _ _ _ _ _ (T13.setTop (mkF m 341 _ [(.ref ar21)]))
      refine Goes.go (fun _ k => XS.bipush X13.here hx rfl (hb hby at_341) k) ?_
      show Goes _ _ _ _ _ _ _ (T13.setTop (mkF m 343 _ [(.int (6 : Int32)), (.ref ar21)]))
      refine Goes.go (own_ldB X13 hx hZ rfl f_14 (j := (6 : Int32)) (v := (.int ((((((p1).toUInt64 >>> ((48 : Int32) &&& 0x3f).toInt64.toUInt64).toInt64).toInt32).toInt8.toInt32 ||| (128 : Int32))).toInt8.toInt32)) (by decide) rfl rfl rfl (hb hby at_343)) ?_
      show Goes _ _ _ _ _ _ _ (T13.setTop (mkF m 344 _ [(.int ((((((p1).toUInt64 >>> ((48 : Int32) &&& 0x3f).toInt64.toUInt64).toInt64).toInt32).toInt8.toInt32 ||| (128 : Int32))).toInt8.toInt32)]))
      refine Goes.go (fun _ k => XS.bipush X13.here hx rfl (hb hby at_344) k) ?_
      show Goes _ _ _ _ _ _ _ (T13.setTop (mkF m 346 _ [(.int (127 : Int32)), (.int ((((((p1).toUInt64 >>> ((48 : Int32) &&& 0x3f).toInt64.toUInt64).toInt64).toInt32).toInt8.toInt32 ||| (128 : Int32))).toInt8.toInt32)]))
      refine Goes.go (fun _ k => XS.iand X13.here hx rfl (hb hby at_346) rfl k) ?_
      show Goes _ _ _ _ _ _ _ (T13.setTop (mkF m 347 _ [(.int (((((((p1).toUInt64 >>> ((48 : Int32) &&& 0x3f).toInt64.toUInt64).toInt64).toInt32).toInt8.toInt32 ||| (128 : Int32))).toInt8.toInt32 &&& (127 : Int32)))]))
      refine Goes.go (fun _ k => XS.aload X13.here hx rfl (hb hby at_347) rfl rfl k) ?_
      show Goes _ _ _ _ _ _ _ (T13.setTop (mkF m 349 _ [(.ref ar21), (.int (((((((p1).toUInt64 >>> ((48 : Int32) &&& 0x3f).toInt64.toUInt64).toInt64).toInt32).toInt8.toInt32 ||| (128 : Int32))).toInt8.toInt32 &&& (127 : Int32)))]))
      refine Goes.go (fun _ k => XS.bipush X13.here hx rfl (hb hby at_349) k) ?_
      show Goes _ _ _ _ _ _ _ (T13.setTop (mkF m 351 _ [(.int (7 : Int32)), (.ref ar21), (.int (((((((p1).toUInt64 >>> ((48 : Int32) &&& 0x3f).toInt64.toUInt64).toInt64).toInt32).toInt8.toInt32 ||| (128 : Int32))).toInt8.toInt32 &&& (127 : Int32)))]))
      refine Goes.go (own_ldB X13 hx hZ rfl f_14 (j := (7 : Int32)) (v := (.int ((((((p1).toUInt64 >>> ((56 : Int32) &&& 0x3f).toInt64.toUInt64).toInt64).toInt32).toInt8.toInt32 &&& (127 : Int32))).toInt8.toInt32)) (by decide) rfl rfl rfl (hb hby at_351)) ?_
      show Goes _ _ _ _ _ _ _ (T13.setTop (mkF m 352 _ [(.int ((((((p1).toUInt64 >>> ((56 : Int32) &&& 0x3f).toInt64.toUInt64).toInt64).toInt32).toInt8.toInt32 &&& (127 : Int32))).toInt8.toInt32), (.int (((((((p1).toUInt64 >>> ((48 : Int32) &&& 0x3f).toInt64.toUInt64).toInt64).toInt32).toInt8.toInt32 ||| (128 : Int32))).toInt8.toInt32 &&& (127 : Int32)))]))
      refine Goes.go (fun _ k => XS.bipush X13.here hx rfl (hb hby at_352) k) ?_
      show Goes _ _ _ _ _ _ _ (T13.setTop (mkF m 354 _ [(.int (7 : Int32)), (.int ((((((p1).toUInt64 >>> ((56 : Int32) &&& 0x3f).toInt64.toUInt64).toInt64).toInt32).toInt8.toInt32 &&& (127 : Int32))).toInt8.toInt32), (.int (((((((p1).toUInt64 >>> ((48 : Int32) &&& 0x3f).toInt64.toUInt64).toInt64).toInt32).toInt8.toInt32 ||| (128 : Int32))).toInt8.toInt32 &&& (127 : Int32)))]))
      refine Goes.go (fun _ k => XS.ishl X13.here hx rfl (hb hby at_354) rfl k) ?_
      show Goes _ _ _ _ _ _ _ (T13.setTop (mkF m 355 _ [(.int (((((((p1).toUInt64 >>> ((56 : Int32) &&& 0x3f).toInt64.toUInt64).toInt64).toInt32).toInt8.toInt32 &&& (127 : Int32))).toInt8.toInt32 <<< ((7 : Int32) &&& 31))), (.int (((((((p1).toUInt64 >>> ((48 : Int32) &&& 0x3f).toInt64.toUInt64).toInt64).toInt32).toInt8.toInt32 ||| (128 : Int32))).toInt8.toInt32 &&& (127 : Int32)))]))
      refine Goes.go (fun _ k => XS.ior X13.here hx rfl (hb hby at_355) rfl k) ?_
      show Goes _ _ _ _ _ _ _ (T13.setTop (mkF m 356 _ [(.int ((((((((p1).toUInt64 >>> ((48 : Int32) &&& 0x3f).toInt64.toUInt64).toInt64).toInt32).toInt8.toInt32 ||| (128 : Int32))).toInt8.toInt32 &&& (127 : Int32)) ||| (((((((p1).toUInt64 >>> ((56 : Int32) &&& 0x3f).toInt64.toUInt64).toInt64).toInt32).toInt8.toInt32 &&& (127 : Int32))).toInt8.toInt32 <<< ((7 : Int32) &&& 31))))]))
      refine Goes.go (fun _ k => XS.istore X13.here hx rfl (hb hby at_356) rfl (l' := #[.val (.int p0), .val (.long p1), .second, .val (.int (0 : Int32)), .val (.int (1 : Int32)), .val (.ref ar21), .val (.int (2 : Int32)), .val (.int (6 : Int32)), .val (.ref ob224), .val (.int (1 : Int32)), .val (.int ((((((((p1).toUInt64 >>> ((48 : Int32) &&& 0x3f).toInt64.toUInt64).toInt64).toInt32).toInt8.toInt32 ||| (128 : Int32))).toInt8.toInt32 &&& (127 : Int32)) ||| (((((((p1).toUInt64 >>> ((56 : Int32) &&& 0x3f).toInt64.toUInt64).toInt64).toInt32).toInt8.toInt32 &&& (127 : Int32))).toInt8.toInt32 <<< ((7 : Int32) &&& 31))))]) rfl k) ?_
      show Goes _ _ _ _ _ _ _ (T13.setTop (mkF m 358 #[.val (.int p0), .val (.long p1), .second, .val (.int (0 : Int32)), .val (.int (1 : Int32)), .val (.ref ar21), .val (.int (2 : Int32)), .val (.int (6 : Int32)), .val (.ref ob224), .val (.int (1 : Int32)), .val (.int ((((((((p1).toUInt64 >>> ((48 : Int32) &&& 0x3f).toInt64.toUInt64).toInt64).toInt32).toInt8.toInt32 ||| (128 : Int32))).toInt8.toInt32 &&& (127 : Int32)) ||| (((((((p1).toUInt64 >>> ((56 : Int32) &&& 0x3f).toInt64.toUInt64).toInt64).toInt32).toInt8.toInt32 &&& (127 : Int32))).toInt8.toInt32 <<< ((7 : Int32) &&& 31))))] []))
      refine Goes.go (fun _ k => XS.iload X13.here hx rfl (hb hby at_358) rfl k) ?_
      show Goes _ _ _ _ _ _ _ (T13.setTop (mkF m 360 _ [(.int (1 : Int32))]))
      refine Goes.go (fun _ k => XS.ifNo X13.here hx rfl (hb hby at_360) rfl (XT.i0_eq_f (by decide)) k) ?_
      show Goes _ _ _ _ _ _ _ (T13.setTop (mkF m 363 _ []))
      refine Goes.go (fun _ k => XS.aload X13.here hx rfl (hb hby at_363) rfl rfl k) ?_
      show Goes _ _ _ _ _ _ _ (T13.setTop (mkF m 365 _ [(.ref ob224)]))
      obtain ⟨cq14, kq14, qa14, qb14, qc14⟩ := isOf hZ rfl Eq13
      obtain ⟨_, _, ⟨T14, L14, k14, n14⟩, -, X14, ⟨Lc14, hQ14, l14, y14, z14⟩, st14⟩ := X13.virtualBack hx (y := (⟨"com/example/countermand/countermand/Packed$Reader", "count", "()I"⟩ : MethodName)) (z := (⟨"com/example/countermand/countermand/Packed$Reader", "count", "()I"⟩ : MethodName)) hown (mvT hZ (hw _ (List.mem_of_getElem? (i := 19) rfl))) (mvT hZ (hw _ (List.mem_of_getElem? (i := 20) rfl))) (notFace_of_selects (args := #[]) (mvT hZ (hw _ (List.mem_of_getElem? (i := 22) rfl)))) (mvT hZ (hw _ (List.mem_of_getElem? (i := 22) rfl))) (mvT hZ (hw _ (List.mem_of_getElem? (i := 21) rfl))) (by decide) (backOf (W := 0) (rm4 l Z a0 hw [] ob224 ar21 _ (6 : Int32) [((((((p1).toUInt64 >>> ((48 : Int32) &&& 0x3f).toInt64.toUInt64).toInt64).toInt32).toInt8.toInt32 ||| (128 : Int32))).toInt8.toInt32, ((((((p1).toUInt64 >>> ((56 : Int32) &&& 0x3f).toInt64.toUInt64).toInt64).toInt32).toInt8.toInt32 &&& (127 : Int32))).toInt8.toInt32] T13.heap n0 Z13 Eq13 Fq13_0 Fq13_1 ge_ob224 f_14 ⟨by decide, rfl, own_hi8 (((((p1).toUInt64 >>> ((48 : Int32) &&& 0x3f).toInt64.toUInt64).toInt64).toInt32).toInt8), by decide, rfl, own_lo8 (((((p1).toUInt64 >>> ((56 : Int32) &&& 0x3f).toInt64.toUInt64).toInt64).toInt32).toInt8)⟩ (fit_2 _ (((((p1).toUInt64 >>> ((56 : Int32) &&& 0x3f).toInt64.toUInt64).toInt64).toInt32).toInt8))) hZ (hw _ (List.mem_of_getElem? (i := 23) rfl)) (hw _ (List.mem_of_getElem? (i := 3) rfl)) (by decide) (by decide)) qa14 qc14 (g := (mkF m 365 #[.val (.int p0), .val (.long p1), .second, .val (.int (0 : Int32)), .val (.int (1 : Int32)), .val (.ref ar21), .val (.int (2 : Int32)), .val (.int (6 : Int32)), .val (.ref ob224), .val (.int (1 : Int32)), .val (.int ((((((((p1).toUInt64 >>> ((48 : Int32) &&& 0x3f).toInt64.toUInt64).toInt64).toInt32).toInt8.toInt32 ||| (128 : Int32))).toInt8.toInt32 &&& (127 : Int32)) ||| (((((((p1).toUInt64 >>> ((56 : Int32) &&& 0x3f).toInt64.toUInt64).toInt64).toInt32).toInt8.toInt32 &&& (127 : Int32))).toInt8.toInt32 <<< ((7 : Int32) &&& 31))))] [(.ref ob224)])) rfl (by rw [hml]; rfl) (Steps.refl _) (argsL := []) (rest := []) (lenOf pd2 rfl) rfl (by show 2 * 0 + _ ≤ _; exact Nat.le_of_eq rfl) (hb hby at_365) (fun _ _ => ⟨rfl, rfl, (by decide : 2 + 0 ≤ _), (by decide : 10 + 0 ≤ _)⟩)
      dsimp only [Pt.U, Pt.locs, Pt.cells, Pt.slots] at X14 l14 y14 z14 st14 hQ14
      subst l14 y14 z14
      obtain ⟨rfl, Nq14, Kq14, Eq14, Fq14_0, Fq14_1⟩ := hQ14
      have N14 := Fr.app N13 Nq14
      have Z14 : n0 ≤ T14.heap.size := Nat.le_trans Z13 Kq14.1
      have f_15 := Arl.keep f_14 Kq14 (ninS ne_ar21_ob224 nin0)
      refine Goes.go (fun _ k => st14.trans k) ?_
      show Goes _ _ _ _ _ _ _ (T14.setTop (mkF m 368 _ [(.int (svb [((((((p1).toUInt64 >>> ((48 : Int32) &&& 0x3f).toInt64.toUInt64).toInt64).toInt32).toInt8.toInt32 ||| (128 : Int32))).toInt8.toInt32, ((((((p1).toUInt64 >>> ((56 : Int32) &&& 0x3f).toInt64.toUInt64).toInt64).toInt32).toInt8.toInt32 &&& (127 : Int32))).toInt8.toInt32] 0 0).toInt32)]))
      refine Goes.go (fun _ k => XS.iload X14.here hx rfl (hb hby at_368) rfl k) ?_
      show Goes _ _ _ _ _ _ _ (T14.setTop (mkF m 370 _ [(.int ((((((((p1).toUInt64 >>> ((48 : Int32) &&& 0x3f).toInt64.toUInt64).toInt64).toInt32).toInt8.toInt32 ||| (128 : Int32))).toInt8.toInt32 &&& (127 : Int32)) ||| (((((((p1).toUInt64 >>> ((56 : Int32) &&& 0x3f).toInt64.toUInt64).toInt64).toInt32).toInt8.toInt32 &&& (127 : Int32))).toInt8.toInt32 <<< ((7 : Int32) &&& 31)))), (.int (svb [((((((p1).toUInt64 >>> ((48 : Int32) &&& 0x3f).toInt64.toUInt64).toInt64).toInt32).toInt8.toInt32 ||| (128 : Int32))).toInt8.toInt32, ((((((p1).toUInt64 >>> ((56 : Int32) &&& 0x3f).toInt64.toUInt64).toInt64).toInt32).toInt8.toInt32 &&& (127 : Int32))).toInt8.toInt32] 0 0).toInt32)]))
      refine Goes.go (fun _ k => XS.icmpNo X14.here hx rfl (hb hby at_370) rfl (XT.ii_ne_f (val_2 _ (((((p1).toUInt64 >>> ((56 : Int32) &&& 0x3f).toInt64.toUInt64).toInt64).toInt32).toInt8))) k) ?_
      show Goes _ _ _ _ _ _ _ (T14.setTop (mkF m 373 _ []))
      refine Goes.go (fun _ k => XS.iconst X14.here hx rfl (hb hby at_373) k) ?_
      show Goes _ _ _ _ _ _ _ (T14.setTop (mkF m 374 _ [(.int (1 : Int32))]))
      refine Goes.go (fun _ k => XS.goto X14.here hx rfl (pc0 := 374) (pc' := 378) rfl (hb hby at_374) (by decide) (by decide) k) ?_
      show Goes _ _ _ _ _ _ _ (T14.setTop (mkF m 378 _ [(.int (1 : Int32))]))
      refine Goes.go (fun _ k => XS.istore X14.here hx rfl (hb hby at_378) rfl (l' := #[.val (.int p0), .val (.long p1), .second, .val (.int (0 : Int32)), .val (.int (1 : Int32)), .val (.ref ar21), .val (.int (2 : Int32)), .val (.int (6 : Int32)), .val (.ref ob224), .val (.int (1 : Int32)), .val (.int ((((((((p1).toUInt64 >>> ((48 : Int32) &&& 0x3f).toInt64.toUInt64).toInt64).toInt32).toInt8.toInt32 ||| (128 : Int32))).toInt8.toInt32 &&& (127 : Int32)) ||| (((((((p1).toUInt64 >>> ((56 : Int32) &&& 0x3f).toInt64.toUInt64).toInt64).toInt32).toInt8.toInt32 &&& (127 : Int32))).toInt8.toInt32 <<< ((7 : Int32) &&& 31))))]) rfl k) ?_
      show Goes _ _ _ _ _ _ _ (T14.setTop (mkF m 380 _ []))
      refine Goes.go (fun _ k => XS.aload X14.here hx rfl (hb hby at_380) rfl rfl k) ?_
      show Goes _ _ _ _ _ _ _ (T14.setTop (mkF m 382 _ [(.ref ob224)]))
      obtain ⟨cq15, kq15, qa15, qb15, qc15⟩ := isOf hZ rfl Eq14
      obtain ⟨_, _, ⟨T15, L15, k15, n15⟩, -, X15, ⟨Lc15, hQ15, l15, y15, z15⟩, st15⟩ := X14.virtualBack hx (y := (⟨"com/example/countermand/countermand/Packed$Reader", "end", "()V"⟩ : MethodName)) (z := (⟨"com/example/countermand/countermand/Packed$Reader", "end", "()V"⟩ : MethodName)) hown (mvT hZ (hw _ (List.mem_of_getElem? (i := 14) rfl))) (mvT hZ (hw _ (List.mem_of_getElem? (i := 15) rfl))) (notFace_of_selects (args := #[]) (mvT hZ (hw _ (List.mem_of_getElem? (i := 17) rfl)))) (mvT hZ (hw _ (List.mem_of_getElem? (i := 17) rfl))) (mvT hZ (hw _ (List.mem_of_getElem? (i := 16) rfl))) (by decide) (backOf (W := 0) (rm3 l Z a0 hw [] ob224 ar21 _ (8 : Int32) T14.heap n0 Z14 Fq14_0 Fq14_1 f_15 rfl) hZ (hw _ (List.mem_of_getElem? (i := 18) rfl)) (hw _ (List.mem_of_getElem? (i := 3) rfl)) (by decide) (by decide)) qa15 qc15 (g := (mkF m 382 #[.val (.int p0), .val (.long p1), .second, .val (.int (0 : Int32)), .val (.int (1 : Int32)), .val (.ref ar21), .val (.int (2 : Int32)), .val (.int (6 : Int32)), .val (.ref ob224), .val (.int (1 : Int32)), .val (.int ((((((((p1).toUInt64 >>> ((48 : Int32) &&& 0x3f).toInt64.toUInt64).toInt64).toInt32).toInt8.toInt32 ||| (128 : Int32))).toInt8.toInt32 &&& (127 : Int32)) ||| (((((((p1).toUInt64 >>> ((56 : Int32) &&& 0x3f).toInt64.toUInt64).toInt64).toInt32).toInt8.toInt32 &&& (127 : Int32))).toInt8.toInt32 <<< ((7 : Int32) &&& 31))))] [(.ref ob224)])) rfl (by rw [hml]; rfl) (Steps.refl _) (argsL := []) (rest := []) (lenOf pd1 rfl) rfl (by show 2 * 0 + _ ≤ _; exact Nat.le_of_eq rfl) (hb hby at_382) (fun _ _ => ⟨rfl, rfl, (by decide : 2 + 0 ≤ _), (by decide : 10 + 0 ≤ _)⟩)
      dsimp only [Pt.U, Pt.locs, Pt.cells, Pt.slots] at X15 l15 y15 z15 st15 hQ15
      subst l15 y15 z15
      obtain ⟨rfl, Nq15, hh15⟩ := hQ15
      have N15 := Fr.app N14 Nq15
      refine Goes.go (fun _ k => st15.trans k) ?_
      show Goes _ _ _ _ _ _ _ (T15.setTop (mkF m 385 _ []))
      refine Goes.go (fun _ k => XS.iload X15.here hx rfl (hb hby at_385) rfl k) ?_
      show Goes _ _ _ _ _ _ _ (T15.setTop (mkF m 387 _ [(.int (1 : Int32))]))
      exact Goes.outZ X15 hx hlk hret rfl (hb hby at_387) hh15 ⟨rfl, N15⟩ (by decide) (by decide)
  · skip
    show Goes _ _ _ _ _ _ _ (s₁.setTop (mkF m 4 #[.val (.int p0), .val (.long p1), .second, .val (.int (1 : Int32)), .unset, .unset, .unset, .unset, .unset, .unset, .unset] []))
    refine Goes.go (fun _ k => XS.iloadN X0.here hx rfl (hb hby at_4) rfl k) ?_
    show Goes _ _ _ _ _ _ _ (s₁.setTop (mkF m 5 _ [(.int p0)]))
    refine Goes.go (fun _ k => XS.iconst X0.here hx rfl (hb hby at_5) k) ?_
    show Goes _ _ _ _ _ _ _ (s₁.setTop (mkF m 6 _ [(.int (2 : Int32)), (.int p0)]))
    refine Goes.go (fun _ k => XS.iushr X0.here hx rfl (hb hby at_6) rfl k) ?_
    show Goes _ _ _ _ _ _ _ (s₁.setTop (mkF m 7 _ [(.int ((p0).toUInt32 >>> ((2 : Int32) &&& 31).toUInt32).toInt32)]))
    refine Goes.go (fun _ k => XS.iconst X0.here hx rfl (hb hby at_7) k) ?_
    show Goes _ _ _ _ _ _ _ (s₁.setTop (mkF m 8 _ [(.int (1 : Int32)), (.int ((p0).toUInt32 >>> ((2 : Int32) &&& 31).toUInt32).toInt32)]))
    refine Goes.go (fun _ k => XS.iand X0.here hx rfl (hb hby at_8) rfl k) ?_
    show Goes _ _ _ _ _ _ _ (s₁.setTop (mkF m 9 _ [(.int (((p0).toUInt32 >>> ((2 : Int32) &&& 31).toUInt32).toInt32 &&& (1 : Int32)))]))
    by_cases c9 : (((p0).toUInt32 >>> ((2 : Int32) &&& 31).toUInt32).toInt32 &&& (1 : Int32)) = 0
    · skip
      refine Goes.go (fun _ k => XS.ifYes X0.here hx rfl (pc0 := 9) (pc' := 16) rfl (hb hby at_9) rfl (XT.i0_eq_t c9) (by decide) (by decide) k) ?_
      show Goes _ _ _ _ _ _ _ (s₁.setTop (mkF m 16 _ []))
      refine Goes.go (fun _ k => XS.iconst X0.here hx rfl (hb hby at_16) k) ?_
      show Goes _ _ _ _ _ _ _ (s₁.setTop (mkF m 17 _ [(.int (0 : Int32))]))
      refine Goes.go (fun _ k => XS.istore X0.here hx rfl (hb hby at_17) rfl (l' := #[.val (.int p0), .val (.long p1), .second, .val (.int (1 : Int32)), .val (.int (0 : Int32)), .unset, .unset, .unset, .unset, .unset, .unset]) rfl k) ?_
      show Goes _ _ _ _ _ _ _ (s₁.setTop (mkF m 19 #[.val (.int p0), .val (.long p1), .second, .val (.int (1 : Int32)), .val (.int (0 : Int32)), .unset, .unset, .unset, .unset, .unset, .unset] []))
      refine Goes.go (fun _ k => XS.bipush X0.here hx rfl (hb hby at_19) k) ?_
      show Goes _ _ _ _ _ _ _ (s₁.setTop (mkF m 21 _ [(.int (8 : Int32))]))
      obtain ⟨T1, h1, X1, e1, E1, A1, st1⟩ := own_newP X0 hx hZ (aty := .byte) (hw _ (List.mem_of_getElem? (i := 0) rfl)) e0 (g := (mkF m 21 #[.val (.int p0), .val (.long p1), .second, .val (.int (1 : Int32)), .val (.int (0 : Int32)), .unset, .unset, .unset, .unset, .unset, .unset] [(.int (8 : Int32))])) rfl (hb hby at_21) rfl (n := (8 : Int32)) (by decide) (cap := 8) (by decide) (by decide) (by decide) (by decide)
      obtain ⟨ar21, gar21⟩ : ∃ z, z = h0.size := ⟨_, rfl⟩
      rw [← gar21] at A1 st1
      have Z1 : n0 ≤ h1.size := Nat.le_trans Z0 E1.1
      have ge_ar21 : n0 ≤ ar21 := Nat.le_trans Z0 (Nat.le_of_eq gar21.symm)
      have f : Arl Z h1 ar21 .byte [(.int (0 : Int32)), (.int (0 : Int32)), (.int (0 : Int32)), (.int (0 : Int32)), (.int (0 : Int32)), (.int (0 : Int32)), (.int (0 : Int32)), (.int (0 : Int32))] := A1
      refine Goes.go (st1) ?_
      show Goes _ _ _ _ _ _ _ (T1.setTop (mkF m 23 _ [(.ref ar21)]))
      refine Goes.go (fun _ k => XS.astore X1.here hx rfl (hb hby at_23) rfl rfl (l' := #[.val (.int p0), .val (.long p1), .second, .val (.int (1 : Int32)), .val (.int (0 : Int32)), .val (.ref ar21), .unset, .unset, .unset, .unset, .unset]) rfl k) ?_
      show Goes _ _ _ _ _ _ _ (T1.setTop (mkF m 25 #[.val (.int p0), .val (.long p1), .second, .val (.int (1 : Int32)), .val (.int (0 : Int32)), .val (.ref ar21), .unset, .unset, .unset, .unset, .unset] []))
      refine Goes.go (fun _ k => XS.aload X1.here hx rfl (hb hby at_25) rfl rfl k) ?_
      show Goes _ _ _ _ _ _ _ (T1.setTop (mkF m 27 _ [(.ref ar21)]))
      refine Goes.go (fun _ k => XS.iconst X1.here hx rfl (hb hby at_27) k) ?_
      show Goes _ _ _ _ _ _ _ (T1.setTop (mkF m 28 _ [(.int (0 : Int32)), (.ref ar21)]))
      refine Goes.go (fun _ k => XS.lloadN X1.here hx rfl (hb hby at_28) rfl k) ?_
      show Goes _ _ _ _ _ _ _ (T1.setTop (mkF m 29 _ [(.long p1), (.int (0 : Int32)), (.ref ar21)]))
      refine Goes.go (fun _ k => XS.l2i X1.here hx rfl (hb hby at_29) rfl k) ?_
      show Goes _ _ _ _ _ _ _ (T1.setTop (mkF m 30 _ [(.int (p1).toInt32), (.int (0 : Int32)), (.ref ar21)]))
      refine Goes.go (fun _ k => XS.i2b X1.here hx rfl (hb hby at_30) rfl k) ?_
      show Goes _ _ _ _ _ _ _ (T1.setTop (mkF m 31 _ [(.int ((p1).toInt32).toInt8.toInt32), (.int (0 : Int32)), (.ref ar21)]))
      obtain ⟨T2, h2, X2, e2, W2, A2, st2⟩ := own_stB X1 hx hZ e1 f (j := (0 : Int32)) (x := ((p1).toInt32).toInt8.toInt32) (by decide) (show (0 : Nat) < 8 by decide) (g := (mkF m 31 #[.val (.int p0), .val (.long p1), .second, .val (.int (1 : Int32)), .val (.int (0 : Int32)), .val (.ref ar21), .unset, .unset, .unset, .unset, .unset] [(.int ((p1).toInt32).toInt8.toInt32), (.int (0 : Int32)), (.ref ar21)])) rfl rfl (hb hby at_31)
      rw [own_nar8] at A2
      have N2 := Fr.snoc X2 N0 ge_ar21
      have Z2 : n0 ≤ h2.size := by rw [W2.size]; exact Z1
      have f_1 : Arl Z h2 ar21 .byte [(.int ((p1).toInt32).toInt8.toInt32), (.int (0 : Int32)), (.int (0 : Int32)), (.int (0 : Int32)), (.int (0 : Int32)), (.int (0 : Int32)), (.int (0 : Int32)), (.int (0 : Int32))] := A2
      refine Goes.go (st2) ?_
      show Goes _ _ _ _ _ _ _ (T2.setTop (mkF m 32 _ []))
      refine Goes.go (fun _ k => XS.aload X2.here hx rfl (hb hby at_32) rfl rfl k) ?_
      show Goes _ _ _ _ _ _ _ (T2.setTop (mkF m 34 _ [(.ref ar21)]))
      refine Goes.go (fun _ k => XS.iconst X2.here hx rfl (hb hby at_34) k) ?_
      show Goes _ _ _ _ _ _ _ (T2.setTop (mkF m 35 _ [(.int (1 : Int32)), (.ref ar21)]))
      refine Goes.go (fun _ k => XS.lloadN X2.here hx rfl (hb hby at_35) rfl k) ?_
      show Goes _ _ _ _ _ _ _ (T2.setTop (mkF m 36 _ [(.long p1), (.int (1 : Int32)), (.ref ar21)]))
      refine Goes.go (fun _ k => XS.bipush X2.here hx rfl (hb hby at_36) k) ?_
      show Goes _ _ _ _ _ _ _ (T2.setTop (mkF m 38 _ [(.int (8 : Int32)), (.long p1), (.int (1 : Int32)), (.ref ar21)]))
      refine Goes.go (fun _ k => XS.lushr X2.here hx rfl (hb hby at_38) rfl k) ?_
      show Goes _ _ _ _ _ _ _ (T2.setTop (mkF m 39 _ [(.long ((p1).toUInt64 >>> ((8 : Int32) &&& 0x3f).toInt64.toUInt64).toInt64), (.int (1 : Int32)), (.ref ar21)]))
      refine Goes.go (fun _ k => XS.l2i X2.here hx rfl (hb hby at_39) rfl k) ?_
      show Goes _ _ _ _ _ _ _ (T2.setTop (mkF m 40 _ [(.int (((p1).toUInt64 >>> ((8 : Int32) &&& 0x3f).toInt64.toUInt64).toInt64).toInt32), (.int (1 : Int32)), (.ref ar21)]))
      refine Goes.go (fun _ k => XS.i2b X2.here hx rfl (hb hby at_40) rfl k) ?_
      show Goes _ _ _ _ _ _ _ (T2.setTop (mkF m 41 _ [(.int ((((p1).toUInt64 >>> ((8 : Int32) &&& 0x3f).toInt64.toUInt64).toInt64).toInt32).toInt8.toInt32), (.int (1 : Int32)), (.ref ar21)]))
      obtain ⟨T3, h3, X3, e3, W3, A3, st3⟩ := own_stB X2 hx hZ e2 f_1 (j := (1 : Int32)) (x := ((((p1).toUInt64 >>> ((8 : Int32) &&& 0x3f).toInt64.toUInt64).toInt64).toInt32).toInt8.toInt32) (by decide) (show (1 : Nat) < 8 by decide) (g := (mkF m 41 #[.val (.int p0), .val (.long p1), .second, .val (.int (1 : Int32)), .val (.int (0 : Int32)), .val (.ref ar21), .unset, .unset, .unset, .unset, .unset] [(.int ((((p1).toUInt64 >>> ((8 : Int32) &&& 0x3f).toInt64.toUInt64).toInt64).toInt32).toInt8.toInt32), (.int (1 : Int32)), (.ref ar21)])) rfl rfl (hb hby at_41)
      rw [own_nar8] at A3
      have N3 := Fr.snoc X3 N2 ge_ar21
      have Z3 : n0 ≤ h3.size := by rw [W3.size]; exact Z2
      have f_2 : Arl Z h3 ar21 .byte [(.int ((p1).toInt32).toInt8.toInt32), (.int ((((p1).toUInt64 >>> ((8 : Int32) &&& 0x3f).toInt64.toUInt64).toInt64).toInt32).toInt8.toInt32), (.int (0 : Int32)), (.int (0 : Int32)), (.int (0 : Int32)), (.int (0 : Int32)), (.int (0 : Int32)), (.int (0 : Int32))] := A3
      refine Goes.go (st3) ?_
      show Goes _ _ _ _ _ _ _ (T3.setTop (mkF m 42 _ []))
      refine Goes.go (fun _ k => XS.aload X3.here hx rfl (hb hby at_42) rfl rfl k) ?_
      show Goes _ _ _ _ _ _ _ (T3.setTop (mkF m 44 _ [(.ref ar21)]))
      refine Goes.go (fun _ k => XS.iconst X3.here hx rfl (hb hby at_44) k) ?_
      show Goes _ _ _ _ _ _ _ (T3.setTop (mkF m 45 _ [(.int (2 : Int32)), (.ref ar21)]))
      refine Goes.go (fun _ k => XS.lloadN X3.here hx rfl (hb hby at_45) rfl k) ?_
      show Goes _ _ _ _ _ _ _ (T3.setTop (mkF m 46 _ [(.long p1), (.int (2 : Int32)), (.ref ar21)]))
      refine Goes.go (fun _ k => XS.bipush X3.here hx rfl (hb hby at_46) k) ?_
      show Goes _ _ _ _ _ _ _ (T3.setTop (mkF m 48 _ [(.int (16 : Int32)), (.long p1), (.int (2 : Int32)), (.ref ar21)]))
      refine Goes.go (fun _ k => XS.lushr X3.here hx rfl (hb hby at_48) rfl k) ?_
      show Goes _ _ _ _ _ _ _ (T3.setTop (mkF m 49 _ [(.long ((p1).toUInt64 >>> ((16 : Int32) &&& 0x3f).toInt64.toUInt64).toInt64), (.int (2 : Int32)), (.ref ar21)]))
      refine Goes.go (fun _ k => XS.l2i X3.here hx rfl (hb hby at_49) rfl k) ?_
      show Goes _ _ _ _ _ _ _ (T3.setTop (mkF m 50 _ [(.int (((p1).toUInt64 >>> ((16 : Int32) &&& 0x3f).toInt64.toUInt64).toInt64).toInt32), (.int (2 : Int32)), (.ref ar21)]))
      refine Goes.go (fun _ k => XS.i2b X3.here hx rfl (hb hby at_50) rfl k) ?_
      show Goes _ _ _ _ _ _ _ (T3.setTop (mkF m 51 _ [(.int ((((p1).toUInt64 >>> ((16 : Int32) &&& 0x3f).toInt64.toUInt64).toInt64).toInt32).toInt8.toInt32), (.int (2 : Int32)), (.ref ar21)]))
      obtain ⟨T4, h4, X4, e4, W4, A4, st4⟩ := own_stB X3 hx hZ e3 f_2 (j := (2 : Int32)) (x := ((((p1).toUInt64 >>> ((16 : Int32) &&& 0x3f).toInt64.toUInt64).toInt64).toInt32).toInt8.toInt32) (by decide) (show (2 : Nat) < 8 by decide) (g := (mkF m 51 #[.val (.int p0), .val (.long p1), .second, .val (.int (1 : Int32)), .val (.int (0 : Int32)), .val (.ref ar21), .unset, .unset, .unset, .unset, .unset] [(.int ((((p1).toUInt64 >>> ((16 : Int32) &&& 0x3f).toInt64.toUInt64).toInt64).toInt32).toInt8.toInt32), (.int (2 : Int32)), (.ref ar21)])) rfl rfl (hb hby at_51)
      rw [own_nar8] at A4
      have N4 := Fr.snoc X4 N3 ge_ar21
      have Z4 : n0 ≤ h4.size := by rw [W4.size]; exact Z3
      have f_3 : Arl Z h4 ar21 .byte [(.int ((p1).toInt32).toInt8.toInt32), (.int ((((p1).toUInt64 >>> ((8 : Int32) &&& 0x3f).toInt64.toUInt64).toInt64).toInt32).toInt8.toInt32), (.int ((((p1).toUInt64 >>> ((16 : Int32) &&& 0x3f).toInt64.toUInt64).toInt64).toInt32).toInt8.toInt32), (.int (0 : Int32)), (.int (0 : Int32)), (.int (0 : Int32)), (.int (0 : Int32)), (.int (0 : Int32))] := A4
      refine Goes.go (st4) ?_
      show Goes _ _ _ _ _ _ _ (T4.setTop (mkF m 52 _ []))
      refine Goes.go (fun _ k => XS.aload X4.here hx rfl (hb hby at_52) rfl rfl k) ?_
      show Goes _ _ _ _ _ _ _ (T4.setTop (mkF m 54 _ [(.ref ar21)]))
      refine Goes.go (fun _ k => XS.iconst X4.here hx rfl (hb hby at_54) k) ?_
      show Goes _ _ _ _ _ _ _ (T4.setTop (mkF m 55 _ [(.int (3 : Int32)), (.ref ar21)]))
      refine Goes.go (fun _ k => XS.lloadN X4.here hx rfl (hb hby at_55) rfl k) ?_
      show Goes _ _ _ _ _ _ _ (T4.setTop (mkF m 56 _ [(.long p1), (.int (3 : Int32)), (.ref ar21)]))
      refine Goes.go (fun _ k => XS.bipush X4.here hx rfl (hb hby at_56) k) ?_
      show Goes _ _ _ _ _ _ _ (T4.setTop (mkF m 58 _ [(.int (24 : Int32)), (.long p1), (.int (3 : Int32)), (.ref ar21)]))
      refine Goes.go (fun _ k => XS.lushr X4.here hx rfl (hb hby at_58) rfl k) ?_
      show Goes _ _ _ _ _ _ _ (T4.setTop (mkF m 59 _ [(.long ((p1).toUInt64 >>> ((24 : Int32) &&& 0x3f).toInt64.toUInt64).toInt64), (.int (3 : Int32)), (.ref ar21)]))
      refine Goes.go (fun _ k => XS.l2i X4.here hx rfl (hb hby at_59) rfl k) ?_
      show Goes _ _ _ _ _ _ _ (T4.setTop (mkF m 60 _ [(.int (((p1).toUInt64 >>> ((24 : Int32) &&& 0x3f).toInt64.toUInt64).toInt64).toInt32), (.int (3 : Int32)), (.ref ar21)]))
      refine Goes.go (fun _ k => XS.i2b X4.here hx rfl (hb hby at_60) rfl k) ?_
      show Goes _ _ _ _ _ _ _ (T4.setTop (mkF m 61 _ [(.int ((((p1).toUInt64 >>> ((24 : Int32) &&& 0x3f).toInt64.toUInt64).toInt64).toInt32).toInt8.toInt32), (.int (3 : Int32)), (.ref ar21)]))
      obtain ⟨T5, h5, X5, e5, W5, A5, st5⟩ := own_stB X4 hx hZ e4 f_3 (j := (3 : Int32)) (x := ((((p1).toUInt64 >>> ((24 : Int32) &&& 0x3f).toInt64.toUInt64).toInt64).toInt32).toInt8.toInt32) (by decide) (show (3 : Nat) < 8 by decide) (g := (mkF m 61 #[.val (.int p0), .val (.long p1), .second, .val (.int (1 : Int32)), .val (.int (0 : Int32)), .val (.ref ar21), .unset, .unset, .unset, .unset, .unset] [(.int ((((p1).toUInt64 >>> ((24 : Int32) &&& 0x3f).toInt64.toUInt64).toInt64).toInt32).toInt8.toInt32), (.int (3 : Int32)), (.ref ar21)])) rfl rfl (hb hby at_61)
      rw [own_nar8] at A5
      have N5 := Fr.snoc X5 N4 ge_ar21
      have Z5 : n0 ≤ h5.size := by rw [W5.size]; exact Z4
      have f_4 : Arl Z h5 ar21 .byte [(.int ((p1).toInt32).toInt8.toInt32), (.int ((((p1).toUInt64 >>> ((8 : Int32) &&& 0x3f).toInt64.toUInt64).toInt64).toInt32).toInt8.toInt32), (.int ((((p1).toUInt64 >>> ((16 : Int32) &&& 0x3f).toInt64.toUInt64).toInt64).toInt32).toInt8.toInt32), (.int ((((p1).toUInt64 >>> ((24 : Int32) &&& 0x3f).toInt64.toUInt64).toInt64).toInt32).toInt8.toInt32), (.int (0 : Int32)), (.int (0 : Int32)), (.int (0 : Int32)), (.int (0 : Int32))] := A5
      refine Goes.go (st5) ?_
      show Goes _ _ _ _ _ _ _ (T5.setTop (mkF m 62 _ []))
      refine Goes.go (fun _ k => XS.aload X5.here hx rfl (hb hby at_62) rfl rfl k) ?_
      show Goes _ _ _ _ _ _ _ (T5.setTop (mkF m 64 _ [(.ref ar21)]))
      refine Goes.go (fun _ k => XS.iconst X5.here hx rfl (hb hby at_64) k) ?_
      show Goes _ _ _ _ _ _ _ (T5.setTop (mkF m 65 _ [(.int (4 : Int32)), (.ref ar21)]))
      refine Goes.go (fun _ k => XS.lloadN X5.here hx rfl (hb hby at_65) rfl k) ?_
      show Goes _ _ _ _ _ _ _ (T5.setTop (mkF m 66 _ [(.long p1), (.int (4 : Int32)), (.ref ar21)]))
      refine Goes.go (fun _ k => XS.bipush X5.here hx rfl (hb hby at_66) k) ?_
      show Goes _ _ _ _ _ _ _ (T5.setTop (mkF m 68 _ [(.int (32 : Int32)), (.long p1), (.int (4 : Int32)), (.ref ar21)]))
      refine Goes.go (fun _ k => XS.lushr X5.here hx rfl (hb hby at_68) rfl k) ?_
      show Goes _ _ _ _ _ _ _ (T5.setTop (mkF m 69 _ [(.long ((p1).toUInt64 >>> ((32 : Int32) &&& 0x3f).toInt64.toUInt64).toInt64), (.int (4 : Int32)), (.ref ar21)]))
      refine Goes.go (fun _ k => XS.l2i X5.here hx rfl (hb hby at_69) rfl k) ?_
      show Goes _ _ _ _ _ _ _ (T5.setTop (mkF m 70 _ [(.int (((p1).toUInt64 >>> ((32 : Int32) &&& 0x3f).toInt64.toUInt64).toInt64).toInt32), (.int (4 : Int32)), (.ref ar21)]))
      refine Goes.go (fun _ k => XS.i2b X5.here hx rfl (hb hby at_70) rfl k) ?_
      show Goes _ _ _ _ _ _ _ (T5.setTop (mkF m 71 _ [(.int ((((p1).toUInt64 >>> ((32 : Int32) &&& 0x3f).toInt64.toUInt64).toInt64).toInt32).toInt8.toInt32), (.int (4 : Int32)), (.ref ar21)]))
      obtain ⟨T6, h6, X6, e6, W6, A6, st6⟩ := own_stB X5 hx hZ e5 f_4 (j := (4 : Int32)) (x := ((((p1).toUInt64 >>> ((32 : Int32) &&& 0x3f).toInt64.toUInt64).toInt64).toInt32).toInt8.toInt32) (by decide) (show (4 : Nat) < 8 by decide) (g := (mkF m 71 #[.val (.int p0), .val (.long p1), .second, .val (.int (1 : Int32)), .val (.int (0 : Int32)), .val (.ref ar21), .unset, .unset, .unset, .unset, .unset] [(.int ((((p1).toUInt64 >>> ((32 : Int32) &&& 0x3f).toInt64.toUInt64).toInt64).toInt32).toInt8.toInt32), (.int (4 : Int32)), (.ref ar21)])) rfl rfl (hb hby at_71)
      rw [own_nar8] at A6
      have N6 := Fr.snoc X6 N5 ge_ar21
      have Z6 : n0 ≤ h6.size := by rw [W6.size]; exact Z5
      have f_5 : Arl Z h6 ar21 .byte [(.int ((p1).toInt32).toInt8.toInt32), (.int ((((p1).toUInt64 >>> ((8 : Int32) &&& 0x3f).toInt64.toUInt64).toInt64).toInt32).toInt8.toInt32), (.int ((((p1).toUInt64 >>> ((16 : Int32) &&& 0x3f).toInt64.toUInt64).toInt64).toInt32).toInt8.toInt32), (.int ((((p1).toUInt64 >>> ((24 : Int32) &&& 0x3f).toInt64.toUInt64).toInt64).toInt32).toInt8.toInt32), (.int ((((p1).toUInt64 >>> ((32 : Int32) &&& 0x3f).toInt64.toUInt64).toInt64).toInt32).toInt8.toInt32), (.int (0 : Int32)), (.int (0 : Int32)), (.int (0 : Int32))] := A6
      refine Goes.go (st6) ?_
      show Goes _ _ _ _ _ _ _ (T6.setTop (mkF m 72 _ []))
      refine Goes.go (fun _ k => XS.aload X6.here hx rfl (hb hby at_72) rfl rfl k) ?_
      show Goes _ _ _ _ _ _ _ (T6.setTop (mkF m 74 _ [(.ref ar21)]))
      refine Goes.go (fun _ k => XS.iconst X6.here hx rfl (hb hby at_74) k) ?_
      show Goes _ _ _ _ _ _ _ (T6.setTop (mkF m 75 _ [(.int (5 : Int32)), (.ref ar21)]))
      refine Goes.go (fun _ k => XS.lloadN X6.here hx rfl (hb hby at_75) rfl k) ?_
      show Goes _ _ _ _ _ _ _ (T6.setTop (mkF m 76 _ [(.long p1), (.int (5 : Int32)), (.ref ar21)]))
      refine Goes.go (fun _ k => XS.bipush X6.here hx rfl (hb hby at_76) k) ?_
      show Goes _ _ _ _ _ _ _ (T6.setTop (mkF m 78 _ [(.int (40 : Int32)), (.long p1), (.int (5 : Int32)), (.ref ar21)]))
      refine Goes.go (fun _ k => XS.lushr X6.here hx rfl (hb hby at_78) rfl k) ?_
      show Goes _ _ _ _ _ _ _ (T6.setTop (mkF m 79 _ [(.long ((p1).toUInt64 >>> ((40 : Int32) &&& 0x3f).toInt64.toUInt64).toInt64), (.int (5 : Int32)), (.ref ar21)]))
      refine Goes.go (fun _ k => XS.l2i X6.here hx rfl (hb hby at_79) rfl k) ?_
      show Goes _ _ _ _ _ _ _ (T6.setTop (mkF m 80 _ [(.int (((p1).toUInt64 >>> ((40 : Int32) &&& 0x3f).toInt64.toUInt64).toInt64).toInt32), (.int (5 : Int32)), (.ref ar21)]))
      refine Goes.go (fun _ k => XS.i2b X6.here hx rfl (hb hby at_80) rfl k) ?_
      show Goes _ _ _ _ _ _ _ (T6.setTop (mkF m 81 _ [(.int ((((p1).toUInt64 >>> ((40 : Int32) &&& 0x3f).toInt64.toUInt64).toInt64).toInt32).toInt8.toInt32), (.int (5 : Int32)), (.ref ar21)]))
      obtain ⟨T7, h7, X7, e7, W7, A7, st7⟩ := own_stB X6 hx hZ e6 f_5 (j := (5 : Int32)) (x := ((((p1).toUInt64 >>> ((40 : Int32) &&& 0x3f).toInt64.toUInt64).toInt64).toInt32).toInt8.toInt32) (by decide) (show (5 : Nat) < 8 by decide) (g := (mkF m 81 #[.val (.int p0), .val (.long p1), .second, .val (.int (1 : Int32)), .val (.int (0 : Int32)), .val (.ref ar21), .unset, .unset, .unset, .unset, .unset] [(.int ((((p1).toUInt64 >>> ((40 : Int32) &&& 0x3f).toInt64.toUInt64).toInt64).toInt32).toInt8.toInt32), (.int (5 : Int32)), (.ref ar21)])) rfl rfl (hb hby at_81)
      rw [own_nar8] at A7
      have N7 := Fr.snoc X7 N6 ge_ar21
      have Z7 : n0 ≤ h7.size := by rw [W7.size]; exact Z6
      have f_6 : Arl Z h7 ar21 .byte [(.int ((p1).toInt32).toInt8.toInt32), (.int ((((p1).toUInt64 >>> ((8 : Int32) &&& 0x3f).toInt64.toUInt64).toInt64).toInt32).toInt8.toInt32), (.int ((((p1).toUInt64 >>> ((16 : Int32) &&& 0x3f).toInt64.toUInt64).toInt64).toInt32).toInt8.toInt32), (.int ((((p1).toUInt64 >>> ((24 : Int32) &&& 0x3f).toInt64.toUInt64).toInt64).toInt32).toInt8.toInt32), (.int ((((p1).toUInt64 >>> ((32 : Int32) &&& 0x3f).toInt64.toUInt64).toInt64).toInt32).toInt8.toInt32), (.int ((((p1).toUInt64 >>> ((40 : Int32) &&& 0x3f).toInt64.toUInt64).toInt64).toInt32).toInt8.toInt32), (.int (0 : Int32)), (.int (0 : Int32))] := A7
      refine Goes.go (st7) ?_
      show Goes _ _ _ _ _ _ _ (T7.setTop (mkF m 82 _ []))
      refine Goes.go (fun _ k => XS.aload X7.here hx rfl (hb hby at_82) rfl rfl k) ?_
      show Goes _ _ _ _ _ _ _ (T7.setTop (mkF m 84 _ [(.ref ar21)]))
      refine Goes.go (fun _ k => XS.bipush X7.here hx rfl (hb hby at_84) k) ?_
      show Goes _ _ _ _ _ _ _ (T7.setTop (mkF m 86 _ [(.int (6 : Int32)), (.ref ar21)]))
      refine Goes.go (fun _ k => XS.lloadN X7.here hx rfl (hb hby at_86) rfl k) ?_
      show Goes _ _ _ _ _ _ _ (T7.setTop (mkF m 87 _ [(.long p1), (.int (6 : Int32)), (.ref ar21)]))
      refine Goes.go (fun _ k => XS.bipush X7.here hx rfl (hb hby at_87) k) ?_
      show Goes _ _ _ _ _ _ _ (T7.setTop (mkF m 89 _ [(.int (48 : Int32)), (.long p1), (.int (6 : Int32)), (.ref ar21)]))
      refine Goes.go (fun _ k => XS.lushr X7.here hx rfl (hb hby at_89) rfl k) ?_
      show Goes _ _ _ _ _ _ _ (T7.setTop (mkF m 90 _ [(.long ((p1).toUInt64 >>> ((48 : Int32) &&& 0x3f).toInt64.toUInt64).toInt64), (.int (6 : Int32)), (.ref ar21)]))
      refine Goes.go (fun _ k => XS.l2i X7.here hx rfl (hb hby at_90) rfl k) ?_
      show Goes _ _ _ _ _ _ _ (T7.setTop (mkF m 91 _ [(.int (((p1).toUInt64 >>> ((48 : Int32) &&& 0x3f).toInt64.toUInt64).toInt64).toInt32), (.int (6 : Int32)), (.ref ar21)]))
      refine Goes.go (fun _ k => XS.i2b X7.here hx rfl (hb hby at_91) rfl k) ?_
      show Goes _ _ _ _ _ _ _ (T7.setTop (mkF m 92 _ [(.int ((((p1).toUInt64 >>> ((48 : Int32) &&& 0x3f).toInt64.toUInt64).toInt64).toInt32).toInt8.toInt32), (.int (6 : Int32)), (.ref ar21)]))
      obtain ⟨T8, h8, X8, e8, W8, A8, st8⟩ := own_stB X7 hx hZ e7 f_6 (j := (6 : Int32)) (x := ((((p1).toUInt64 >>> ((48 : Int32) &&& 0x3f).toInt64.toUInt64).toInt64).toInt32).toInt8.toInt32) (by decide) (show (6 : Nat) < 8 by decide) (g := (mkF m 92 #[.val (.int p0), .val (.long p1), .second, .val (.int (1 : Int32)), .val (.int (0 : Int32)), .val (.ref ar21), .unset, .unset, .unset, .unset, .unset] [(.int ((((p1).toUInt64 >>> ((48 : Int32) &&& 0x3f).toInt64.toUInt64).toInt64).toInt32).toInt8.toInt32), (.int (6 : Int32)), (.ref ar21)])) rfl rfl (hb hby at_92)
      rw [own_nar8] at A8
      have N8 := Fr.snoc X8 N7 ge_ar21
      have Z8 : n0 ≤ h8.size := by rw [W8.size]; exact Z7
      have f_7 : Arl Z h8 ar21 .byte [(.int ((p1).toInt32).toInt8.toInt32), (.int ((((p1).toUInt64 >>> ((8 : Int32) &&& 0x3f).toInt64.toUInt64).toInt64).toInt32).toInt8.toInt32), (.int ((((p1).toUInt64 >>> ((16 : Int32) &&& 0x3f).toInt64.toUInt64).toInt64).toInt32).toInt8.toInt32), (.int ((((p1).toUInt64 >>> ((24 : Int32) &&& 0x3f).toInt64.toUInt64).toInt64).toInt32).toInt8.toInt32), (.int ((((p1).toUInt64 >>> ((32 : Int32) &&& 0x3f).toInt64.toUInt64).toInt64).toInt32).toInt8.toInt32), (.int ((((p1).toUInt64 >>> ((40 : Int32) &&& 0x3f).toInt64.toUInt64).toInt64).toInt32).toInt8.toInt32), (.int ((((p1).toUInt64 >>> ((48 : Int32) &&& 0x3f).toInt64.toUInt64).toInt64).toInt32).toInt8.toInt32), (.int (0 : Int32))] := A8
      refine Goes.go (st8) ?_
      show Goes _ _ _ _ _ _ _ (T8.setTop (mkF m 93 _ []))
      refine Goes.go (fun _ k => XS.aload X8.here hx rfl (hb hby at_93) rfl rfl k) ?_
      show Goes _ _ _ _ _ _ _ (T8.setTop (mkF m 95 _ [(.ref ar21)]))
      refine Goes.go (fun _ k => XS.bipush X8.here hx rfl (hb hby at_95) k) ?_
      show Goes _ _ _ _ _ _ _ (T8.setTop (mkF m 97 _ [(.int (7 : Int32)), (.ref ar21)]))
      refine Goes.go (fun _ k => XS.lloadN X8.here hx rfl (hb hby at_97) rfl k) ?_
      show Goes _ _ _ _ _ _ _ (T8.setTop (mkF m 98 _ [(.long p1), (.int (7 : Int32)), (.ref ar21)]))
      refine Goes.go (fun _ k => XS.bipush X8.here hx rfl (hb hby at_98) k) ?_
      show Goes _ _ _ _ _ _ _ (T8.setTop (mkF m 100 _ [(.int (56 : Int32)), (.long p1), (.int (7 : Int32)), (.ref ar21)]))
      refine Goes.go (fun _ k => XS.lushr X8.here hx rfl (hb hby at_100) rfl k) ?_
      show Goes _ _ _ _ _ _ _ (T8.setTop (mkF m 101 _ [(.long ((p1).toUInt64 >>> ((56 : Int32) &&& 0x3f).toInt64.toUInt64).toInt64), (.int (7 : Int32)), (.ref ar21)]))
      refine Goes.go (fun _ k => XS.l2i X8.here hx rfl (hb hby at_101) rfl k) ?_
      show Goes _ _ _ _ _ _ _ (T8.setTop (mkF m 102 _ [(.int (((p1).toUInt64 >>> ((56 : Int32) &&& 0x3f).toInt64.toUInt64).toInt64).toInt32), (.int (7 : Int32)), (.ref ar21)]))
      refine Goes.go (fun _ k => XS.i2b X8.here hx rfl (hb hby at_102) rfl k) ?_
      show Goes _ _ _ _ _ _ _ (T8.setTop (mkF m 103 _ [(.int ((((p1).toUInt64 >>> ((56 : Int32) &&& 0x3f).toInt64.toUInt64).toInt64).toInt32).toInt8.toInt32), (.int (7 : Int32)), (.ref ar21)]))
      obtain ⟨T9, h9, X9, e9, W9, A9, st9⟩ := own_stB X8 hx hZ e8 f_7 (j := (7 : Int32)) (x := ((((p1).toUInt64 >>> ((56 : Int32) &&& 0x3f).toInt64.toUInt64).toInt64).toInt32).toInt8.toInt32) (by decide) (show (7 : Nat) < 8 by decide) (g := (mkF m 103 #[.val (.int p0), .val (.long p1), .second, .val (.int (1 : Int32)), .val (.int (0 : Int32)), .val (.ref ar21), .unset, .unset, .unset, .unset, .unset] [(.int ((((p1).toUInt64 >>> ((56 : Int32) &&& 0x3f).toInt64.toUInt64).toInt64).toInt32).toInt8.toInt32), (.int (7 : Int32)), (.ref ar21)])) rfl rfl (hb hby at_103)
      rw [own_nar8] at A9
      have N9 := Fr.snoc X9 N8 ge_ar21
      have Z9 : n0 ≤ h9.size := by rw [W9.size]; exact Z8
      have f_8 : Arl Z h9 ar21 .byte [(.int ((p1).toInt32).toInt8.toInt32), (.int ((((p1).toUInt64 >>> ((8 : Int32) &&& 0x3f).toInt64.toUInt64).toInt64).toInt32).toInt8.toInt32), (.int ((((p1).toUInt64 >>> ((16 : Int32) &&& 0x3f).toInt64.toUInt64).toInt64).toInt32).toInt8.toInt32), (.int ((((p1).toUInt64 >>> ((24 : Int32) &&& 0x3f).toInt64.toUInt64).toInt64).toInt32).toInt8.toInt32), (.int ((((p1).toUInt64 >>> ((32 : Int32) &&& 0x3f).toInt64.toUInt64).toInt64).toInt32).toInt8.toInt32), (.int ((((p1).toUInt64 >>> ((40 : Int32) &&& 0x3f).toInt64.toUInt64).toInt64).toInt32).toInt8.toInt32), (.int ((((p1).toUInt64 >>> ((48 : Int32) &&& 0x3f).toInt64.toUInt64).toInt64).toInt32).toInt8.toInt32), (.int ((((p1).toUInt64 >>> ((56 : Int32) &&& 0x3f).toInt64.toUInt64).toInt64).toInt32).toInt8.toInt32)] := A9
      refine Goes.go (st9) ?_
      show Goes _ _ _ _ _ _ _ (T9.setTop (mkF m 104 _ []))
      refine Goes.go (fun _ k => XS.iload X9.here hx rfl (hb hby at_104) rfl k) ?_
      show Goes _ _ _ _ _ _ _ (T9.setTop (mkF m 106 _ [(.int (0 : Int32))]))
      refine Goes.go (fun _ k => XS.ifYes X9.here hx rfl (pc0 := 106) (pc' := 113) rfl (hb hby at_106) rfl (XT.i0_eq_t (by decide)) (by decide) (by decide) k) ?_
      show Goes _ _ _ _ _ _ _ (T9.setTop (mkF m 113 _ []))
      refine Goes.go (fun _ k => XS.iconst X9.here hx rfl (hb hby at_113) k) ?_
      show Goes _ _ _ _ _ _ _ (T9.setTop (mkF m 114 _ [(.int (0 : Int32))]))
      refine Goes.go (fun _ k => XS.istore X9.here hx rfl (hb hby at_114) rfl (l' := #[.val (.int p0), .val (.long p1), .second, .val (.int (1 : Int32)), .val (.int (0 : Int32)), .val (.ref ar21), .val (.int (0 : Int32)), .unset, .unset, .unset, .unset]) rfl k) ?_
      show Goes _ _ _ _ _ _ _ (T9.setTop (mkF m 116 #[.val (.int p0), .val (.long p1), .second, .val (.int (1 : Int32)), .val (.int (0 : Int32)), .val (.ref ar21), .val (.int (0 : Int32)), .unset, .unset, .unset, .unset] []))
      refine Goes.go (fun _ k => XS.bipush X9.here hx rfl (hb hby at_116) k) ?_
      show Goes _ _ _ _ _ _ _ (T9.setTop (mkF m 118 _ [(.int (8 : Int32))]))
      refine Goes.go (fun _ k => XS.iload X9.here hx rfl (hb hby at_118) rfl k) ?_
      show Goes _ _ _ _ _ _ _ (T9.setTop (mkF m 120 _ [(.int (0 : Int32)), (.int (8 : Int32))]))
      refine Goes.go (fun _ k => XS.isub X9.here hx rfl (hb hby at_120) rfl k) ?_
      show Goes _ _ _ _ _ _ _ (T9.setTop (mkF m 121 _ [(.int (8 : Int32))]))
      refine Goes.go (fun _ k => XS.iloadN X9.here hx rfl (hb hby at_121) rfl k) ?_
      show Goes _ _ _ _ _ _ _ (T9.setTop (mkF m 122 _ [(.int (1 : Int32)), (.int (8 : Int32))]))
      refine Goes.go (fun _ k => XS.isub X9.here hx rfl (hb hby at_122) rfl k) ?_
      show Goes _ _ _ _ _ _ _ (T9.setTop (mkF m 123 _ [(.int (7 : Int32))]))
      refine Goes.go (fun _ k => XS.istore X9.here hx rfl (hb hby at_123) rfl (l' := #[.val (.int p0), .val (.long p1), .second, .val (.int (1 : Int32)), .val (.int (0 : Int32)), .val (.ref ar21), .val (.int (0 : Int32)), .val (.int (7 : Int32)), .unset, .unset, .unset]) rfl k) ?_
      show Goes _ _ _ _ _ _ _ (T9.setTop (mkF m 125 #[.val (.int p0), .val (.long p1), .second, .val (.int (1 : Int32)), .val (.int (0 : Int32)), .val (.ref ar21), .val (.int (0 : Int32)), .val (.int (7 : Int32)), .unset, .unset, .unset] []))
      refine Goes.go (fun _ k => XS.iloadN X9.here hx rfl (hb hby at_125) rfl k) ?_
      show Goes _ _ _ _ _ _ _ (T9.setTop (mkF m 126 _ [(.int (1 : Int32))]))
      refine Goes.go (fun _ k => XS.iconst X9.here hx rfl (hb hby at_126) k) ?_
      show Goes _ _ _ _ _ _ _ (T9.setTop (mkF m 127 _ [(.int (1 : Int32)), (.int (1 : Int32))]))
      refine Goes.go (fun _ k => XS.icmpNo X9.here hx rfl (hb hby at_127) rfl (XT.ii_lt_f (by decide)) k) ?_
      show Goes _ _ _ _ _ _ _ (T9.setTop (mkF m 130 _ []))
      refine Goes.go (fun _ k => XS.aload X9.here hx rfl (hb hby at_130) rfl rfl k) ?_
      show Goes _ _ _ _ _ _ _ (T9.setTop (mkF m 132 _ [(.ref ar21)]))
      refine Goes.go (fun _ k => XS.iload X9.here hx rfl (hb hby at_132) rfl k) ?_
      show Goes _ _ _ _ _ _ _ (T9.setTop (mkF m 134 _ [(.int (7 : Int32)), (.ref ar21)]))
      refine Goes.go (fun _ k => XS.aload X9.here hx rfl (hb hby at_134) rfl rfl k) ?_
      show Goes _ _ _ _ _ _ _ (T9.setTop (mkF m 136 _ [(.ref ar21), (.int (7 : Int32)), (.ref ar21)]))
      refine Goes.go (fun _ k => XS.iload X9.here hx rfl (hb hby at_136) rfl k) ?_
      show Goes _ _ _ _ _ _ _ (T9.setTop (mkF m 138 _ [(.int (7 : Int32)), (.ref ar21), (.int (7 : Int32)), (.ref ar21)]))
      refine Goes.go (own_ldB X9 hx hZ e9 f_8 (j := (7 : Int32)) (v := (.int ((((p1).toUInt64 >>> ((56 : Int32) &&& 0x3f).toInt64.toUInt64).toInt64).toInt32).toInt8.toInt32)) (by decide) rfl rfl rfl (hb hby at_138)) ?_
      show Goes _ _ _ _ _ _ _ (T9.setTop (mkF m 139 _ [(.int ((((p1).toUInt64 >>> ((56 : Int32) &&& 0x3f).toInt64.toUInt64).toInt64).toInt32).toInt8.toInt32), (.int (7 : Int32)), (.ref ar21)]))
      refine Goes.go (fun _ k => XS.bipush X9.here hx rfl (hb hby at_139) k) ?_
      show Goes _ _ _ _ _ _ _ (T9.setTop (mkF m 141 _ [(.int (127 : Int32)), (.int ((((p1).toUInt64 >>> ((56 : Int32) &&& 0x3f).toInt64.toUInt64).toInt64).toInt32).toInt8.toInt32), (.int (7 : Int32)), (.ref ar21)]))
      refine Goes.go (fun _ k => XS.iand X9.here hx rfl (hb hby at_141) rfl k) ?_
      show Goes _ _ _ _ _ _ _ (T9.setTop (mkF m 142 _ [(.int (((((p1).toUInt64 >>> ((56 : Int32) &&& 0x3f).toInt64.toUInt64).toInt64).toInt32).toInt8.toInt32 &&& (127 : Int32))), (.int (7 : Int32)), (.ref ar21)]))
      refine Goes.go (fun _ k => XS.i2b X9.here hx rfl (hb hby at_142) rfl k) ?_
      show Goes _ _ _ _ _ _ _ (T9.setTop (mkF m 143 _ [(.int ((((((p1).toUInt64 >>> ((56 : Int32) &&& 0x3f).toInt64.toUInt64).toInt64).toInt32).toInt8.toInt32 &&& (127 : Int32))).toInt8.toInt32), (.int (7 : Int32)), (.ref ar21)]))
      obtain ⟨T10, h10, X10, e10, W10, A10, st10⟩ := own_stB X9 hx hZ e9 f_8 (j := (7 : Int32)) (x := ((((((p1).toUInt64 >>> ((56 : Int32) &&& 0x3f).toInt64.toUInt64).toInt64).toInt32).toInt8.toInt32 &&& (127 : Int32))).toInt8.toInt32) (by decide) (show (7 : Nat) < 8 by decide) (g := (mkF m 143 #[.val (.int p0), .val (.long p1), .second, .val (.int (1 : Int32)), .val (.int (0 : Int32)), .val (.ref ar21), .val (.int (0 : Int32)), .val (.int (7 : Int32)), .unset, .unset, .unset] [(.int ((((((p1).toUInt64 >>> ((56 : Int32) &&& 0x3f).toInt64.toUInt64).toInt64).toInt32).toInt8.toInt32 &&& (127 : Int32))).toInt8.toInt32), (.int (7 : Int32)), (.ref ar21)])) rfl rfl (hb hby at_143)
      rw [own_nar8] at A10
      have N10 := Fr.snoc X10 N9 ge_ar21
      have Z10 : n0 ≤ h10.size := by rw [W10.size]; exact Z9
      have f_9 : Arl Z h10 ar21 .byte [(.int ((p1).toInt32).toInt8.toInt32), (.int ((((p1).toUInt64 >>> ((8 : Int32) &&& 0x3f).toInt64.toUInt64).toInt64).toInt32).toInt8.toInt32), (.int ((((p1).toUInt64 >>> ((16 : Int32) &&& 0x3f).toInt64.toUInt64).toInt64).toInt32).toInt8.toInt32), (.int ((((p1).toUInt64 >>> ((24 : Int32) &&& 0x3f).toInt64.toUInt64).toInt64).toInt32).toInt8.toInt32), (.int ((((p1).toUInt64 >>> ((32 : Int32) &&& 0x3f).toInt64.toUInt64).toInt64).toInt32).toInt8.toInt32), (.int ((((p1).toUInt64 >>> ((40 : Int32) &&& 0x3f).toInt64.toUInt64).toInt64).toInt32).toInt8.toInt32), (.int ((((p1).toUInt64 >>> ((48 : Int32) &&& 0x3f).toInt64.toUInt64).toInt64).toInt32).toInt8.toInt32), (.int ((((((p1).toUInt64 >>> ((56 : Int32) &&& 0x3f).toInt64.toUInt64).toInt64).toInt32).toInt8.toInt32 &&& (127 : Int32))).toInt8.toInt32)] := A10
      refine Goes.go (st10) ?_
      show Goes _ _ _ _ _ _ _ (T10.setTop (mkF m 144 _ []))
      refine Goes.go (fun _ k => XS.iloadN X10.here hx rfl (hb hby at_144) rfl k) ?_
      show Goes _ _ _ _ _ _ _ (T10.setTop (mkF m 145 _ [(.int (1 : Int32))]))
      refine Goes.go (fun _ k => XS.iconst X10.here hx rfl (hb hby at_145) k) ?_
      show Goes _ _ _ _ _ _ _ (T10.setTop (mkF m 146 _ [(.int (2 : Int32)), (.int (1 : Int32))]))
      refine Goes.go (fun _ k => XS.icmpYes X10.here hx rfl (pc0 := 146) (pc' := 167) rfl (hb hby at_146) rfl (XT.ii_lt_t (by decide)) (by decide) (by decide) k) ?_
      show Goes _ _ _ _ _ _ _ (T10.setTop (mkF m 167 _ []))
      refine Goes.go (fun _ k => XS.iloadN X10.here hx rfl (hb hby at_167) rfl k) ?_
      show Goes _ _ _ _ _ _ _ (T10.setTop (mkF m 168 _ [(.int (1 : Int32))]))
      refine Goes.go (fun _ k => XS.iconst X10.here hx rfl (hb hby at_168) k) ?_
      show Goes _ _ _ _ _ _ _ (T10.setTop (mkF m 169 _ [(.int (3 : Int32)), (.int (1 : Int32))]))
      refine Goes.go (fun _ k => XS.icmpYes X10.here hx rfl (pc0 := 169) (pc' := 190) rfl (hb hby at_169) rfl (XT.ii_lt_t (by decide)) (by decide) (by decide) k) ?_
      show Goes _ _ _ _ _ _ _ (T10.setTop (mkF m 190 _ []))
      refine Goes.go (fun _ k => XS.iload X10.here hx rfl (hb hby at_190) rfl k) ?_
      show Goes _ _ _ _ _ _ _ (T10.setTop (mkF m 192 _ [(.int (0 : Int32))]))
      refine Goes.go (fun _ k => XS.ifYes X10.here hx rfl (pc0 := 192) (pc' := 224) rfl (hb hby at_192) rfl (XT.i0_eq_t (by decide)) (by decide) (by decide) k) ?_
      show Goes _ _ _ _ _ _ _ (T10.setTop (mkF m 224 _ []))
      obtain ⟨T11, h11, X11, e11, E11, A11, D11, -, st11⟩ := newO X10 hx hZ hown (hw _ (List.mem_of_getElem? (i := 1) rfl)) (hw _ (List.mem_of_getElem? (i := 2) rfl)) (hw _ (List.mem_of_getElem? (i := 3) rfl)) e10 (g := (mkF m 224 #[.val (.int p0), .val (.long p1), .second, .val (.int (1 : Int32)), .val (.int (0 : Int32)), .val (.ref ar21), .val (.int (0 : Int32)), .val (.int (7 : Int32)), .unset, .unset, .unset] [])) rfl (hb hby at_224) (by decide) (by decide)
      obtain ⟨ob224, gob224⟩ : ∃ z, z = h10.size := ⟨_, rfl⟩
      rw [← gob224] at A11 D11 st11
      have ne_ar21_ob224 : ar21 ≠ ob224 := by rw [gob224]; exact Nat.ne_of_lt f_9.lt
      have f_10 := f_9.ext E11
      have Z11 : n0 ≤ h11.size := Nat.le_trans Z10 E11.1
      have ge_ob224 : n0 ≤ ob224 := Nat.le_trans Z10 (Nat.le_of_eq gob224.symm)
      have f_11 : Fld Z h11 ob224 "com/example/countermand/countermand/Packed$Reader" "in" "[B" .null := D11 (Or.inr (hw _ (List.mem_of_getElem? (i := 11) rfl))) (ty := (.array .byte)) (by decide)
      have f_12 : Fld Z h11 ob224 "com/example/countermand/countermand/Packed$Reader" "position" "I" (.int (0 : Int32)) := D11 (Or.inl (hw _ (List.mem_of_getElem? (i := 13) rfl))) (ty := .int) (by decide)
      refine Goes.go (st11) ?_
      show Goes _ _ _ _ _ _ _ (T11.setTop (mkF m 227 _ [(.ref ob224)]))
      refine Goes.go (fun _ k => XS.dup X11.here hx rfl (hb hby at_227) rfl rfl k) ?_
      show Goes _ _ _ _ _ _ _ (T11.setTop (mkF m 228 _ [(.ref ob224), (.ref ob224)]))
      refine Goes.go (fun _ k => XS.aload X11.here hx rfl (hb hby at_228) rfl rfl k) ?_
      show Goes _ _ _ _ _ _ _ (T11.setTop (mkF m 230 _ [(.ref ar21), (.ref ob224), (.ref ob224)]))
      refine Goes.go (fun _ k => XS.iload X11.here hx rfl (hb hby at_230) rfl k) ?_
      show Goes _ _ _ _ _ _ _ (T11.setTop (mkF m 232 _ [(.int (7 : Int32)), (.ref ar21), (.ref ob224), (.ref ob224)]))
      obtain ⟨_, _, ⟨T12, L12, k12, n12⟩, -, X12, ⟨Lc12, hQ12, l12, y12, z12⟩, st12⟩ := X11.specialBack hx (y := (⟨"com/example/countermand/countermand/Packed$Reader", "<init>", "([BI)V"⟩ : MethodName)) rfl hown (mvT hZ (hw _ (List.mem_of_getElem? (i := 4) rfl))) (mvT hZ (hw _ (List.mem_of_getElem? (i := 5) rfl))) (mvT hZ (hw _ (List.mem_of_getElem? (i := 6) rfl))) (by decide) (backOf (W := 1) (rm1 l Z a0 hw [] ob224 ar21 (7 : Int32) h11 n0 Z11 A11 f_11 f_12 ge_ob224) hZ (hw _ (List.mem_of_getElem? (i := 6) rfl)) (hw _ (List.mem_of_getElem? (i := 3) rfl)) (by decide) (by decide)) (g := (mkF m 232 #[.val (.int p0), .val (.long p1), .second, .val (.int (1 : Int32)), .val (.int (0 : Int32)), .val (.ref ar21), .val (.int (0 : Int32)), .val (.int (7 : Int32)), .unset, .unset, .unset] [(.int (7 : Int32)), (.ref ar21), (.ref ob224), (.ref ob224)])) rfl (by rw [hml]; rfl) (Steps.refl _) (a := ob224) (argsL := [(.ref ar21), (.int (7 : Int32))]) (rest := [(.ref ob224)]) (lenOf pd0 rfl) rfl (by show 2 * 0 + _ ≤ _; exact Nat.le_of_eq rfl) (hb hby at_232) (fun _ _ => ⟨rfl, e11, (by decide : 2 + 0 ≤ _), (by decide : 10 + 0 ≤ _)⟩)
      dsimp only [Pt.U, Pt.locs, Pt.cells, Pt.slots] at X12 l12 y12 z12 st12 hQ12
      subst l12 y12 z12
      obtain ⟨rfl, Nq12, Kq12, Eq12, Fq12_0, Fq12_1⟩ := hQ12
      have N12 := Fr.app N10 Nq12
      have Z12 : n0 ≤ T12.heap.size := Nat.le_trans Z11 Kq12.1
      have f_13 := Arl.keep f_10 Kq12 (ninS ne_ar21_ob224 nin0)
      refine Goes.go (fun _ k => st12.trans k) ?_
      show Goes _ _ _ _ _ _ _ (T12.setTop (mkF m 235 _ [(.ref ob224)]))
      refine Goes.go (fun _ k => XS.astore X12.here hx rfl (hb hby at_235) rfl rfl (l' := #[.val (.int p0), .val (.long p1), .second, .val (.int (1 : Int32)), .val (.int (0 : Int32)), .val (.ref ar21), .val (.int (0 : Int32)), .val (.int (7 : Int32)), .val (.ref ob224), .unset, .unset]) rfl k) ?_
      show Goes _ _ _ _ _ _ _ (T12.setTop (mkF m 237 #[.val (.int p0), .val (.long p1), .second, .val (.int (1 : Int32)), .val (.int (0 : Int32)), .val (.ref ar21), .val (.int (0 : Int32)), .val (.int (7 : Int32)), .val (.ref ob224), .unset, .unset] []))
      refine Goes.go (fun _ k => XS.iconst X12.here hx rfl (hb hby at_237) k) ?_
      show Goes _ _ _ _ _ _ _ (T12.setTop (mkF m 238 _ [(.int (1 : Int32))]))
      refine Goes.go (fun _ k => XS.istore X12.here hx rfl (hb hby at_238) rfl (l' := #[.val (.int p0), .val (.long p1), .second, .val (.int (1 : Int32)), .val (.int (0 : Int32)), .val (.ref ar21), .val (.int (0 : Int32)), .val (.int (7 : Int32)), .val (.ref ob224), .val (.int (1 : Int32)), .unset]) rfl k) ?_
      show Goes _ _ _ _ _ _ _ (T12.setTop (mkF m 240 #[.val (.int p0), .val (.long p1), .second, .val (.int (1 : Int32)), .val (.int (0 : Int32)), .val (.ref ar21), .val (.int (0 : Int32)), .val (.int (7 : Int32)), .val (.ref ob224), .val (.int (1 : Int32)), .unset] []))
      refine Goes.go (fun _ k => XS.iloadN X12.here hx rfl (hb hby at_240) rfl k) ?_
      show Goes _ _ _ _ _ _ _ (T12.setTop (mkF m 241 _ [(.int (1 : Int32))]))
      refine Goes.go (fun _ k => XS.iconst X12.here hx rfl (hb hby at_241) k) ?_
      show Goes _ _ _ _ _ _ _ (T12.setTop (mkF m 242 _ [(.int (1 : Int32)), (.int (1 : Int32))]))
      refine Goes.go (fun _ k => XS.icmpNo X12.here hx rfl (hb hby at_242) rfl (XT.ii_lt_f (by decide)) k) ?_
      show Goes _ _ _ _ _ _ _ (T12.setTop (mkF m 245 _ []))
      refine Goes.go (fun _ k => XS.iload X12.here hx rfl (hb hby at_245) rfl k) ?_
      show Goes _ _ _ _ _ _ _ (T12.setTop (mkF m 247 _ [(.int (1 : Int32))]))
      refine Goes.go (fun _ k => XS.ifNo X12.here hx rfl (hb hby at_247) rfl (XT.i0_eq_f (by decide)) k) ?_
      show Goes _ _ _ _ _ _ _ (T12.setTop (mkF m 250 _ []))
      refine Goes.go (fun _ k => XS.aload X12.here hx rfl (hb hby at_250) rfl rfl k) ?_
      show Goes _ _ _ _ _ _ _ (T12.setTop (mkF m 252 _ [(.ref ob224)]))
      obtain ⟨cq13, kq13, qa13, qb13, qc13⟩ := isOf hZ rfl Eq12
      obtain ⟨_, _, ⟨T13, L13, k13, n13⟩, -, X13, ⟨Lc13, hQ13, l13, y13, z13⟩, st13⟩ := X12.virtualBack hx (y := (⟨"com/example/countermand/countermand/Packed$Reader", "count", "()I"⟩ : MethodName)) (z := (⟨"com/example/countermand/countermand/Packed$Reader", "count", "()I"⟩ : MethodName)) hown (mvT hZ (hw _ (List.mem_of_getElem? (i := 19) rfl))) (mvT hZ (hw _ (List.mem_of_getElem? (i := 20) rfl))) (notFace_of_selects (args := #[]) (mvT hZ (hw _ (List.mem_of_getElem? (i := 22) rfl)))) (mvT hZ (hw _ (List.mem_of_getElem? (i := 22) rfl))) (mvT hZ (hw _ (List.mem_of_getElem? (i := 21) rfl))) (by decide) (backOf (W := 0) (rm4 l Z a0 hw [] ob224 ar21 _ (7 : Int32) [((((((p1).toUInt64 >>> ((56 : Int32) &&& 0x3f).toInt64.toUInt64).toInt64).toInt32).toInt8.toInt32 &&& (127 : Int32))).toInt8.toInt32] T12.heap n0 Z12 Eq12 Fq12_0 Fq12_1 ge_ob224 f_13 ⟨by decide, rfl, own_lo8 (((((p1).toUInt64 >>> ((56 : Int32) &&& 0x3f).toInt64.toUInt64).toInt64).toInt32).toInt8)⟩ (fit_1 (((((p1).toUInt64 >>> ((56 : Int32) &&& 0x3f).toInt64.toUInt64).toInt64).toInt32).toInt8))) hZ (hw _ (List.mem_of_getElem? (i := 23) rfl)) (hw _ (List.mem_of_getElem? (i := 3) rfl)) (by decide) (by decide)) qa13 qc13 (g := (mkF m 252 #[.val (.int p0), .val (.long p1), .second, .val (.int (1 : Int32)), .val (.int (0 : Int32)), .val (.ref ar21), .val (.int (0 : Int32)), .val (.int (7 : Int32)), .val (.ref ob224), .val (.int (1 : Int32)), .unset] [(.ref ob224)])) rfl (by rw [hml]; rfl) (Steps.refl _) (argsL := []) (rest := []) (lenOf pd2 rfl) rfl (by show 2 * 0 + _ ≤ _; exact Nat.le_of_eq rfl) (hb hby at_252) (fun _ _ => ⟨rfl, rfl, (by decide : 2 + 0 ≤ _), (by decide : 10 + 0 ≤ _)⟩)
      dsimp only [Pt.U, Pt.locs, Pt.cells, Pt.slots] at X13 l13 y13 z13 st13 hQ13
      subst l13 y13 z13
      obtain ⟨rfl, Nq13, Kq13, Eq13, Fq13_0, Fq13_1⟩ := hQ13
      have N13 := Fr.app N12 Nq13
      have Z13 : n0 ≤ T13.heap.size := Nat.le_trans Z12 Kq13.1
      have f_14 := Arl.keep f_13 Kq13 (ninS ne_ar21_ob224 nin0)
      refine Goes.go (fun _ k => st13.trans k) ?_
      show Goes _ _ _ _ _ _ _ (T13.setTop (mkF m 255 _ [(.int (svb [((((((p1).toUInt64 >>> ((56 : Int32) &&& 0x3f).toInt64.toUInt64).toInt64).toInt32).toInt8.toInt32 &&& (127 : Int32))).toInt8.toInt32] 0 0).toInt32)]))
      refine Goes.go (fun _ k => XS.aload X13.here hx rfl (hb hby at_255) rfl rfl k) ?_
      show Goes _ _ _ _ _ _ _ (T13.setTop (mkF m 257 _ [(.ref ar21), (.int (svb [((((((p1).toUInt64 >>> ((56 : Int32) &&& 0x3f).toInt64.toUInt64).toInt64).toInt32).toInt8.toInt32 &&& (127 : Int32))).toInt8.toInt32] 0 0).toInt32)]))
      refine Goes.go (fun _ k => XS.iload X13.here hx rfl (hb hby at_257) rfl k) ?_
      show Goes _ _ _ _ _ _ _ (T13.setTop (mkF m 259 _ [(.int (7 : Int32)), (.ref ar21), (.int (svb [((((((p1).toUInt64 >>> ((56 : Int32) &&& 0x3f).toInt64.toUInt64).toInt64).toInt32).toInt8.toInt32 &&& (127 : Int32))).toInt8.toInt32] 0 0).toInt32)]))
      refine Goes.go (own_ldB X13 hx hZ rfl f_14 (j := (7 : Int32)) (v := (.int ((((((p1).toUInt64 >>> ((56 : Int32) &&& 0x3f).toInt64.toUInt64).toInt64).toInt32).toInt8.toInt32 &&& (127 : Int32))).toInt8.toInt32)) (by decide) rfl rfl rfl (hb hby at_259)) ?_
      show Goes _ _ _ _ _ _ _ (T13.setTop (mkF m 260 _ [(.int ((((((p1).toUInt64 >>> ((56 : Int32) &&& 0x3f).toInt64.toUInt64).toInt64).toInt32).toInt8.toInt32 &&& (127 : Int32))).toInt8.toInt32), (.int (svb [((((((p1).toUInt64 >>> ((56 : Int32) &&& 0x3f).toInt64.toUInt64).toInt64).toInt32).toInt8.toInt32 &&& (127 : Int32))).toInt8.toInt32] 0 0).toInt32)]))
      refine Goes.go (fun _ k => XS.icmpNo X13.here hx rfl (hb hby at_260) rfl (XT.ii_ne_f (val_1 (((((p1).toUInt64 >>> ((56 : Int32) &&& 0x3f).toInt64.toUInt64).toInt64).toInt32).toInt8))) k) ?_
      show Goes _ _ _ _ _ _ _ (T13.setTop (mkF m 263 _ []))
      refine Goes.go (fun _ k => XS.iconst X13.here hx rfl (hb hby at_263) k) ?_
      show Goes _ _ _ _ _ _ _ (T13.setTop (mkF m 264 _ [(.int (1 : Int32))]))
      refine Goes.go (fun _ k => XS.goto X13.here hx rfl (pc0 := 264) (pc' := 268) rfl (hb hby at_264) (by decide) (by decide) k) ?_
      show Goes _ _ _ _ _ _ _ (T13.setTop (mkF m 268 _ [(.int (1 : Int32))]))
      refine Goes.go (fun _ k => XS.istore X13.here hx rfl (hb hby at_268) rfl (l' := #[.val (.int p0), .val (.long p1), .second, .val (.int (1 : Int32)), .val (.int (0 : Int32)), .val (.ref ar21), .val (.int (0 : Int32)), .val (.int (7 : Int32)), .val (.ref ob224), .val (.int (1 : Int32)), .unset]) rfl k) ?_
      show Goes _ _ _ _ _ _ _ (T13.setTop (mkF m 270 _ []))
      refine Goes.go (fun _ k => XS.iloadN X13.here hx rfl (hb hby at_270) rfl k) ?_
      show Goes _ _ _ _ _ _ _ (T13.setTop (mkF m 271 _ [(.int (1 : Int32))]))
      refine Goes.go (fun _ k => XS.iconst X13.here hx rfl (hb hby at_271) k) ?_
      show Goes _ _ _ _ _ _ _ (T13.setTop (mkF m 272 _ [(.int (2 : Int32)), (.int (1 : Int32))]))
      refine Goes.go (fun _ k => XS.icmpYes X13.here hx rfl (pc0 := 272) (pc' := 302) rfl (hb hby at_272) rfl (XT.ii_lt_t (by decide)) (by decide) (by decide) k) ?_
      show Goes _ _ _ _ _ _ _ (T13.setTop (mkF m 302 _ []))
      refine Goes.go (fun _ k => XS.iloadN X13.here hx rfl (hb hby at_302) rfl k) ?_
      show Goes _ _ _ _ _ _ _ (T13.setTop (mkF m 303 _ [(.int (1 : Int32))]))
      refine Goes.go (fun _ k => XS.iconst X13.here hx rfl (hb hby at_303) k) ?_
      show Goes _ _ _ _ _ _ _ (T13.setTop (mkF m 304 _ [(.int (3 : Int32)), (.int (1 : Int32))]))
      refine Goes.go (fun _ k => XS.icmpYes X13.here hx rfl (pc0 := 304) (pc' := 334) rfl (hb hby at_304) rfl (XT.ii_lt_t (by decide)) (by decide) (by decide) k) ?_
      show Goes _ _ _ _ _ _ _ (T13.setTop (mkF m 334 _ []))
      refine Goes.go (fun _ k => XS.iload X13.here hx rfl (hb hby at_334) rfl k) ?_
      show Goes _ _ _ _ _ _ _ (T13.setTop (mkF m 336 _ [(.int (0 : Int32))]))
      refine Goes.go (fun _ k => XS.ifYes X13.here hx rfl (pc0 := 336) (pc' := 380) rfl (hb hby at_336) rfl (XT.i0_eq_t (by decide)) (by decide) (by decide) k) ?_
      show Goes _ _ _ _ _ _ _ (T13.setTop (mkF m 380 _ []))
      refine Goes.go (fun _ k => XS.aload X13.here hx rfl (hb hby at_380) rfl rfl k) ?_
      show Goes _ _ _ _ _ _ _ (T13.setTop (mkF m 382 _ [(.ref ob224)]))
      obtain ⟨cq14, kq14, qa14, qb14, qc14⟩ := isOf hZ rfl Eq13
      obtain ⟨_, _, ⟨T14, L14, k14, n14⟩, -, X14, ⟨Lc14, hQ14, l14, y14, z14⟩, st14⟩ := X13.virtualBack hx (y := (⟨"com/example/countermand/countermand/Packed$Reader", "end", "()V"⟩ : MethodName)) (z := (⟨"com/example/countermand/countermand/Packed$Reader", "end", "()V"⟩ : MethodName)) hown (mvT hZ (hw _ (List.mem_of_getElem? (i := 14) rfl))) (mvT hZ (hw _ (List.mem_of_getElem? (i := 15) rfl))) (notFace_of_selects (args := #[]) (mvT hZ (hw _ (List.mem_of_getElem? (i := 17) rfl)))) (mvT hZ (hw _ (List.mem_of_getElem? (i := 17) rfl))) (mvT hZ (hw _ (List.mem_of_getElem? (i := 16) rfl))) (by decide) (backOf (W := 0) (rm3 l Z a0 hw [] ob224 ar21 _ (8 : Int32) T13.heap n0 Z13 Fq13_0 Fq13_1 f_14 rfl) hZ (hw _ (List.mem_of_getElem? (i := 18) rfl)) (hw _ (List.mem_of_getElem? (i := 3) rfl)) (by decide) (by decide)) qa14 qc14 (g := (mkF m 382 #[.val (.int p0), .val (.long p1), .second, .val (.int (1 : Int32)), .val (.int (0 : Int32)), .val (.ref ar21), .val (.int (0 : Int32)), .val (.int (7 : Int32)), .val (.ref ob224), .val (.int (1 : Int32)), .unset] [(.ref ob224)])) rfl (by rw [hml]; rfl) (Steps.refl _) (argsL := []) (rest := []) (lenOf pd1 rfl) rfl (by show 2 * 0 + _ ≤ _; exact Nat.le_of_eq rfl) (hb hby at_382) (fun _ _ => ⟨rfl, rfl, (by decide : 2 + 0 ≤ _), (by decide : 10 + 0 ≤ _)⟩)
      dsimp only [Pt.U, Pt.locs, Pt.cells, Pt.slots] at X14 l14 y14 z14 st14 hQ14
      subst l14 y14 z14
      obtain ⟨rfl, Nq14, hh14⟩ := hQ14
      have N14 := Fr.app N13 Nq14
      refine Goes.go (fun _ k => st14.trans k) ?_
      show Goes _ _ _ _ _ _ _ (T14.setTop (mkF m 385 _ []))
      refine Goes.go (fun _ k => XS.iload X14.here hx rfl (hb hby at_385) rfl k) ?_
      show Goes _ _ _ _ _ _ _ (T14.setTop (mkF m 387 _ [(.int (1 : Int32))]))
      exact Goes.outZ X14 hx hlk hret rfl (hb hby at_387) hh14 ⟨rfl, N14⟩ (by decide) (by decide)
    · skip
      refine Goes.go (fun _ k => XS.ifNo X0.here hx rfl (hb hby at_9) rfl (XT.i0_eq_f c9) k) ?_
      show Goes _ _ _ _ _ _ _ (s₁.setTop (mkF m 12 _ []))
      refine Goes.go (fun _ k => XS.iconst X0.here hx rfl (hb hby at_12) k) ?_
      show Goes _ _ _ _ _ _ _ (s₁.setTop (mkF m 13 _ [(.int (1 : Int32))]))
      refine Goes.go (fun _ k => XS.goto X0.here hx rfl (pc0 := 13) (pc' := 17) rfl (hb hby at_13) (by decide) (by decide) k) ?_
      show Goes _ _ _ _ _ _ _ (s₁.setTop (mkF m 17 _ [(.int (1 : Int32))]))
      refine Goes.go (fun _ k => XS.istore X0.here hx rfl (hb hby at_17) rfl (l' := #[.val (.int p0), .val (.long p1), .second, .val (.int (1 : Int32)), .val (.int (1 : Int32)), .unset, .unset, .unset, .unset, .unset, .unset]) rfl k) ?_
      show Goes _ _ _ _ _ _ _ (s₁.setTop (mkF m 19 #[.val (.int p0), .val (.long p1), .second, .val (.int (1 : Int32)), .val (.int (1 : Int32)), .unset, .unset, .unset, .unset, .unset, .unset] []))
      refine Goes.go (fun _ k => XS.bipush X0.here hx rfl (hb hby at_19) k) ?_
      show Goes _ _ _ _ _ _ _ (s₁.setTop (mkF m 21 _ [(.int (8 : Int32))]))
      obtain ⟨T1, h1, X1, e1, E1, A1, st1⟩ := own_newP X0 hx hZ (aty := .byte) (hw _ (List.mem_of_getElem? (i := 0) rfl)) e0 (g := (mkF m 21 #[.val (.int p0), .val (.long p1), .second, .val (.int (1 : Int32)), .val (.int (1 : Int32)), .unset, .unset, .unset, .unset, .unset, .unset] [(.int (8 : Int32))])) rfl (hb hby at_21) rfl (n := (8 : Int32)) (by decide) (cap := 8) (by decide) (by decide) (by decide) (by decide)
      obtain ⟨ar21, gar21⟩ : ∃ z, z = h0.size := ⟨_, rfl⟩
      rw [← gar21] at A1 st1
      have Z1 : n0 ≤ h1.size := Nat.le_trans Z0 E1.1
      have ge_ar21 : n0 ≤ ar21 := Nat.le_trans Z0 (Nat.le_of_eq gar21.symm)
      have f : Arl Z h1 ar21 .byte [(.int (0 : Int32)), (.int (0 : Int32)), (.int (0 : Int32)), (.int (0 : Int32)), (.int (0 : Int32)), (.int (0 : Int32)), (.int (0 : Int32)), (.int (0 : Int32))] := A1
      refine Goes.go (st1) ?_
      show Goes _ _ _ _ _ _ _ (T1.setTop (mkF m 23 _ [(.ref ar21)]))
      refine Goes.go (fun _ k => XS.astore X1.here hx rfl (hb hby at_23) rfl rfl (l' := #[.val (.int p0), .val (.long p1), .second, .val (.int (1 : Int32)), .val (.int (1 : Int32)), .val (.ref ar21), .unset, .unset, .unset, .unset, .unset]) rfl k) ?_
      show Goes _ _ _ _ _ _ _ (T1.setTop (mkF m 25 #[.val (.int p0), .val (.long p1), .second, .val (.int (1 : Int32)), .val (.int (1 : Int32)), .val (.ref ar21), .unset, .unset, .unset, .unset, .unset] []))
      refine Goes.go (fun _ k => XS.aload X1.here hx rfl (hb hby at_25) rfl rfl k) ?_
      show Goes _ _ _ _ _ _ _ (T1.setTop (mkF m 27 _ [(.ref ar21)]))
      refine Goes.go (fun _ k => XS.iconst X1.here hx rfl (hb hby at_27) k) ?_
      show Goes _ _ _ _ _ _ _ (T1.setTop (mkF m 28 _ [(.int (0 : Int32)), (.ref ar21)]))
      refine Goes.go (fun _ k => XS.lloadN X1.here hx rfl (hb hby at_28) rfl k) ?_
      show Goes _ _ _ _ _ _ _ (T1.setTop (mkF m 29 _ [(.long p1), (.int (0 : Int32)), (.ref ar21)]))
      refine Goes.go (fun _ k => XS.l2i X1.here hx rfl (hb hby at_29) rfl k) ?_
      show Goes _ _ _ _ _ _ _ (T1.setTop (mkF m 30 _ [(.int (p1).toInt32), (.int (0 : Int32)), (.ref ar21)]))
      refine Goes.go (fun _ k => XS.i2b X1.here hx rfl (hb hby at_30) rfl k) ?_
      show Goes _ _ _ _ _ _ _ (T1.setTop (mkF m 31 _ [(.int ((p1).toInt32).toInt8.toInt32), (.int (0 : Int32)), (.ref ar21)]))
      obtain ⟨T2, h2, X2, e2, W2, A2, st2⟩ := own_stB X1 hx hZ e1 f (j := (0 : Int32)) (x := ((p1).toInt32).toInt8.toInt32) (by decide) (show (0 : Nat) < 8 by decide) (g := (mkF m 31 #[.val (.int p0), .val (.long p1), .second, .val (.int (1 : Int32)), .val (.int (1 : Int32)), .val (.ref ar21), .unset, .unset, .unset, .unset, .unset] [(.int ((p1).toInt32).toInt8.toInt32), (.int (0 : Int32)), (.ref ar21)])) rfl rfl (hb hby at_31)
      rw [own_nar8] at A2
      have N2 := Fr.snoc X2 N0 ge_ar21
      have Z2 : n0 ≤ h2.size := by rw [W2.size]; exact Z1
      have f_1 : Arl Z h2 ar21 .byte [(.int ((p1).toInt32).toInt8.toInt32), (.int (0 : Int32)), (.int (0 : Int32)), (.int (0 : Int32)), (.int (0 : Int32)), (.int (0 : Int32)), (.int (0 : Int32)), (.int (0 : Int32))] := A2
      refine Goes.go (st2) ?_
      show Goes _ _ _ _ _ _ _ (T2.setTop (mkF m 32 _ []))
      refine Goes.go (fun _ k => XS.aload X2.here hx rfl (hb hby at_32) rfl rfl k) ?_
      show Goes _ _ _ _ _ _ _ (T2.setTop (mkF m 34 _ [(.ref ar21)]))
      refine Goes.go (fun _ k => XS.iconst X2.here hx rfl (hb hby at_34) k) ?_
      show Goes _ _ _ _ _ _ _ (T2.setTop (mkF m 35 _ [(.int (1 : Int32)), (.ref ar21)]))
      refine Goes.go (fun _ k => XS.lloadN X2.here hx rfl (hb hby at_35) rfl k) ?_
      show Goes _ _ _ _ _ _ _ (T2.setTop (mkF m 36 _ [(.long p1), (.int (1 : Int32)), (.ref ar21)]))
      refine Goes.go (fun _ k => XS.bipush X2.here hx rfl (hb hby at_36) k) ?_
      show Goes _ _ _ _ _ _ _ (T2.setTop (mkF m 38 _ [(.int (8 : Int32)), (.long p1), (.int (1 : Int32)), (.ref ar21)]))
      refine Goes.go (fun _ k => XS.lushr X2.here hx rfl (hb hby at_38) rfl k) ?_
      show Goes _ _ _ _ _ _ _ (T2.setTop (mkF m 39 _ [(.long ((p1).toUInt64 >>> ((8 : Int32) &&& 0x3f).toInt64.toUInt64).toInt64), (.int (1 : Int32)), (.ref ar21)]))
      refine Goes.go (fun _ k => XS.l2i X2.here hx rfl (hb hby at_39) rfl k) ?_
      show Goes _ _ _ _ _ _ _ (T2.setTop (mkF m 40 _ [(.int (((p1).toUInt64 >>> ((8 : Int32) &&& 0x3f).toInt64.toUInt64).toInt64).toInt32), (.int (1 : Int32)), (.ref ar21)]))
      refine Goes.go (fun _ k => XS.i2b X2.here hx rfl (hb hby at_40) rfl k) ?_
      show Goes _ _ _ _ _ _ _ (T2.setTop (mkF m 41 _ [(.int ((((p1).toUInt64 >>> ((8 : Int32) &&& 0x3f).toInt64.toUInt64).toInt64).toInt32).toInt8.toInt32), (.int (1 : Int32)), (.ref ar21)]))
      obtain ⟨T3, h3, X3, e3, W3, A3, st3⟩ := own_stB X2 hx hZ e2 f_1 (j := (1 : Int32)) (x := ((((p1).toUInt64 >>> ((8 : Int32) &&& 0x3f).toInt64.toUInt64).toInt64).toInt32).toInt8.toInt32) (by decide) (show (1 : Nat) < 8 by decide) (g := (mkF m 41 #[.val (.int p0), .val (.long p1), .second, .val (.int (1 : Int32)), .val (.int (1 : Int32)), .val (.ref ar21), .unset, .unset, .unset, .unset, .unset] [(.int ((((p1).toUInt64 >>> ((8 : Int32) &&& 0x3f).toInt64.toUInt64).toInt64).toInt32).toInt8.toInt32), (.int (1 : Int32)), (.ref ar21)])) rfl rfl (hb hby at_41)
      rw [own_nar8] at A3
      have N3 := Fr.snoc X3 N2 ge_ar21
      have Z3 : n0 ≤ h3.size := by rw [W3.size]; exact Z2
      have f_2 : Arl Z h3 ar21 .byte [(.int ((p1).toInt32).toInt8.toInt32), (.int ((((p1).toUInt64 >>> ((8 : Int32) &&& 0x3f).toInt64.toUInt64).toInt64).toInt32).toInt8.toInt32), (.int (0 : Int32)), (.int (0 : Int32)), (.int (0 : Int32)), (.int (0 : Int32)), (.int (0 : Int32)), (.int (0 : Int32))] := A3
      refine Goes.go (st3) ?_
      show Goes _ _ _ _ _ _ _ (T3.setTop (mkF m 42 _ []))
      refine Goes.go (fun _ k => XS.aload X3.here hx rfl (hb hby at_42) rfl rfl k) ?_
      show Goes _ _ _ _ _ _ _ (T3.setTop (mkF m 44 _ [(.ref ar21)]))
      refine Goes.go (fun _ k => XS.iconst X3.here hx rfl (hb hby at_44) k) ?_
      show Goes _ _ _ _ _ _ _ (T3.setTop (mkF m 45 _ [(.int (2 : Int32)), (.ref ar21)]))
      refine Goes.go (fun _ k => XS.lloadN X3.here hx rfl (hb hby at_45) rfl k) ?_
      show Goes _ _ _ _ _ _ _ (T3.setTop (mkF m 46 _ [(.long p1), (.int (2 : Int32)), (.ref ar21)]))
      refine Goes.go (fun _ k => XS.bipush X3.here hx rfl (hb hby at_46) k) ?_
      show Goes _ _ _ _ _ _ _ (T3.setTop (mkF m 48 _ [(.int (16 : Int32)), (.long p1), (.int (2 : Int32)), (.ref ar21)]))
      refine Goes.go (fun _ k => XS.lushr X3.here hx rfl (hb hby at_48) rfl k) ?_
      show Goes _ _ _ _ _ _ _ (T3.setTop (mkF m 49 _ [(.long ((p1).toUInt64 >>> ((16 : Int32) &&& 0x3f).toInt64.toUInt64).toInt64), (.int (2 : Int32)), (.ref ar21)]))
      refine Goes.go (fun _ k => XS.l2i X3.here hx rfl (hb hby at_49) rfl k) ?_
      show Goes _ _ _ _ _ _ _ (T3.setTop (mkF m 50 _ [(.int (((p1).toUInt64 >>> ((16 : Int32) &&& 0x3f).toInt64.toUInt64).toInt64).toInt32), (.int (2 : Int32)), (.ref ar21)]))
      refine Goes.go (fun _ k => XS.i2b X3.here hx rfl (hb hby at_50) rfl k) ?_
      show Goes _ _ _ _ _ _ _ (T3.setTop (mkF m 51 _ [(.int ((((p1).toUInt64 >>> ((16 : Int32) &&& 0x3f).toInt64.toUInt64).toInt64).toInt32).toInt8.toInt32), (.int (2 : Int32)), (.ref ar21)]))
      obtain ⟨T4, h4, X4, e4, W4, A4, st4⟩ := own_stB X3 hx hZ e3 f_2 (j := (2 : Int32)) (x := ((((p1).toUInt64 >>> ((16 : Int32) &&& 0x3f).toInt64.toUInt64).toInt64).toInt32).toInt8.toInt32) (by decide) (show (2 : Nat) < 8 by decide) (g := (mkF m 51 #[.val (.int p0), .val (.long p1), .second, .val (.int (1 : Int32)), .val (.int (1 : Int32)), .val (.ref ar21), .unset, .unset, .unset, .unset, .unset] [(.int ((((p1).toUInt64 >>> ((16 : Int32) &&& 0x3f).toInt64.toUInt64).toInt64).toInt32).toInt8.toInt32), (.int (2 : Int32)), (.ref ar21)])) rfl rfl (hb hby at_51)
      rw [own_nar8] at A4
      have N4 := Fr.snoc X4 N3 ge_ar21
      have Z4 : n0 ≤ h4.size := by rw [W4.size]; exact Z3
      have f_3 : Arl Z h4 ar21 .byte [(.int ((p1).toInt32).toInt8.toInt32), (.int ((((p1).toUInt64 >>> ((8 : Int32) &&& 0x3f).toInt64.toUInt64).toInt64).toInt32).toInt8.toInt32), (.int ((((p1).toUInt64 >>> ((16 : Int32) &&& 0x3f).toInt64.toUInt64).toInt64).toInt32).toInt8.toInt32), (.int (0 : Int32)), (.int (0 : Int32)), (.int (0 : Int32)), (.int (0 : Int32)), (.int (0 : Int32))] := A4
      refine Goes.go (st4) ?_
      show Goes _ _ _ _ _ _ _ (T4.setTop (mkF m 52 _ []))
      refine Goes.go (fun _ k => XS.aload X4.here hx rfl (hb hby at_52) rfl rfl k) ?_
      show Goes _ _ _ _ _ _ _ (T4.setTop (mkF m 54 _ [(.ref ar21)]))
      refine Goes.go (fun _ k => XS.iconst X4.here hx rfl (hb hby at_54) k) ?_
      show Goes _ _ _ _ _ _ _ (T4.setTop (mkF m 55 _ [(.int (3 : Int32)), (.ref ar21)]))
      refine Goes.go (fun _ k => XS.lloadN X4.here hx rfl (hb hby at_55) rfl k) ?_
      show Goes _ _ _ _ _ _ _ (T4.setTop (mkF m 56 _ [(.long p1), (.int (3 : Int32)), (.ref ar21)]))
      refine Goes.go (fun _ k => XS.bipush X4.here hx rfl (hb hby at_56) k) ?_
      show Goes _ _ _ _ _ _ _ (T4.setTop (mkF m 58 _ [(.int (24 : Int32)), (.long p1), (.int (3 : Int32)), (.ref ar21)]))
      refine Goes.go (fun _ k => XS.lushr X4.here hx rfl (hb hby at_58) rfl k) ?_
      show Goes _ _ _ _ _ _ _ (T4.setTop (mkF m 59 _ [(.long ((p1).toUInt64 >>> ((24 : Int32) &&& 0x3f).toInt64.toUInt64).toInt64), (.int (3 : Int32)), (.ref ar21)]))
      refine Goes.go (fun _ k => XS.l2i X4.here hx rfl (hb hby at_59) rfl k) ?_
      show Goes _ _ _ _ _ _ _ (T4.setTop (mkF m 60 _ [(.int (((p1).toUInt64 >>> ((24 : Int32) &&& 0x3f).toInt64.toUInt64).toInt64).toInt32), (.int (3 : Int32)), (.ref ar21)]))
      refine Goes.go (fun _ k => XS.i2b X4.here hx rfl (hb hby at_60) rfl k) ?_
      show Goes _ _ _ _ _ _ _ (T4.setTop (mkF m 61 _ [(.int ((((p1).toUInt64 >>> ((24 : Int32) &&& 0x3f).toInt64.toUInt64).toInt64).toInt32).toInt8.toInt32), (.int (3 : Int32)), (.ref ar21)]))
      obtain ⟨T5, h5, X5, e5, W5, A5, st5⟩ := own_stB X4 hx hZ e4 f_3 (j := (3 : Int32)) (x := ((((p1).toUInt64 >>> ((24 : Int32) &&& 0x3f).toInt64.toUInt64).toInt64).toInt32).toInt8.toInt32) (by decide) (show (3 : Nat) < 8 by decide) (g := (mkF m 61 #[.val (.int p0), .val (.long p1), .second, .val (.int (1 : Int32)), .val (.int (1 : Int32)), .val (.ref ar21), .unset, .unset, .unset, .unset, .unset] [(.int ((((p1).toUInt64 >>> ((24 : Int32) &&& 0x3f).toInt64.toUInt64).toInt64).toInt32).toInt8.toInt32), (.int (3 : Int32)), (.ref ar21)])) rfl rfl (hb hby at_61)
      rw [own_nar8] at A5
      have N5 := Fr.snoc X5 N4 ge_ar21
      have Z5 : n0 ≤ h5.size := by rw [W5.size]; exact Z4
      have f_4 : Arl Z h5 ar21 .byte [(.int ((p1).toInt32).toInt8.toInt32), (.int ((((p1).toUInt64 >>> ((8 : Int32) &&& 0x3f).toInt64.toUInt64).toInt64).toInt32).toInt8.toInt32), (.int ((((p1).toUInt64 >>> ((16 : Int32) &&& 0x3f).toInt64.toUInt64).toInt64).toInt32).toInt8.toInt32), (.int ((((p1).toUInt64 >>> ((24 : Int32) &&& 0x3f).toInt64.toUInt64).toInt64).toInt32).toInt8.toInt32), (.int (0 : Int32)), (.int (0 : Int32)), (.int (0 : Int32)), (.int (0 : Int32))] := A5
      refine Goes.go (st5) ?_
      show Goes _ _ _ _ _ _ _ (T5.setTop (mkF m 62 _ []))
      refine Goes.go (fun _ k => XS.aload X5.here hx rfl (hb hby at_62) rfl rfl k) ?_
      show Goes _ _ _ _ _ _ _ (T5.setTop (mkF m 64 _ [(.ref ar21)]))
      refine Goes.go (fun _ k => XS.iconst X5.here hx rfl (hb hby at_64) k) ?_
      show Goes _ _ _ _ _ _ _ (T5.setTop (mkF m 65 _ [(.int (4 : Int32)), (.ref ar21)]))
      refine Goes.go (fun _ k => XS.lloadN X5.here hx rfl (hb hby at_65) rfl k) ?_
      show Goes _ _ _ _ _ _ _ (T5.setTop (mkF m 66 _ [(.long p1), (.int (4 : Int32)), (.ref ar21)]))
      refine Goes.go (fun _ k => XS.bipush X5.here hx rfl (hb hby at_66) k) ?_
      show Goes _ _ _ _ _ _ _ (T5.setTop (mkF m 68 _ [(.int (32 : Int32)), (.long p1), (.int (4 : Int32)), (.ref ar21)]))
      refine Goes.go (fun _ k => XS.lushr X5.here hx rfl (hb hby at_68) rfl k) ?_
      show Goes _ _ _ _ _ _ _ (T5.setTop (mkF m 69 _ [(.long ((p1).toUInt64 >>> ((32 : Int32) &&& 0x3f).toInt64.toUInt64).toInt64), (.int (4 : Int32)), (.ref ar21)]))
      refine Goes.go (fun _ k => XS.l2i X5.here hx rfl (hb hby at_69) rfl k) ?_
      show Goes _ _ _ _ _ _ _ (T5.setTop (mkF m 70 _ [(.int (((p1).toUInt64 >>> ((32 : Int32) &&& 0x3f).toInt64.toUInt64).toInt64).toInt32), (.int (4 : Int32)), (.ref ar21)]))
      refine Goes.go (fun _ k => XS.i2b X5.here hx rfl (hb hby at_70) rfl k) ?_
      show Goes _ _ _ _ _ _ _ (T5.setTop (mkF m 71 _ [(.int ((((p1).toUInt64 >>> ((32 : Int32) &&& 0x3f).toInt64.toUInt64).toInt64).toInt32).toInt8.toInt32), (.int (4 : Int32)), (.ref ar21)]))
      obtain ⟨T6, h6, X6, e6, W6, A6, st6⟩ := own_stB X5 hx hZ e5 f_4 (j := (4 : Int32)) (x := ((((p1).toUInt64 >>> ((32 : Int32) &&& 0x3f).toInt64.toUInt64).toInt64).toInt32).toInt8.toInt32) (by decide) (show (4 : Nat) < 8 by decide) (g := (mkF m 71 #[.val (.int p0), .val (.long p1), .second, .val (.int (1 : Int32)), .val (.int (1 : Int32)), .val (.ref ar21), .unset, .unset, .unset, .unset, .unset] [(.int ((((p1).toUInt64 >>> ((32 : Int32) &&& 0x3f).toInt64.toUInt64).toInt64).toInt32).toInt8.toInt32), (.int (4 : Int32)), (.ref ar21)])) rfl rfl (hb hby at_71)
      rw [own_nar8] at A6
      have N6 := Fr.snoc X6 N5 ge_ar21
      have Z6 : n0 ≤ h6.size := by rw [W6.size]; exact Z5
      have f_5 : Arl Z h6 ar21 .byte [(.int ((p1).toInt32).toInt8.toInt32), (.int ((((p1).toUInt64 >>> ((8 : Int32) &&& 0x3f).toInt64.toUInt64).toInt64).toInt32).toInt8.toInt32), (.int ((((p1).toUInt64 >>> ((16 : Int32) &&& 0x3f).toInt64.toUInt64).toInt64).toInt32).toInt8.toInt32), (.int ((((p1).toUInt64 >>> ((24 : Int32) &&& 0x3f).toInt64.toUInt64).toInt64).toInt32).toInt8.toInt32), (.int ((((p1).toUInt64 >>> ((32 : Int32) &&& 0x3f).toInt64.toUInt64).toInt64).toInt32).toInt8.toInt32), (.int (0 : Int32)), (.int (0 : Int32)), (.int (0 : Int32))] := A6
      refine Goes.go (st6) ?_
      show Goes _ _ _ _ _ _ _ (T6.setTop (mkF m 72 _ []))
      refine Goes.go (fun _ k => XS.aload X6.here hx rfl (hb hby at_72) rfl rfl k) ?_
      show Goes _ _ _ _ _ _ _ (T6.setTop (mkF m 74 _ [(.ref ar21)]))
      refine Goes.go (fun _ k => XS.iconst X6.here hx rfl (hb hby at_74) k) ?_
      show Goes _ _ _ _ _ _ _ (T6.setTop (mkF m 75 _ [(.int (5 : Int32)), (.ref ar21)]))
      refine Goes.go (fun _ k => XS.lloadN X6.here hx rfl (hb hby at_75) rfl k) ?_
      show Goes _ _ _ _ _ _ _ (T6.setTop (mkF m 76 _ [(.long p1), (.int (5 : Int32)), (.ref ar21)]))
      refine Goes.go (fun _ k => XS.bipush X6.here hx rfl (hb hby at_76) k) ?_
      show Goes _ _ _ _ _ _ _ (T6.setTop (mkF m 78 _ [(.int (40 : Int32)), (.long p1), (.int (5 : Int32)), (.ref ar21)]))
      refine Goes.go (fun _ k => XS.lushr X6.here hx rfl (hb hby at_78) rfl k) ?_
      show Goes _ _ _ _ _ _ _ (T6.setTop (mkF m 79 _ [(.long ((p1).toUInt64 >>> ((40 : Int32) &&& 0x3f).toInt64.toUInt64).toInt64), (.int (5 : Int32)), (.ref ar21)]))
      refine Goes.go (fun _ k => XS.l2i X6.here hx rfl (hb hby at_79) rfl k) ?_
      show Goes _ _ _ _ _ _ _ (T6.setTop (mkF m 80 _ [(.int (((p1).toUInt64 >>> ((40 : Int32) &&& 0x3f).toInt64.toUInt64).toInt64).toInt32), (.int (5 : Int32)), (.ref ar21)]))
      refine Goes.go (fun _ k => XS.i2b X6.here hx rfl (hb hby at_80) rfl k) ?_
      show Goes _ _ _ _ _ _ _ (T6.setTop (mkF m 81 _ [(.int ((((p1).toUInt64 >>> ((40 : Int32) &&& 0x3f).toInt64.toUInt64).toInt64).toInt32).toInt8.toInt32), (.int (5 : Int32)), (.ref ar21)]))
      obtain ⟨T7, h7, X7, e7, W7, A7, st7⟩ := own_stB X6 hx hZ e6 f_5 (j := (5 : Int32)) (x := ((((p1).toUInt64 >>> ((40 : Int32) &&& 0x3f).toInt64.toUInt64).toInt64).toInt32).toInt8.toInt32) (by decide) (show (5 : Nat) < 8 by decide) (g := (mkF m 81 #[.val (.int p0), .val (.long p1), .second, .val (.int (1 : Int32)), .val (.int (1 : Int32)), .val (.ref ar21), .unset, .unset, .unset, .unset, .unset] [(.int ((((p1).toUInt64 >>> ((40 : Int32) &&& 0x3f).toInt64.toUInt64).toInt64).toInt32).toInt8.toInt32), (.int (5 : Int32)), (.ref ar21)])) rfl rfl (hb hby at_81)
      rw [own_nar8] at A7
      have N7 := Fr.snoc X7 N6 ge_ar21
      have Z7 : n0 ≤ h7.size := by rw [W7.size]; exact Z6
      have f_6 : Arl Z h7 ar21 .byte [(.int ((p1).toInt32).toInt8.toInt32), (.int ((((p1).toUInt64 >>> ((8 : Int32) &&& 0x3f).toInt64.toUInt64).toInt64).toInt32).toInt8.toInt32), (.int ((((p1).toUInt64 >>> ((16 : Int32) &&& 0x3f).toInt64.toUInt64).toInt64).toInt32).toInt8.toInt32), (.int ((((p1).toUInt64 >>> ((24 : Int32) &&& 0x3f).toInt64.toUInt64).toInt64).toInt32).toInt8.toInt32), (.int ((((p1).toUInt64 >>> ((32 : Int32) &&& 0x3f).toInt64.toUInt64).toInt64).toInt32).toInt8.toInt32), (.int ((((p1).toUInt64 >>> ((40 : Int32) &&& 0x3f).toInt64.toUInt64).toInt64).toInt32).toInt8.toInt32), (.int (0 : Int32)), (.int (0 : Int32))] := A7
      refine Goes.go (st7) ?_
      show Goes _ _ _ _ _ _ _ (T7.setTop (mkF m 82 _ []))
      refine Goes.go (fun _ k => XS.aload X7.here hx rfl (hb hby at_82) rfl rfl k) ?_
      show Goes _ _ _ _ _ _ _ (T7.setTop (mkF m 84 _ [(.ref ar21)]))
      refine Goes.go (fun _ k => XS.bipush X7.here hx rfl (hb hby at_84) k) ?_
      show Goes _ _ _ _ _ _ _ (T7.setTop (mkF m 86 _ [(.int (6 : Int32)), (.ref ar21)]))
      refine Goes.go (fun _ k => XS.lloadN X7.here hx rfl (hb hby at_86) rfl k) ?_
      show Goes _ _ _ _ _ _ _ (T7.setTop (mkF m 87 _ [(.long p1), (.int (6 : Int32)), (.ref ar21)]))
      refine Goes.go (fun _ k => XS.bipush X7.here hx rfl (hb hby at_87) k) ?_
      show Goes _ _ _ _ _ _ _ (T7.setTop (mkF m 89 _ [(.int (48 : Int32)), (.long p1), (.int (6 : Int32)), (.ref ar21)]))
      refine Goes.go (fun _ k => XS.lushr X7.here hx rfl (hb hby at_89) rfl k) ?_
      show Goes _ _ _ _ _ _ _ (T7.setTop (mkF m 90 _ [(.long ((p1).toUInt64 >>> ((48 : Int32) &&& 0x3f).toInt64.toUInt64).toInt64), (.int (6 : Int32)), (.ref ar21)]))
      refine Goes.go (fun _ k => XS.l2i X7.here hx rfl (hb hby at_90) rfl k) ?_
      show Goes _ _ _ _ _ _ _ (T7.setTop (mkF m 91 _ [(.int (((p1).toUInt64 >>> ((48 : Int32) &&& 0x3f).toInt64.toUInt64).toInt64).toInt32), (.int (6 : Int32)), (.ref ar21)]))
      refine Goes.go (fun _ k => XS.i2b X7.here hx rfl (hb hby at_91) rfl k) ?_
      show Goes _ _ _ _ _ _ _ (T7.setTop (mkF m 92 _ [(.int ((((p1).toUInt64 >>> ((48 : Int32) &&& 0x3f).toInt64.toUInt64).toInt64).toInt32).toInt8.toInt32), (.int (6 : Int32)), (.ref ar21)]))
      obtain ⟨T8, h8, X8, e8, W8, A8, st8⟩ := own_stB X7 hx hZ e7 f_6 (j := (6 : Int32)) (x := ((((p1).toUInt64 >>> ((48 : Int32) &&& 0x3f).toInt64.toUInt64).toInt64).toInt32).toInt8.toInt32) (by decide) (show (6 : Nat) < 8 by decide) (g := (mkF m 92 #[.val (.int p0), .val (.long p1), .second, .val (.int (1 : Int32)), .val (.int (1 : Int32)), .val (.ref ar21), .unset, .unset, .unset, .unset, .unset] [(.int ((((p1).toUInt64 >>> ((48 : Int32) &&& 0x3f).toInt64.toUInt64).toInt64).toInt32).toInt8.toInt32), (.int (6 : Int32)), (.ref ar21)])) rfl rfl (hb hby at_92)
      rw [own_nar8] at A8
      have N8 := Fr.snoc X8 N7 ge_ar21
      have Z8 : n0 ≤ h8.size := by rw [W8.size]; exact Z7
      have f_7 : Arl Z h8 ar21 .byte [(.int ((p1).toInt32).toInt8.toInt32), (.int ((((p1).toUInt64 >>> ((8 : Int32) &&& 0x3f).toInt64.toUInt64).toInt64).toInt32).toInt8.toInt32), (.int ((((p1).toUInt64 >>> ((16 : Int32) &&& 0x3f).toInt64.toUInt64).toInt64).toInt32).toInt8.toInt32), (.int ((((p1).toUInt64 >>> ((24 : Int32) &&& 0x3f).toInt64.toUInt64).toInt64).toInt32).toInt8.toInt32), (.int ((((p1).toUInt64 >>> ((32 : Int32) &&& 0x3f).toInt64.toUInt64).toInt64).toInt32).toInt8.toInt32), (.int ((((p1).toUInt64 >>> ((40 : Int32) &&& 0x3f).toInt64.toUInt64).toInt64).toInt32).toInt8.toInt32), (.int ((((p1).toUInt64 >>> ((48 : Int32) &&& 0x3f).toInt64.toUInt64).toInt64).toInt32).toInt8.toInt32), (.int (0 : Int32))] := A8
      refine Goes.go (st8) ?_
      show Goes _ _ _ _ _ _ _ (T8.setTop (mkF m 93 _ []))
      refine Goes.go (fun _ k => XS.aload X8.here hx rfl (hb hby at_93) rfl rfl k) ?_
      show Goes _ _ _ _ _ _ _ (T8.setTop (mkF m 95 _ [(.ref ar21)]))
      refine Goes.go (fun _ k => XS.bipush X8.here hx rfl (hb hby at_95) k) ?_
      show Goes _ _ _ _ _ _ _ (T8.setTop (mkF m 97 _ [(.int (7 : Int32)), (.ref ar21)]))
      refine Goes.go (fun _ k => XS.lloadN X8.here hx rfl (hb hby at_97) rfl k) ?_
      show Goes _ _ _ _ _ _ _ (T8.setTop (mkF m 98 _ [(.long p1), (.int (7 : Int32)), (.ref ar21)]))
      refine Goes.go (fun _ k => XS.bipush X8.here hx rfl (hb hby at_98) k) ?_
      show Goes _ _ _ _ _ _ _ (T8.setTop (mkF m 100 _ [(.int (56 : Int32)), (.long p1), (.int (7 : Int32)), (.ref ar21)]))
      refine Goes.go (fun _ k => XS.lushr X8.here hx rfl (hb hby at_100) rfl k) ?_
      show Goes _ _ _ _ _ _ _ (T8.setTop (mkF m 101 _ [(.long ((p1).toUInt64 >>> ((56 : Int32) &&& 0x3f).toInt64.toUInt64).toInt64), (.int (7 : Int32)), (.ref ar21)]))
      refine Goes.go (fun _ k => XS.l2i X8.here hx rfl (hb hby at_101) rfl k) ?_
      show Goes _ _ _ _ _ _ _ (T8.setTop (mkF m 102 _ [(.int (((p1).toUInt64 >>> ((56 : Int32) &&& 0x3f).toInt64.toUInt64).toInt64).toInt32), (.int (7 : Int32)), (.ref ar21)]))
      refine Goes.go (fun _ k => XS.i2b X8.here hx rfl (hb hby at_102) rfl k) ?_
      show Goes _ _ _ _ _ _ _ (T8.setTop (mkF m 103 _ [(.int ((((p1).toUInt64 >>> ((56 : Int32) &&& 0x3f).toInt64.toUInt64).toInt64).toInt32).toInt8.toInt32), (.int (7 : Int32)), (.ref ar21)]))
      obtain ⟨T9, h9, X9, e9, W9, A9, st9⟩ := own_stB X8 hx hZ e8 f_7 (j := (7 : Int32)) (x := ((((p1).toUInt64 >>> ((56 : Int32) &&& 0x3f).toInt64.toUInt64).toInt64).toInt32).toInt8.toInt32) (by decide) (show (7 : Nat) < 8 by decide) (g := (mkF m 103 #[.val (.int p0), .val (.long p1), .second, .val (.int (1 : Int32)), .val (.int (1 : Int32)), .val (.ref ar21), .unset, .unset, .unset, .unset, .unset] [(.int ((((p1).toUInt64 >>> ((56 : Int32) &&& 0x3f).toInt64.toUInt64).toInt64).toInt32).toInt8.toInt32), (.int (7 : Int32)), (.ref ar21)])) rfl rfl (hb hby at_103)
      rw [own_nar8] at A9
      have N9 := Fr.snoc X9 N8 ge_ar21
      have Z9 : n0 ≤ h9.size := by rw [W9.size]; exact Z8
      have f_8 : Arl Z h9 ar21 .byte [(.int ((p1).toInt32).toInt8.toInt32), (.int ((((p1).toUInt64 >>> ((8 : Int32) &&& 0x3f).toInt64.toUInt64).toInt64).toInt32).toInt8.toInt32), (.int ((((p1).toUInt64 >>> ((16 : Int32) &&& 0x3f).toInt64.toUInt64).toInt64).toInt32).toInt8.toInt32), (.int ((((p1).toUInt64 >>> ((24 : Int32) &&& 0x3f).toInt64.toUInt64).toInt64).toInt32).toInt8.toInt32), (.int ((((p1).toUInt64 >>> ((32 : Int32) &&& 0x3f).toInt64.toUInt64).toInt64).toInt32).toInt8.toInt32), (.int ((((p1).toUInt64 >>> ((40 : Int32) &&& 0x3f).toInt64.toUInt64).toInt64).toInt32).toInt8.toInt32), (.int ((((p1).toUInt64 >>> ((48 : Int32) &&& 0x3f).toInt64.toUInt64).toInt64).toInt32).toInt8.toInt32), (.int ((((p1).toUInt64 >>> ((56 : Int32) &&& 0x3f).toInt64.toUInt64).toInt64).toInt32).toInt8.toInt32)] := A9
      refine Goes.go (st9) ?_
      show Goes _ _ _ _ _ _ _ (T9.setTop (mkF m 104 _ []))
      refine Goes.go (fun _ k => XS.iload X9.here hx rfl (hb hby at_104) rfl k) ?_
      show Goes _ _ _ _ _ _ _ (T9.setTop (mkF m 106 _ [(.int (1 : Int32))]))
      refine Goes.go (fun _ k => XS.ifNo X9.here hx rfl (hb hby at_106) rfl (XT.i0_eq_f (by decide)) k) ?_
      show Goes _ _ _ _ _ _ _ (T9.setTop (mkF m 109 _ []))
      refine Goes.go (fun _ k => XS.iconst X9.here hx rfl (hb hby at_109) k) ?_
      show Goes _ _ _ _ _ _ _ (T9.setTop (mkF m 110 _ [(.int (2 : Int32))]))
      refine Goes.go (fun _ k => XS.goto X9.here hx rfl (pc0 := 110) (pc' := 114) rfl (hb hby at_110) (by decide) (by decide) k) ?_
      show Goes _ _ _ _ _ _ _ (T9.setTop (mkF m 114 _ [(.int (2 : Int32))]))
      refine Goes.go (fun _ k => XS.istore X9.here hx rfl (hb hby at_114) rfl (l' := #[.val (.int p0), .val (.long p1), .second, .val (.int (1 : Int32)), .val (.int (1 : Int32)), .val (.ref ar21), .val (.int (2 : Int32)), .unset, .unset, .unset, .unset]) rfl k) ?_
      show Goes _ _ _ _ _ _ _ (T9.setTop (mkF m 116 #[.val (.int p0), .val (.long p1), .second, .val (.int (1 : Int32)), .val (.int (1 : Int32)), .val (.ref ar21), .val (.int (2 : Int32)), .unset, .unset, .unset, .unset] []))
      refine Goes.go (fun _ k => XS.bipush X9.here hx rfl (hb hby at_116) k) ?_
      show Goes _ _ _ _ _ _ _ (T9.setTop (mkF m 118 _ [(.int (8 : Int32))]))
      refine Goes.go (fun _ k => XS.iload X9.here hx rfl (hb hby at_118) rfl k) ?_
      show Goes _ _ _ _ _ _ _ (T9.setTop (mkF m 120 _ [(.int (2 : Int32)), (.int (8 : Int32))]))
      refine Goes.go (fun _ k => XS.isub X9.here hx rfl (hb hby at_120) rfl k) ?_
      show Goes _ _ _ _ _ _ _ (T9.setTop (mkF m 121 _ [(.int (6 : Int32))]))
      refine Goes.go (fun _ k => XS.iloadN X9.here hx rfl (hb hby at_121) rfl k) ?_
      show Goes _ _ _ _ _ _ _ (T9.setTop (mkF m 122 _ [(.int (1 : Int32)), (.int (6 : Int32))]))
      refine Goes.go (fun _ k => XS.isub X9.here hx rfl (hb hby at_122) rfl k) ?_
      show Goes _ _ _ _ _ _ _ (T9.setTop (mkF m 123 _ [(.int (5 : Int32))]))
      refine Goes.go (fun _ k => XS.istore X9.here hx rfl (hb hby at_123) rfl (l' := #[.val (.int p0), .val (.long p1), .second, .val (.int (1 : Int32)), .val (.int (1 : Int32)), .val (.ref ar21), .val (.int (2 : Int32)), .val (.int (5 : Int32)), .unset, .unset, .unset]) rfl k) ?_
      show Goes _ _ _ _ _ _ _ (T9.setTop (mkF m 125 #[.val (.int p0), .val (.long p1), .second, .val (.int (1 : Int32)), .val (.int (1 : Int32)), .val (.ref ar21), .val (.int (2 : Int32)), .val (.int (5 : Int32)), .unset, .unset, .unset] []))
      refine Goes.go (fun _ k => XS.iloadN X9.here hx rfl (hb hby at_125) rfl k) ?_
      show Goes _ _ _ _ _ _ _ (T9.setTop (mkF m 126 _ [(.int (1 : Int32))]))
      refine Goes.go (fun _ k => XS.iconst X9.here hx rfl (hb hby at_126) k) ?_
      show Goes _ _ _ _ _ _ _ (T9.setTop (mkF m 127 _ [(.int (1 : Int32)), (.int (1 : Int32))]))
      refine Goes.go (fun _ k => XS.icmpNo X9.here hx rfl (hb hby at_127) rfl (XT.ii_lt_f (by decide)) k) ?_
      show Goes _ _ _ _ _ _ _ (T9.setTop (mkF m 130 _ []))
      refine Goes.go (fun _ k => XS.aload X9.here hx rfl (hb hby at_130) rfl rfl k) ?_
      show Goes _ _ _ _ _ _ _ (T9.setTop (mkF m 132 _ [(.ref ar21)]))
      refine Goes.go (fun _ k => XS.iload X9.here hx rfl (hb hby at_132) rfl k) ?_
      show Goes _ _ _ _ _ _ _ (T9.setTop (mkF m 134 _ [(.int (5 : Int32)), (.ref ar21)]))
      refine Goes.go (fun _ k => XS.aload X9.here hx rfl (hb hby at_134) rfl rfl k) ?_
      show Goes _ _ _ _ _ _ _ (T9.setTop (mkF m 136 _ [(.ref ar21), (.int (5 : Int32)), (.ref ar21)]))
      refine Goes.go (fun _ k => XS.iload X9.here hx rfl (hb hby at_136) rfl k) ?_
      show Goes _ _ _ _ _ _ _ (T9.setTop (mkF m 138 _ [(.int (5 : Int32)), (.ref ar21), (.int (5 : Int32)), (.ref ar21)]))
      refine Goes.go (own_ldB X9 hx hZ e9 f_8 (j := (5 : Int32)) (v := (.int ((((p1).toUInt64 >>> ((40 : Int32) &&& 0x3f).toInt64.toUInt64).toInt64).toInt32).toInt8.toInt32)) (by decide) rfl rfl rfl (hb hby at_138)) ?_
      show Goes _ _ _ _ _ _ _ (T9.setTop (mkF m 139 _ [(.int ((((p1).toUInt64 >>> ((40 : Int32) &&& 0x3f).toInt64.toUInt64).toInt64).toInt32).toInt8.toInt32), (.int (5 : Int32)), (.ref ar21)]))
      refine Goes.go (fun _ k => XS.bipush X9.here hx rfl (hb hby at_139) k) ?_
      show Goes _ _ _ _ _ _ _ (T9.setTop (mkF m 141 _ [(.int (127 : Int32)), (.int ((((p1).toUInt64 >>> ((40 : Int32) &&& 0x3f).toInt64.toUInt64).toInt64).toInt32).toInt8.toInt32), (.int (5 : Int32)), (.ref ar21)]))
      refine Goes.go (fun _ k => XS.iand X9.here hx rfl (hb hby at_141) rfl k) ?_
      show Goes _ _ _ _ _ _ _ (T9.setTop (mkF m 142 _ [(.int (((((p1).toUInt64 >>> ((40 : Int32) &&& 0x3f).toInt64.toUInt64).toInt64).toInt32).toInt8.toInt32 &&& (127 : Int32))), (.int (5 : Int32)), (.ref ar21)]))
      refine Goes.go (fun _ k => XS.i2b X9.here hx rfl (hb hby at_142) rfl k) ?_
      show Goes _ _ _ _ _ _ _ (T9.setTop (mkF m 143 _ [(.int ((((((p1).toUInt64 >>> ((40 : Int32) &&& 0x3f).toInt64.toUInt64).toInt64).toInt32).toInt8.toInt32 &&& (127 : Int32))).toInt8.toInt32), (.int (5 : Int32)), (.ref ar21)]))
      obtain ⟨T10, h10, X10, e10, W10, A10, st10⟩ := own_stB X9 hx hZ e9 f_8 (j := (5 : Int32)) (x := ((((((p1).toUInt64 >>> ((40 : Int32) &&& 0x3f).toInt64.toUInt64).toInt64).toInt32).toInt8.toInt32 &&& (127 : Int32))).toInt8.toInt32) (by decide) (show (5 : Nat) < 8 by decide) (g := (mkF m 143 #[.val (.int p0), .val (.long p1), .second, .val (.int (1 : Int32)), .val (.int (1 : Int32)), .val (.ref ar21), .val (.int (2 : Int32)), .val (.int (5 : Int32)), .unset, .unset, .unset] [(.int ((((((p1).toUInt64 >>> ((40 : Int32) &&& 0x3f).toInt64.toUInt64).toInt64).toInt32).toInt8.toInt32 &&& (127 : Int32))).toInt8.toInt32), (.int (5 : Int32)), (.ref ar21)])) rfl rfl (hb hby at_143)
      rw [own_nar8] at A10
      have N10 := Fr.snoc X10 N9 ge_ar21
      have Z10 : n0 ≤ h10.size := by rw [W10.size]; exact Z9
      have f_9 : Arl Z h10 ar21 .byte [(.int ((p1).toInt32).toInt8.toInt32), (.int ((((p1).toUInt64 >>> ((8 : Int32) &&& 0x3f).toInt64.toUInt64).toInt64).toInt32).toInt8.toInt32), (.int ((((p1).toUInt64 >>> ((16 : Int32) &&& 0x3f).toInt64.toUInt64).toInt64).toInt32).toInt8.toInt32), (.int ((((p1).toUInt64 >>> ((24 : Int32) &&& 0x3f).toInt64.toUInt64).toInt64).toInt32).toInt8.toInt32), (.int ((((p1).toUInt64 >>> ((32 : Int32) &&& 0x3f).toInt64.toUInt64).toInt64).toInt32).toInt8.toInt32), (.int ((((((p1).toUInt64 >>> ((40 : Int32) &&& 0x3f).toInt64.toUInt64).toInt64).toInt32).toInt8.toInt32 &&& (127 : Int32))).toInt8.toInt32), (.int ((((p1).toUInt64 >>> ((48 : Int32) &&& 0x3f).toInt64.toUInt64).toInt64).toInt32).toInt8.toInt32), (.int ((((p1).toUInt64 >>> ((56 : Int32) &&& 0x3f).toInt64.toUInt64).toInt64).toInt32).toInt8.toInt32)] := A10
      refine Goes.go (st10) ?_
      show Goes _ _ _ _ _ _ _ (T10.setTop (mkF m 144 _ []))
      refine Goes.go (fun _ k => XS.iloadN X10.here hx rfl (hb hby at_144) rfl k) ?_
      show Goes _ _ _ _ _ _ _ (T10.setTop (mkF m 145 _ [(.int (1 : Int32))]))
      refine Goes.go (fun _ k => XS.iconst X10.here hx rfl (hb hby at_145) k) ?_
      show Goes _ _ _ _ _ _ _ (T10.setTop (mkF m 146 _ [(.int (2 : Int32)), (.int (1 : Int32))]))
      refine Goes.go (fun _ k => XS.icmpYes X10.here hx rfl (pc0 := 146) (pc' := 167) rfl (hb hby at_146) rfl (XT.ii_lt_t (by decide)) (by decide) (by decide) k) ?_
      show Goes _ _ _ _ _ _ _ (T10.setTop (mkF m 167 _ []))
      refine Goes.go (fun _ k => XS.iloadN X10.here hx rfl (hb hby at_167) rfl k) ?_
      show Goes _ _ _ _ _ _ _ (T10.setTop (mkF m 168 _ [(.int (1 : Int32))]))
      refine Goes.go (fun _ k => XS.iconst X10.here hx rfl (hb hby at_168) k) ?_
      show Goes _ _ _ _ _ _ _ (T10.setTop (mkF m 169 _ [(.int (3 : Int32)), (.int (1 : Int32))]))
      refine Goes.go (fun _ k => XS.icmpYes X10.here hx rfl (pc0 := 169) (pc' := 190) rfl (hb hby at_169) rfl (XT.ii_lt_t (by decide)) (by decide) (by decide) k) ?_
      show Goes _ _ _ _ _ _ _ (T10.setTop (mkF m 190 _ []))
      refine Goes.go (fun _ k => XS.iload X10.here hx rfl (hb hby at_190) rfl k) ?_
      show Goes _ _ _ _ _ _ _ (T10.setTop (mkF m 192 _ [(.int (1 : Int32))]))
      refine Goes.go (fun _ k => XS.ifNo X10.here hx rfl (hb hby at_192) rfl (XT.i0_eq_f (by decide)) k) ?_
      show Goes _ _ _ _ _ _ _ (T10.setTop (mkF m 195 _ []))
      refine Goes.go (fun _ k => XS.aload X10.here hx rfl (hb hby at_195) rfl rfl k) ?_
      show Goes _ _ _ _ _ _ _ (T10.setTop (mkF m 197 _ [(.ref ar21)]))
      refine Goes.go (fun _ k => XS.bipush X10.here hx rfl (hb hby at_197) k) ?_
      show Goes _ _ _ _ _ _ _ (T10.setTop (mkF m 199 _ [(.int (6 : Int32)), (.ref ar21)]))
      refine Goes.go (fun _ k => XS.aload X10.here hx rfl (hb hby at_199) rfl rfl k) ?_
      show Goes _ _ _ _ _ _ _ (T10.setTop (mkF m 201 _ [(.ref ar21), (.int (6 : Int32)), (.ref ar21)]))
      refine Goes.go (fun _ k => XS.bipush X10.here hx rfl (hb hby at_201) k) ?_
      show Goes _ _ _ _ _ _ _ (T10.setTop (mkF m 203 _ [(.int (6 : Int32)), (.ref ar21), (.int (6 : Int32)), (.ref ar21)]))
      refine Goes.go (own_ldB X10 hx hZ e10 f_9 (j := (6 : Int32)) (v := (.int ((((p1).toUInt64 >>> ((48 : Int32) &&& 0x3f).toInt64.toUInt64).toInt64).toInt32).toInt8.toInt32)) (by decide) rfl rfl rfl (hb hby at_203)) ?_
      show Goes _ _ _ _ _ _ _ (T10.setTop (mkF m 204 _ [(.int ((((p1).toUInt64 >>> ((48 : Int32) &&& 0x3f).toInt64.toUInt64).toInt64).toInt32).toInt8.toInt32), (.int (6 : Int32)), (.ref ar21)]))
      refine Goes.go (fun _ k => XS.sipush X10.here hx rfl (hb hby at_204) k) ?_
      show Goes _ _ _ _ _ _ _ (T10.setTop (mkF m 207 _ [(.int (128 : Int32)), (.int ((((p1).toUInt64 >>> ((48 : Int32) &&& 0x3f).toInt64.toUInt64).toInt64).toInt32).toInt8.toInt32), (.int (6 : Int32)), (.ref ar21)]))
      refine Goes.go (fun _ k => XS.ior X10.here hx rfl (hb hby at_207) rfl k) ?_
      show Goes _ _ _ _ _ _ _ (T10.setTop (mkF m 208 _ [(.int (((((p1).toUInt64 >>> ((48 : Int32) &&& 0x3f).toInt64.toUInt64).toInt64).toInt32).toInt8.toInt32 ||| (128 : Int32))), (.int (6 : Int32)), (.ref ar21)]))
      refine Goes.go (fun _ k => XS.i2b X10.here hx rfl (hb hby at_208) rfl k) ?_
      show Goes _ _ _ _ _ _ _ (T10.setTop (mkF m 209 _ [(.int ((((((p1).toUInt64 >>> ((48 : Int32) &&& 0x3f).toInt64.toUInt64).toInt64).toInt32).toInt8.toInt32 ||| (128 : Int32))).toInt8.toInt32), (.int (6 : Int32)), (.ref ar21)]))
      obtain ⟨T11, h11, X11, e11, W11, A11, st11⟩ := own_stB X10 hx hZ e10 f_9 (j := (6 : Int32)) (x := ((((((p1).toUInt64 >>> ((48 : Int32) &&& 0x3f).toInt64.toUInt64).toInt64).toInt32).toInt8.toInt32 ||| (128 : Int32))).toInt8.toInt32) (by decide) (show (6 : Nat) < 8 by decide) (g := (mkF m 209 #[.val (.int p0), .val (.long p1), .second, .val (.int (1 : Int32)), .val (.int (1 : Int32)), .val (.ref ar21), .val (.int (2 : Int32)), .val (.int (5 : Int32)), .unset, .unset, .unset] [(.int ((((((p1).toUInt64 >>> ((48 : Int32) &&& 0x3f).toInt64.toUInt64).toInt64).toInt32).toInt8.toInt32 ||| (128 : Int32))).toInt8.toInt32), (.int (6 : Int32)), (.ref ar21)])) rfl rfl (hb hby at_209)
      rw [own_nar8] at A11
      have N11 := Fr.snoc X11 N10 ge_ar21
      have Z11 : n0 ≤ h11.size := by rw [W11.size]; exact Z10
      have f_10 : Arl Z h11 ar21 .byte [(.int ((p1).toInt32).toInt8.toInt32), (.int ((((p1).toUInt64 >>> ((8 : Int32) &&& 0x3f).toInt64.toUInt64).toInt64).toInt32).toInt8.toInt32), (.int ((((p1).toUInt64 >>> ((16 : Int32) &&& 0x3f).toInt64.toUInt64).toInt64).toInt32).toInt8.toInt32), (.int ((((p1).toUInt64 >>> ((24 : Int32) &&& 0x3f).toInt64.toUInt64).toInt64).toInt32).toInt8.toInt32), (.int ((((p1).toUInt64 >>> ((32 : Int32) &&& 0x3f).toInt64.toUInt64).toInt64).toInt32).toInt8.toInt32), (.int ((((((p1).toUInt64 >>> ((40 : Int32) &&& 0x3f).toInt64.toUInt64).toInt64).toInt32).toInt8.toInt32 &&& (127 : Int32))).toInt8.toInt32), (.int ((((((p1).toUInt64 >>> ((48 : Int32) &&& 0x3f).toInt64.toUInt64).toInt64).toInt32).toInt8.toInt32 ||| (128 : Int32))).toInt8.toInt32), (.int ((((p1).toUInt64 >>> ((56 : Int32) &&& 0x3f).toInt64.toUInt64).toInt64).toInt32).toInt8.toInt32)] := A11
      refine Goes.go (st11) ?_
      show Goes _ _ _ _ _ _ _ (T11.setTop (mkF m 210 _ []))
      refine Goes.go (fun _ k => XS.aload X11.here hx rfl (hb hby at_210) rfl rfl k) ?_
      show Goes _ _ _ _ _ _ _ (T11.setTop (mkF m 212 _ [(.ref ar21)]))
      refine Goes.go (fun _ k => XS.bipush X11.here hx rfl (hb hby at_212) k) ?_
      show Goes _ _ _ _ _ _ _ (T11.setTop (mkF m 214 _ [(.int (7 : Int32)), (.ref ar21)]))
      refine Goes.go (fun _ k => XS.aload X11.here hx rfl (hb hby at_214) rfl rfl k) ?_
      show Goes _ _ _ _ _ _ _ (T11.setTop (mkF m 216 _ [(.ref ar21), (.int (7 : Int32)), (.ref ar21)]))
      refine Goes.go (fun _ k => XS.bipush X11.here hx rfl (hb hby at_216) k) ?_
      show Goes _ _ _ _ _ _ _ (T11.setTop (mkF m 218 _ [(.int (7 : Int32)), (.ref ar21), (.int (7 : Int32)), (.ref ar21)]))
      refine Goes.go (own_ldB X11 hx hZ e11 f_10 (j := (7 : Int32)) (v := (.int ((((p1).toUInt64 >>> ((56 : Int32) &&& 0x3f).toInt64.toUInt64).toInt64).toInt32).toInt8.toInt32)) (by decide) rfl rfl rfl (hb hby at_218)) ?_
      show Goes _ _ _ _ _ _ _ (T11.setTop (mkF m 219 _ [(.int ((((p1).toUInt64 >>> ((56 : Int32) &&& 0x3f).toInt64.toUInt64).toInt64).toInt32).toInt8.toInt32), (.int (7 : Int32)), (.ref ar21)]))
      refine Goes.go (fun _ k => XS.bipush X11.here hx rfl (hb hby at_219) k) ?_
      show Goes _ _ _ _ _ _ _ (T11.setTop (mkF m 221 _ [(.int (127 : Int32)), (.int ((((p1).toUInt64 >>> ((56 : Int32) &&& 0x3f).toInt64.toUInt64).toInt64).toInt32).toInt8.toInt32), (.int (7 : Int32)), (.ref ar21)]))
      refine Goes.go (fun _ k => XS.iand X11.here hx rfl (hb hby at_221) rfl k) ?_
      show Goes _ _ _ _ _ _ _ (T11.setTop (mkF m 222 _ [(.int (((((p1).toUInt64 >>> ((56 : Int32) &&& 0x3f).toInt64.toUInt64).toInt64).toInt32).toInt8.toInt32 &&& (127 : Int32))), (.int (7 : Int32)), (.ref ar21)]))
      refine Goes.go (fun _ k => XS.i2b X11.here hx rfl (hb hby at_222) rfl k) ?_
      show Goes _ _ _ _ _ _ _ (T11.setTop (mkF m 223 _ [(.int ((((((p1).toUInt64 >>> ((56 : Int32) &&& 0x3f).toInt64.toUInt64).toInt64).toInt32).toInt8.toInt32 &&& (127 : Int32))).toInt8.toInt32), (.int (7 : Int32)), (.ref ar21)]))
      obtain ⟨T12, h12, X12, e12, W12, A12, st12⟩ := own_stB X11 hx hZ e11 f_10 (j := (7 : Int32)) (x := ((((((p1).toUInt64 >>> ((56 : Int32) &&& 0x3f).toInt64.toUInt64).toInt64).toInt32).toInt8.toInt32 &&& (127 : Int32))).toInt8.toInt32) (by decide) (show (7 : Nat) < 8 by decide) (g := (mkF m 223 #[.val (.int p0), .val (.long p1), .second, .val (.int (1 : Int32)), .val (.int (1 : Int32)), .val (.ref ar21), .val (.int (2 : Int32)), .val (.int (5 : Int32)), .unset, .unset, .unset] [(.int ((((((p1).toUInt64 >>> ((56 : Int32) &&& 0x3f).toInt64.toUInt64).toInt64).toInt32).toInt8.toInt32 &&& (127 : Int32))).toInt8.toInt32), (.int (7 : Int32)), (.ref ar21)])) rfl rfl (hb hby at_223)
      rw [own_nar8] at A12
      have N12 := Fr.snoc X12 N11 ge_ar21
      have Z12 : n0 ≤ h12.size := by rw [W12.size]; exact Z11
      have f_11 : Arl Z h12 ar21 .byte [(.int ((p1).toInt32).toInt8.toInt32), (.int ((((p1).toUInt64 >>> ((8 : Int32) &&& 0x3f).toInt64.toUInt64).toInt64).toInt32).toInt8.toInt32), (.int ((((p1).toUInt64 >>> ((16 : Int32) &&& 0x3f).toInt64.toUInt64).toInt64).toInt32).toInt8.toInt32), (.int ((((p1).toUInt64 >>> ((24 : Int32) &&& 0x3f).toInt64.toUInt64).toInt64).toInt32).toInt8.toInt32), (.int ((((p1).toUInt64 >>> ((32 : Int32) &&& 0x3f).toInt64.toUInt64).toInt64).toInt32).toInt8.toInt32), (.int ((((((p1).toUInt64 >>> ((40 : Int32) &&& 0x3f).toInt64.toUInt64).toInt64).toInt32).toInt8.toInt32 &&& (127 : Int32))).toInt8.toInt32), (.int ((((((p1).toUInt64 >>> ((48 : Int32) &&& 0x3f).toInt64.toUInt64).toInt64).toInt32).toInt8.toInt32 ||| (128 : Int32))).toInt8.toInt32), (.int ((((((p1).toUInt64 >>> ((56 : Int32) &&& 0x3f).toInt64.toUInt64).toInt64).toInt32).toInt8.toInt32 &&& (127 : Int32))).toInt8.toInt32)] := A12
      refine Goes.go (st12) ?_
      show Goes _ _ _ _ _ _ _ (T12.setTop (mkF m 224 _ []))
      obtain ⟨T13, h13, X13, e13, E13, A13, D13, -, st13⟩ := newO X12 hx hZ hown (hw _ (List.mem_of_getElem? (i := 1) rfl)) (hw _ (List.mem_of_getElem? (i := 2) rfl)) (hw _ (List.mem_of_getElem? (i := 3) rfl)) e12 (g := (mkF m 224 #[.val (.int p0), .val (.long p1), .second, .val (.int (1 : Int32)), .val (.int (1 : Int32)), .val (.ref ar21), .val (.int (2 : Int32)), .val (.int (5 : Int32)), .unset, .unset, .unset] [])) rfl (hb hby at_224) (by decide) (by decide)
      obtain ⟨ob224, gob224⟩ : ∃ z, z = h12.size := ⟨_, rfl⟩
      rw [← gob224] at A13 D13 st13
      have ne_ar21_ob224 : ar21 ≠ ob224 := by rw [gob224]; exact Nat.ne_of_lt f_11.lt
      have f_12 := f_11.ext E13
      have Z13 : n0 ≤ h13.size := Nat.le_trans Z12 E13.1
      have ge_ob224 : n0 ≤ ob224 := Nat.le_trans Z12 (Nat.le_of_eq gob224.symm)
      have f_13 : Fld Z h13 ob224 "com/example/countermand/countermand/Packed$Reader" "in" "[B" .null := D13 (Or.inr (hw _ (List.mem_of_getElem? (i := 11) rfl))) (ty := (.array .byte)) (by decide)
      have f_14 : Fld Z h13 ob224 "com/example/countermand/countermand/Packed$Reader" "position" "I" (.int (0 : Int32)) := D13 (Or.inl (hw _ (List.mem_of_getElem? (i := 13) rfl))) (ty := .int) (by decide)
      refine Goes.go (st13) ?_
      show Goes _ _ _ _ _ _ _ (T13.setTop (mkF m 227 _ [(.ref ob224)]))
      refine Goes.go (fun _ k => XS.dup X13.here hx rfl (hb hby at_227) rfl rfl k) ?_
      show Goes _ _ _ _ _ _ _ (T13.setTop (mkF m 228 _ [(.ref ob224), (.ref ob224)]))
      refine Goes.go (fun _ k => XS.aload X13.here hx rfl (hb hby at_228) rfl rfl k) ?_
      show Goes _ _ _ _ _ _ _ (T13.setTop (mkF m 230 _ [(.ref ar21), (.ref ob224), (.ref ob224)]))
      refine Goes.go (fun _ k => XS.iload X13.here hx rfl (hb hby at_230) rfl k) ?_
      show Goes _ _ _ _ _ _ _ (T13.setTop (mkF m 232 _ [(.int (5 : Int32)), (.ref ar21), (.ref ob224), (.ref ob224)]))
      obtain ⟨_, _, ⟨T14, L14, k14, n14⟩, -, X14, ⟨Lc14, hQ14, l14, y14, z14⟩, st14⟩ := X13.specialBack hx (y := (⟨"com/example/countermand/countermand/Packed$Reader", "<init>", "([BI)V"⟩ : MethodName)) rfl hown (mvT hZ (hw _ (List.mem_of_getElem? (i := 4) rfl))) (mvT hZ (hw _ (List.mem_of_getElem? (i := 5) rfl))) (mvT hZ (hw _ (List.mem_of_getElem? (i := 6) rfl))) (by decide) (backOf (W := 1) (rm1 l Z a0 hw [] ob224 ar21 (5 : Int32) h13 n0 Z13 A13 f_13 f_14 ge_ob224) hZ (hw _ (List.mem_of_getElem? (i := 6) rfl)) (hw _ (List.mem_of_getElem? (i := 3) rfl)) (by decide) (by decide)) (g := (mkF m 232 #[.val (.int p0), .val (.long p1), .second, .val (.int (1 : Int32)), .val (.int (1 : Int32)), .val (.ref ar21), .val (.int (2 : Int32)), .val (.int (5 : Int32)), .unset, .unset, .unset] [(.int (5 : Int32)), (.ref ar21), (.ref ob224), (.ref ob224)])) rfl (by rw [hml]; rfl) (Steps.refl _) (a := ob224) (argsL := [(.ref ar21), (.int (5 : Int32))]) (rest := [(.ref ob224)]) (lenOf pd0 rfl) rfl (by show 2 * 0 + _ ≤ _; exact Nat.le_of_eq rfl) (hb hby at_232) (fun _ _ => ⟨rfl, e13, (by decide : 2 + 0 ≤ _), (by decide : 10 + 0 ≤ _)⟩)
      dsimp only [Pt.U, Pt.locs, Pt.cells, Pt.slots] at X14 l14 y14 z14 st14 hQ14
      subst l14 y14 z14
      obtain ⟨rfl, Nq14, Kq14, Eq14, Fq14_0, Fq14_1⟩ := hQ14
      have N14 := Fr.app N12 Nq14
      have Z14 : n0 ≤ T14.heap.size := Nat.le_trans Z13 Kq14.1
      have f_15 := Arl.keep f_12 Kq14 (ninS ne_ar21_ob224 nin0)
      refine Goes.go (fun _ k => st14.trans k) ?_
      show Goes _ _ _ _ _ _ _ (T14.setTop (mkF m 235 _ [(.ref ob224)]))
      refine Goes.go (fun _ k => XS.astore X14.here hx rfl (hb hby at_235) rfl rfl (l' := #[.val (.int p0), .val (.long p1), .second, .val (.int (1 : Int32)), .val (.int (1 : Int32)), .val (.ref ar21), .val (.int (2 : Int32)), .val (.int (5 : Int32)), .val (.ref ob224), .unset, .unset]) rfl k) ?_
      show Goes _ _ _ _ _ _ _ (T14.setTop (mkF m 237 #[.val (.int p0), .val (.long p1), .second, .val (.int (1 : Int32)), .val (.int (1 : Int32)), .val (.ref ar21), .val (.int (2 : Int32)), .val (.int (5 : Int32)), .val (.ref ob224), .unset, .unset] []))
      refine Goes.go (fun _ k => XS.iconst X14.here hx rfl (hb hby at_237) k) ?_
      show Goes _ _ _ _ _ _ _ (T14.setTop (mkF m 238 _ [(.int (1 : Int32))]))
      refine Goes.go (fun _ k => XS.istore X14.here hx rfl (hb hby at_238) rfl (l' := #[.val (.int p0), .val (.long p1), .second, .val (.int (1 : Int32)), .val (.int (1 : Int32)), .val (.ref ar21), .val (.int (2 : Int32)), .val (.int (5 : Int32)), .val (.ref ob224), .val (.int (1 : Int32)), .unset]) rfl k) ?_
      show Goes _ _ _ _ _ _ _ (T14.setTop (mkF m 240 #[.val (.int p0), .val (.long p1), .second, .val (.int (1 : Int32)), .val (.int (1 : Int32)), .val (.ref ar21), .val (.int (2 : Int32)), .val (.int (5 : Int32)), .val (.ref ob224), .val (.int (1 : Int32)), .unset] []))
      refine Goes.go (fun _ k => XS.iloadN X14.here hx rfl (hb hby at_240) rfl k) ?_
      show Goes _ _ _ _ _ _ _ (T14.setTop (mkF m 241 _ [(.int (1 : Int32))]))
      refine Goes.go (fun _ k => XS.iconst X14.here hx rfl (hb hby at_241) k) ?_
      show Goes _ _ _ _ _ _ _ (T14.setTop (mkF m 242 _ [(.int (1 : Int32)), (.int (1 : Int32))]))
      refine Goes.go (fun _ k => XS.icmpNo X14.here hx rfl (hb hby at_242) rfl (XT.ii_lt_f (by decide)) k) ?_
      show Goes _ _ _ _ _ _ _ (T14.setTop (mkF m 245 _ []))
      refine Goes.go (fun _ k => XS.iload X14.here hx rfl (hb hby at_245) rfl k) ?_
      show Goes _ _ _ _ _ _ _ (T14.setTop (mkF m 247 _ [(.int (1 : Int32))]))
      refine Goes.go (fun _ k => XS.ifNo X14.here hx rfl (hb hby at_247) rfl (XT.i0_eq_f (by decide)) k) ?_
      show Goes _ _ _ _ _ _ _ (T14.setTop (mkF m 250 _ []))
      refine Goes.go (fun _ k => XS.aload X14.here hx rfl (hb hby at_250) rfl rfl k) ?_
      show Goes _ _ _ _ _ _ _ (T14.setTop (mkF m 252 _ [(.ref ob224)]))
      obtain ⟨cq15, kq15, qa15, qb15, qc15⟩ := isOf hZ rfl Eq14
      obtain ⟨_, _, ⟨T15, L15, k15, n15⟩, -, X15, ⟨Lc15, hQ15, l15, y15, z15⟩, st15⟩ := X14.virtualBack hx (y := (⟨"com/example/countermand/countermand/Packed$Reader", "count", "()I"⟩ : MethodName)) (z := (⟨"com/example/countermand/countermand/Packed$Reader", "count", "()I"⟩ : MethodName)) hown (mvT hZ (hw _ (List.mem_of_getElem? (i := 19) rfl))) (mvT hZ (hw _ (List.mem_of_getElem? (i := 20) rfl))) (notFace_of_selects (args := #[]) (mvT hZ (hw _ (List.mem_of_getElem? (i := 22) rfl)))) (mvT hZ (hw _ (List.mem_of_getElem? (i := 22) rfl))) (mvT hZ (hw _ (List.mem_of_getElem? (i := 21) rfl))) (by decide) (backOf (W := 0) (rm4 l Z a0 hw [] ob224 ar21 _ (5 : Int32) [((((((p1).toUInt64 >>> ((40 : Int32) &&& 0x3f).toInt64.toUInt64).toInt64).toInt32).toInt8.toInt32 &&& (127 : Int32))).toInt8.toInt32] T14.heap n0 Z14 Eq14 Fq14_0 Fq14_1 ge_ob224 f_15 ⟨by decide, rfl, own_lo8 (((((p1).toUInt64 >>> ((40 : Int32) &&& 0x3f).toInt64.toUInt64).toInt64).toInt32).toInt8)⟩ (fit_1 (((((p1).toUInt64 >>> ((40 : Int32) &&& 0x3f).toInt64.toUInt64).toInt64).toInt32).toInt8))) hZ (hw _ (List.mem_of_getElem? (i := 23) rfl)) (hw _ (List.mem_of_getElem? (i := 3) rfl)) (by decide) (by decide)) qa15 qc15 (g := (mkF m 252 #[.val (.int p0), .val (.long p1), .second, .val (.int (1 : Int32)), .val (.int (1 : Int32)), .val (.ref ar21), .val (.int (2 : Int32)), .val (.int (5 : Int32)), .val (.ref ob224), .val (.int (1 : Int32)), .unset] [(.ref ob224)])) rfl (by rw [hml]; rfl) (Steps.refl _) (argsL := []) (rest := []) (lenOf pd2 rfl) rfl (by show 2 * 0 + _ ≤ _; exact Nat.le_of_eq rfl) (hb hby at_252) (fun _ _ => ⟨rfl, rfl, (by decide : 2 + 0 ≤ _), (by decide : 10 + 0 ≤ _)⟩)
      dsimp only [Pt.U, Pt.locs, Pt.cells, Pt.slots] at X15 l15 y15 z15 st15 hQ15
      subst l15 y15 z15
      obtain ⟨rfl, Nq15, Kq15, Eq15, Fq15_0, Fq15_1⟩ := hQ15
      have N15 := Fr.app N14 Nq15
      have Z15 : n0 ≤ T15.heap.size := Nat.le_trans Z14 Kq15.1
      have f_16 := Arl.keep f_15 Kq15 (ninS ne_ar21_ob224 nin0)
      refine Goes.go (fun _ k => st15.trans k) ?_
      show Goes _ _ _ _ _ _ _ (T15.setTop (mkF m 255 _ [(.int (svb [((((((p1).toUInt64 >>> ((40 : Int32) &&& 0x3f).toInt64.toUInt64).toInt64).toInt32).toInt8.toInt32 &&& (127 : Int32))).toInt8.toInt32] 0 0).toInt32)]))
      refine Goes.go (fun _ k => XS.aload X15.here hx rfl (hb hby at_255) rfl rfl k) ?_
      show Goes _ _ _ _ _ _ _ (T15.setTop (mkF m 257 _ [(.ref ar21), (.int (svb [((((((p1).toUInt64 >>> ((40 : Int32) &&& 0x3f).toInt64.toUInt64).toInt64).toInt32).toInt8.toInt32 &&& (127 : Int32))).toInt8.toInt32] 0 0).toInt32)]))
      refine Goes.go (fun _ k => XS.iload X15.here hx rfl (hb hby at_257) rfl k) ?_
      show Goes _ _ _ _ _ _ _ (T15.setTop (mkF m 259 _ [(.int (5 : Int32)), (.ref ar21), (.int (svb [((((((p1).toUInt64 >>> ((40 : Int32) &&& 0x3f).toInt64.toUInt64).toInt64).toInt32).toInt8.toInt32 &&& (127 : Int32))).toInt8.toInt32] 0 0).toInt32)]))
      refine Goes.go (own_ldB X15 hx hZ rfl f_16 (j := (5 : Int32)) (v := (.int ((((((p1).toUInt64 >>> ((40 : Int32) &&& 0x3f).toInt64.toUInt64).toInt64).toInt32).toInt8.toInt32 &&& (127 : Int32))).toInt8.toInt32)) (by decide) rfl rfl rfl (hb hby at_259)) ?_
      show Goes _ _ _ _ _ _ _ (T15.setTop (mkF m 260 _ [(.int ((((((p1).toUInt64 >>> ((40 : Int32) &&& 0x3f).toInt64.toUInt64).toInt64).toInt32).toInt8.toInt32 &&& (127 : Int32))).toInt8.toInt32), (.int (svb [((((((p1).toUInt64 >>> ((40 : Int32) &&& 0x3f).toInt64.toUInt64).toInt64).toInt32).toInt8.toInt32 &&& (127 : Int32))).toInt8.toInt32] 0 0).toInt32)]))
      refine Goes.go (fun _ k => XS.icmpNo X15.here hx rfl (hb hby at_260) rfl (XT.ii_ne_f (val_1 (((((p1).toUInt64 >>> ((40 : Int32) &&& 0x3f).toInt64.toUInt64).toInt64).toInt32).toInt8))) k) ?_
      show Goes _ _ _ _ _ _ _ (T15.setTop (mkF m 263 _ []))
      refine Goes.go (fun _ k => XS.iconst X15.here hx rfl (hb hby at_263) k) ?_
      show Goes _ _ _ _ _ _ _ (T15.setTop (mkF m 264 _ [(.int (1 : Int32))]))
      refine Goes.go (fun _ k => XS.goto X15.here hx rfl (pc0 := 264) (pc' := 268) rfl (hb hby at_264) (by decide) (by decide) k) ?_
      show Goes _ _ _ _ _ _ _ (T15.setTop (mkF m 268 _ [(.int (1 : Int32))]))
      refine Goes.go (fun _ k => XS.istore X15.here hx rfl (hb hby at_268) rfl (l' := #[.val (.int p0), .val (.long p1), .second, .val (.int (1 : Int32)), .val (.int (1 : Int32)), .val (.ref ar21), .val (.int (2 : Int32)), .val (.int (5 : Int32)), .val (.ref ob224), .val (.int (1 : Int32)), .unset]) rfl k) ?_
      show Goes _ _ _ _ _ _ _ (T15.setTop (mkF m 270 _ []))
      refine Goes.go (fun _ k => XS.iloadN X15.here hx rfl (hb hby at_270) rfl k) ?_
      show Goes _ _ _ _ _ _ _ (T15.setTop (mkF m 271 _ [(.int (1 : Int32))]))
      refine Goes.go (fun _ k => XS.iconst X15.here hx rfl (hb hby at_271) k) ?_
      show Goes _ _ _ _ _ _ _ (T15.setTop (mkF m 272 _ [(.int (2 : Int32)), (.int (1 : Int32))]))
      refine Goes.go (fun _ k => XS.icmpYes X15.here hx rfl (pc0 := 272) (pc' := 302) rfl (hb hby at_272) rfl (XT.ii_lt_t (by decide)) (by decide) (by decide) k) ?_
      show Goes _ _ _ _ _ _ _ (T15.setTop (mkF m 302 _ []))
      refine Goes.go (fun _ k => XS.iloadN X15.here hx rfl (hb hby at_302) rfl k) ?_
      show Goes _ _ _ _ _ _ _ (T15.setTop (mkF m 303 _ [(.int (1 : Int32))]))
      refine Goes.go (fun _ k => XS.iconst X15.here hx rfl (hb hby at_303) k) ?_
      show Goes _ _ _ _ _ _ _ (T15.setTop (mkF m 304 _ [(.int (3 : Int32)), (.int (1 : Int32))]))
      refine Goes.go (fun _ k => XS.icmpYes X15.here hx rfl (pc0 := 304) (pc' := 334) rfl (hb hby at_304) rfl (XT.ii_lt_t (by decide)) (by decide) (by decide) k) ?_
      show Goes _ _ _ _ _ _ _ (T15.setTop (mkF m 334 _ []))
      refine Goes.go (fun _ k => XS.iload X15.here hx rfl (hb hby at_334) rfl k) ?_
      show Goes _ _ _ _ _ _ _ (T15.setTop (mkF m 336 _ [(.int (1 : Int32))]))
      refine Goes.go (fun _ k => XS.ifNo X15.here hx rfl (hb hby at_336) rfl (XT.i0_eq_f (by decide)) k) ?_
      show Goes _ _ _ _ _ _ _ (T15.setTop (mkF m 339 _ []))
      refine Goes.go (fun _ k => XS.aload X15.here hx rfl (hb hby at_339) rfl rfl k) ?_
      show Goes _ _ _ _ _ _ _ (T15.setTop (mkF m 341 _ [(.ref ar21)]))
      refine Goes.go (fun _ k => XS.bipush X15.here hx rfl (hb hby at_341) k) ?_
      show Goes _ _ _ _ _ _ _ (T15.setTop (mkF m 343 _ [(.int (6 : Int32)), (.ref ar21)]))
      refine Goes.go (own_ldB X15 hx hZ rfl f_16 (j := (6 : Int32)) (v := (.int ((((((p1).toUInt64 >>> ((48 : Int32) &&& 0x3f).toInt64.toUInt64).toInt64).toInt32).toInt8.toInt32 ||| (128 : Int32))).toInt8.toInt32)) (by decide) rfl rfl rfl (hb hby at_343)) ?_
      show Goes _ _ _ _ _ _ _ (T15.setTop (mkF m 344 _ [(.int ((((((p1).toUInt64 >>> ((48 : Int32) &&& 0x3f).toInt64.toUInt64).toInt64).toInt32).toInt8.toInt32 ||| (128 : Int32))).toInt8.toInt32)]))
      refine Goes.go (fun _ k => XS.bipush X15.here hx rfl (hb hby at_344) k) ?_
      show Goes _ _ _ _ _ _ _ (T15.setTop (mkF m 346 _ [(.int (127 : Int32)), (.int ((((((p1).toUInt64 >>> ((48 : Int32) &&& 0x3f).toInt64.toUInt64).toInt64).toInt32).toInt8.toInt32 ||| (128 : Int32))).toInt8.toInt32)]))
      refine Goes.go (fun _ k => XS.iand X15.here hx rfl (hb hby at_346) rfl k) ?_
      show Goes _ _ _ _ _ _ _ (T15.setTop (mkF m 347 _ [(.int (((((((p1).toUInt64 >>> ((48 : Int32) &&& 0x3f).toInt64.toUInt64).toInt64).toInt32).toInt8.toInt32 ||| (128 : Int32))).toInt8.toInt32 &&& (127 : Int32)))]))
      refine Goes.go (fun _ k => XS.aload X15.here hx rfl (hb hby at_347) rfl rfl k) ?_
      show Goes _ _ _ _ _ _ _ (T15.setTop (mkF m 349 _ [(.ref ar21), (.int (((((((p1).toUInt64 >>> ((48 : Int32) &&& 0x3f).toInt64.toUInt64).toInt64).toInt32).toInt8.toInt32 ||| (128 : Int32))).toInt8.toInt32 &&& (127 : Int32)))]))
      refine Goes.go (fun _ k => XS.bipush X15.here hx rfl (hb hby at_349) k) ?_
      show Goes _ _ _ _ _ _ _ (T15.setTop (mkF m 351 _ [(.int (7 : Int32)), (.ref ar21), (.int (((((((p1).toUInt64 >>> ((48 : Int32) &&& 0x3f).toInt64.toUInt64).toInt64).toInt32).toInt8.toInt32 ||| (128 : Int32))).toInt8.toInt32 &&& (127 : Int32)))]))
      refine Goes.go (own_ldB X15 hx hZ rfl f_16 (j := (7 : Int32)) (v := (.int ((((((p1).toUInt64 >>> ((56 : Int32) &&& 0x3f).toInt64.toUInt64).toInt64).toInt32).toInt8.toInt32 &&& (127 : Int32))).toInt8.toInt32)) (by decide) rfl rfl rfl (hb hby at_351)) ?_
      show Goes _ _ _ _ _ _ _ (T15.setTop (mkF m 352 _ [(.int ((((((p1).toUInt64 >>> ((56 : Int32) &&& 0x3f).toInt64.toUInt64).toInt64).toInt32).toInt8.toInt32 &&& (127 : Int32))).toInt8.toInt32), (.int (((((((p1).toUInt64 >>> ((48 : Int32) &&& 0x3f).toInt64.toUInt64).toInt64).toInt32).toInt8.toInt32 ||| (128 : Int32))).toInt8.toInt32 &&& (127 : Int32)))]))
      refine Goes.go (fun _ k => XS.bipush X15.here hx rfl (hb hby at_352) k) ?_
      show Goes _ _ _ _ _ _ _ (T15.setTop (mkF m 354 _ [(.int (7 : Int32)), (.int ((((((p1).toUInt64 >>> ((56 : Int32) &&& 0x3f).toInt64.toUInt64).toInt64).toInt32).toInt8.toInt32 &&& (127 : Int32))).toInt8.toInt32), (.int (((((((p1).toUInt64 >>> ((48 : Int32) &&& 0x3f).toInt64.toUInt64).toInt64).toInt32).toInt8.toInt32 ||| (128 : Int32))).toInt8.toInt32 &&& (127 : Int32)))]))
      refine Goes.go (fun _ k => XS.ishl X15.here hx rfl (hb hby at_354) rfl k) ?_
      show Goes _ _ _ _ _ _ _ (T15.setTop (mkF m 355 _ [(.int (((((((p1).toUInt64 >>> ((56 : Int32) &&& 0x3f).toInt64.toUInt64).toInt64).toInt32).toInt8.toInt32 &&& (127 : Int32))).toInt8.toInt32 <<< ((7 : Int32) &&& 31))), (.int (((((((p1).toUInt64 >>> ((48 : Int32) &&& 0x3f).toInt64.toUInt64).toInt64).toInt32).toInt8.toInt32 ||| (128 : Int32))).toInt8.toInt32 &&& (127 : Int32)))]))
      refine Goes.go (fun _ k => XS.ior X15.here hx rfl (hb hby at_355) rfl k) ?_
      show Goes _ _ _ _ _ _ _ (T15.setTop (mkF m 356 _ [(.int ((((((((p1).toUInt64 >>> ((48 : Int32) &&& 0x3f).toInt64.toUInt64).toInt64).toInt32).toInt8.toInt32 ||| (128 : Int32))).toInt8.toInt32 &&& (127 : Int32)) ||| (((((((p1).toUInt64 >>> ((56 : Int32) &&& 0x3f).toInt64.toUInt64).toInt64).toInt32).toInt8.toInt32 &&& (127 : Int32))).toInt8.toInt32 <<< ((7 : Int32) &&& 31))))]))
      refine Goes.go (fun _ k => XS.istore X15.here hx rfl (hb hby at_356) rfl (l' := #[.val (.int p0), .val (.long p1), .second, .val (.int (1 : Int32)), .val (.int (1 : Int32)), .val (.ref ar21), .val (.int (2 : Int32)), .val (.int (5 : Int32)), .val (.ref ob224), .val (.int (1 : Int32)), .val (.int ((((((((p1).toUInt64 >>> ((48 : Int32) &&& 0x3f).toInt64.toUInt64).toInt64).toInt32).toInt8.toInt32 ||| (128 : Int32))).toInt8.toInt32 &&& (127 : Int32)) ||| (((((((p1).toUInt64 >>> ((56 : Int32) &&& 0x3f).toInt64.toUInt64).toInt64).toInt32).toInt8.toInt32 &&& (127 : Int32))).toInt8.toInt32 <<< ((7 : Int32) &&& 31))))]) rfl k) ?_
      show Goes _ _ _ _ _ _ _ (T15.setTop (mkF m 358 #[.val (.int p0), .val (.long p1), .second, .val (.int (1 : Int32)), .val (.int (1 : Int32)), .val (.ref ar21), .val (.int (2 : Int32)), .val (.int (5 : Int32)), .val (.ref ob224), .val (.int (1 : Int32)), .val (.int ((((((((p1).toUInt64 >>> ((48 : Int32) &&& 0x3f).toInt64.toUInt64).toInt64).toInt32).toInt8.toInt32 ||| (128 : Int32))).toInt8.toInt32 &&& (127 : Int32)) ||| (((((((p1).toUInt64 >>> ((56 : Int32) &&& 0x3f).toInt64.toUInt64).toInt64).toInt32).toInt8.toInt32 &&& (127 : Int32))).toInt8.toInt32 <<< ((7 : Int32) &&& 31))))] []))
      refine Goes.go (fun _ k => XS.iload X15.here hx rfl (hb hby at_358) rfl k) ?_
      show Goes _ _ _ _ _ _ _ (T15.setTop (mkF m 360 _ [(.int (1 : Int32))]))
      refine Goes.go (fun _ k => XS.ifNo X15.here hx rfl (hb hby at_360) rfl (XT.i0_eq_f (by decide)) k) ?_
      show Goes _ _ _ _ _ _ _ (T15.setTop (mkF m 363 _ []))
      refine Goes.go (fun _ k => XS.aload X15.here hx rfl (hb hby at_363) rfl rfl k) ?_
      show Goes _ _ _ _ _ _ _ (T15.setTop (mkF m 365 _ [(.ref ob224)]))
      obtain ⟨cq16, kq16, qa16, qb16, qc16⟩ := isOf hZ rfl Eq15
      obtain ⟨_, _, ⟨T16, L16, k16, n16⟩, -, X16, ⟨Lc16, hQ16, l16, y16, z16⟩, st16⟩ := X15.virtualBack hx (y := (⟨"com/example/countermand/countermand/Packed$Reader", "count", "()I"⟩ : MethodName)) (z := (⟨"com/example/countermand/countermand/Packed$Reader", "count", "()I"⟩ : MethodName)) hown (mvT hZ (hw _ (List.mem_of_getElem? (i := 19) rfl))) (mvT hZ (hw _ (List.mem_of_getElem? (i := 20) rfl))) (notFace_of_selects (args := #[]) (mvT hZ (hw _ (List.mem_of_getElem? (i := 22) rfl)))) (mvT hZ (hw _ (List.mem_of_getElem? (i := 22) rfl))) (mvT hZ (hw _ (List.mem_of_getElem? (i := 21) rfl))) (by decide) (backOf (W := 0) (rm4 l Z a0 hw [] ob224 ar21 _ (6 : Int32) [((((((p1).toUInt64 >>> ((48 : Int32) &&& 0x3f).toInt64.toUInt64).toInt64).toInt32).toInt8.toInt32 ||| (128 : Int32))).toInt8.toInt32, ((((((p1).toUInt64 >>> ((56 : Int32) &&& 0x3f).toInt64.toUInt64).toInt64).toInt32).toInt8.toInt32 &&& (127 : Int32))).toInt8.toInt32] T15.heap n0 Z15 Eq15 Fq15_0 Fq15_1 ge_ob224 f_16 ⟨by decide, rfl, own_hi8 (((((p1).toUInt64 >>> ((48 : Int32) &&& 0x3f).toInt64.toUInt64).toInt64).toInt32).toInt8), by decide, rfl, own_lo8 (((((p1).toUInt64 >>> ((56 : Int32) &&& 0x3f).toInt64.toUInt64).toInt64).toInt32).toInt8)⟩ (fit_2 _ (((((p1).toUInt64 >>> ((56 : Int32) &&& 0x3f).toInt64.toUInt64).toInt64).toInt32).toInt8))) hZ (hw _ (List.mem_of_getElem? (i := 23) rfl)) (hw _ (List.mem_of_getElem? (i := 3) rfl)) (by decide) (by decide)) qa16 qc16 (g := (mkF m 365 #[.val (.int p0), .val (.long p1), .second, .val (.int (1 : Int32)), .val (.int (1 : Int32)), .val (.ref ar21), .val (.int (2 : Int32)), .val (.int (5 : Int32)), .val (.ref ob224), .val (.int (1 : Int32)), .val (.int ((((((((p1).toUInt64 >>> ((48 : Int32) &&& 0x3f).toInt64.toUInt64).toInt64).toInt32).toInt8.toInt32 ||| (128 : Int32))).toInt8.toInt32 &&& (127 : Int32)) ||| (((((((p1).toUInt64 >>> ((56 : Int32) &&& 0x3f).toInt64.toUInt64).toInt64).toInt32).toInt8.toInt32 &&& (127 : Int32))).toInt8.toInt32 <<< ((7 : Int32) &&& 31))))] [(.ref ob224)])) rfl (by rw [hml]; rfl) (Steps.refl _) (argsL := []) (rest := []) (lenOf pd2 rfl) rfl (by show 2 * 0 + _ ≤ _; exact Nat.le_of_eq rfl) (hb hby at_365) (fun _ _ => ⟨rfl, rfl, (by decide : 2 + 0 ≤ _), (by decide : 10 + 0 ≤ _)⟩)
      dsimp only [Pt.U, Pt.locs, Pt.cells, Pt.slots] at X16 l16 y16 z16 st16 hQ16
      subst l16 y16 z16
      obtain ⟨rfl, Nq16, Kq16, Eq16, Fq16_0, Fq16_1⟩ := hQ16
      have N16 := Fr.app N15 Nq16
      have Z16 : n0 ≤ T16.heap.size := Nat.le_trans Z15 Kq16.1
      have f_17 := Arl.keep f_16 Kq16 (ninS ne_ar21_ob224 nin0)
      refine Goes.go (fun _ k => st16.trans k) ?_
      show Goes _ _ _ _ _ _ _ (T16.setTop (mkF m 368 _ [(.int (svb [((((((p1).toUInt64 >>> ((48 : Int32) &&& 0x3f).toInt64.toUInt64).toInt64).toInt32).toInt8.toInt32 ||| (128 : Int32))).toInt8.toInt32, ((((((p1).toUInt64 >>> ((56 : Int32) &&& 0x3f).toInt64.toUInt64).toInt64).toInt32).toInt8.toInt32 &&& (127 : Int32))).toInt8.toInt32] 0 0).toInt32)]))
      refine Goes.go (fun _ k => XS.iload X16.here hx rfl (hb hby at_368) rfl k) ?_
      show Goes _ _ _ _ _ _ _ (T16.setTop (mkF m 370 _ [(.int ((((((((p1).toUInt64 >>> ((48 : Int32) &&& 0x3f).toInt64.toUInt64).toInt64).toInt32).toInt8.toInt32 ||| (128 : Int32))).toInt8.toInt32 &&& (127 : Int32)) ||| (((((((p1).toUInt64 >>> ((56 : Int32) &&& 0x3f).toInt64.toUInt64).toInt64).toInt32).toInt8.toInt32 &&& (127 : Int32))).toInt8.toInt32 <<< ((7 : Int32) &&& 31)))), (.int (svb [((((((p1).toUInt64 >>> ((48 : Int32) &&& 0x3f).toInt64.toUInt64).toInt64).toInt32).toInt8.toInt32 ||| (128 : Int32))).toInt8.toInt32, ((((((p1).toUInt64 >>> ((56 : Int32) &&& 0x3f).toInt64.toUInt64).toInt64).toInt32).toInt8.toInt32 &&& (127 : Int32))).toInt8.toInt32] 0 0).toInt32)]))
      refine Goes.go (fun _ k => XS.icmpNo X16.here hx rfl (hb hby at_370) rfl (XT.ii_ne_f (val_2 _ (((((p1).toUInt64 >>> ((56 : Int32) &&& 0x3f).toInt64.toUInt64).toInt64).toInt32).toInt8))) k) ?_
      show Goes _ _ _ _ _ _ _ (T16.setTop (mkF m 373 _ []))
      refine Goes.go (fun _ k => XS.iconst X16.here hx rfl (hb hby at_373) k) ?_
      show Goes _ _ _ _ _ _ _ (T16.setTop (mkF m 374 _ [(.int (1 : Int32))]))
      refine Goes.go (fun _ k => XS.goto X16.here hx rfl (pc0 := 374) (pc' := 378) rfl (hb hby at_374) (by decide) (by decide) k) ?_
      show Goes _ _ _ _ _ _ _ (T16.setTop (mkF m 378 _ [(.int (1 : Int32))]))
      refine Goes.go (fun _ k => XS.istore X16.here hx rfl (hb hby at_378) rfl (l' := #[.val (.int p0), .val (.long p1), .second, .val (.int (1 : Int32)), .val (.int (1 : Int32)), .val (.ref ar21), .val (.int (2 : Int32)), .val (.int (5 : Int32)), .val (.ref ob224), .val (.int (1 : Int32)), .val (.int ((((((((p1).toUInt64 >>> ((48 : Int32) &&& 0x3f).toInt64.toUInt64).toInt64).toInt32).toInt8.toInt32 ||| (128 : Int32))).toInt8.toInt32 &&& (127 : Int32)) ||| (((((((p1).toUInt64 >>> ((56 : Int32) &&& 0x3f).toInt64.toUInt64).toInt64).toInt32).toInt8.toInt32 &&& (127 : Int32))).toInt8.toInt32 <<< ((7 : Int32) &&& 31))))]) rfl k) ?_
      show Goes _ _ _ _ _ _ _ (T16.setTop (mkF m 380 _ []))
      refine Goes.go (fun _ k => XS.aload X16.here hx rfl (hb hby at_380) rfl rfl k) ?_
      show Goes _ _ _ _ _ _ _ (T16.setTop (mkF m 382 _ [(.ref ob224)]))
      obtain ⟨cq17, kq17, qa17, qb17, qc17⟩ := isOf hZ rfl Eq16
      obtain ⟨_, _, ⟨T17, L17, k17, n17⟩, -, X17, ⟨Lc17, hQ17, l17, y17, z17⟩, st17⟩ := X16.virtualBack hx (y := (⟨"com/example/countermand/countermand/Packed$Reader", "end", "()V"⟩ : MethodName)) (z := (⟨"com/example/countermand/countermand/Packed$Reader", "end", "()V"⟩ : MethodName)) hown (mvT hZ (hw _ (List.mem_of_getElem? (i := 14) rfl))) (mvT hZ (hw _ (List.mem_of_getElem? (i := 15) rfl))) (notFace_of_selects (args := #[]) (mvT hZ (hw _ (List.mem_of_getElem? (i := 17) rfl)))) (mvT hZ (hw _ (List.mem_of_getElem? (i := 17) rfl))) (mvT hZ (hw _ (List.mem_of_getElem? (i := 16) rfl))) (by decide) (backOf (W := 0) (rm3 l Z a0 hw [] ob224 ar21 _ (8 : Int32) T16.heap n0 Z16 Fq16_0 Fq16_1 f_17 rfl) hZ (hw _ (List.mem_of_getElem? (i := 18) rfl)) (hw _ (List.mem_of_getElem? (i := 3) rfl)) (by decide) (by decide)) qa17 qc17 (g := (mkF m 382 #[.val (.int p0), .val (.long p1), .second, .val (.int (1 : Int32)), .val (.int (1 : Int32)), .val (.ref ar21), .val (.int (2 : Int32)), .val (.int (5 : Int32)), .val (.ref ob224), .val (.int (1 : Int32)), .val (.int ((((((((p1).toUInt64 >>> ((48 : Int32) &&& 0x3f).toInt64.toUInt64).toInt64).toInt32).toInt8.toInt32 ||| (128 : Int32))).toInt8.toInt32 &&& (127 : Int32)) ||| (((((((p1).toUInt64 >>> ((56 : Int32) &&& 0x3f).toInt64.toUInt64).toInt64).toInt32).toInt8.toInt32 &&& (127 : Int32))).toInt8.toInt32 <<< ((7 : Int32) &&& 31))))] [(.ref ob224)])) rfl (by rw [hml]; rfl) (Steps.refl _) (argsL := []) (rest := []) (lenOf pd1 rfl) rfl (by show 2 * 0 + _ ≤ _; exact Nat.le_of_eq rfl) (hb hby at_382) (fun _ _ => ⟨rfl, rfl, (by decide : 2 + 0 ≤ _), (by decide : 10 + 0 ≤ _)⟩)
      dsimp only [Pt.U, Pt.locs, Pt.cells, Pt.slots] at X17 l17 y17 z17 st17 hQ17
      subst l17 y17 z17
      obtain ⟨rfl, Nq17, hh17⟩ := hQ17
      have N17 := Fr.app N16 Nq17
      refine Goes.go (fun _ k => st17.trans k) ?_
      show Goes _ _ _ _ _ _ _ (T17.setTop (mkF m 385 _ []))
      refine Goes.go (fun _ k => XS.iload X17.here hx rfl (hb hby at_385) rfl k) ?_
      show Goes _ _ _ _ _ _ _ (T17.setTop (mkF m 387 _ [(.int (1 : Int32))]))
      exact Goes.outZ X17 hx hlk hret rfl (hb hby at_387) hh17 ⟨rfl, N17⟩ (by decide) (by decide)
  · skip
    show Goes _ _ _ _ _ _ _ (s₁.setTop (mkF m 4 #[.val (.int p0), .val (.long p1), .second, .val (.int (2 : Int32)), .unset, .unset, .unset, .unset, .unset, .unset, .unset] []))
    refine Goes.go (fun _ k => XS.iloadN X0.here hx rfl (hb hby at_4) rfl k) ?_
    show Goes _ _ _ _ _ _ _ (s₁.setTop (mkF m 5 _ [(.int p0)]))
    refine Goes.go (fun _ k => XS.iconst X0.here hx rfl (hb hby at_5) k) ?_
    show Goes _ _ _ _ _ _ _ (s₁.setTop (mkF m 6 _ [(.int (2 : Int32)), (.int p0)]))
    refine Goes.go (fun _ k => XS.iushr X0.here hx rfl (hb hby at_6) rfl k) ?_
    show Goes _ _ _ _ _ _ _ (s₁.setTop (mkF m 7 _ [(.int ((p0).toUInt32 >>> ((2 : Int32) &&& 31).toUInt32).toInt32)]))
    refine Goes.go (fun _ k => XS.iconst X0.here hx rfl (hb hby at_7) k) ?_
    show Goes _ _ _ _ _ _ _ (s₁.setTop (mkF m 8 _ [(.int (1 : Int32)), (.int ((p0).toUInt32 >>> ((2 : Int32) &&& 31).toUInt32).toInt32)]))
    refine Goes.go (fun _ k => XS.iand X0.here hx rfl (hb hby at_8) rfl k) ?_
    show Goes _ _ _ _ _ _ _ (s₁.setTop (mkF m 9 _ [(.int (((p0).toUInt32 >>> ((2 : Int32) &&& 31).toUInt32).toInt32 &&& (1 : Int32)))]))
    by_cases c9 : (((p0).toUInt32 >>> ((2 : Int32) &&& 31).toUInt32).toInt32 &&& (1 : Int32)) = 0
    · skip
      refine Goes.go (fun _ k => XS.ifYes X0.here hx rfl (pc0 := 9) (pc' := 16) rfl (hb hby at_9) rfl (XT.i0_eq_t c9) (by decide) (by decide) k) ?_
      show Goes _ _ _ _ _ _ _ (s₁.setTop (mkF m 16 _ []))
      refine Goes.go (fun _ k => XS.iconst X0.here hx rfl (hb hby at_16) k) ?_
      show Goes _ _ _ _ _ _ _ (s₁.setTop (mkF m 17 _ [(.int (0 : Int32))]))
      refine Goes.go (fun _ k => XS.istore X0.here hx rfl (hb hby at_17) rfl (l' := #[.val (.int p0), .val (.long p1), .second, .val (.int (2 : Int32)), .val (.int (0 : Int32)), .unset, .unset, .unset, .unset, .unset, .unset]) rfl k) ?_
      show Goes _ _ _ _ _ _ _ (s₁.setTop (mkF m 19 #[.val (.int p0), .val (.long p1), .second, .val (.int (2 : Int32)), .val (.int (0 : Int32)), .unset, .unset, .unset, .unset, .unset, .unset] []))
      refine Goes.go (fun _ k => XS.bipush X0.here hx rfl (hb hby at_19) k) ?_
      show Goes _ _ _ _ _ _ _ (s₁.setTop (mkF m 21 _ [(.int (8 : Int32))]))
      obtain ⟨T1, h1, X1, e1, E1, A1, st1⟩ := own_newP X0 hx hZ (aty := .byte) (hw _ (List.mem_of_getElem? (i := 0) rfl)) e0 (g := (mkF m 21 #[.val (.int p0), .val (.long p1), .second, .val (.int (2 : Int32)), .val (.int (0 : Int32)), .unset, .unset, .unset, .unset, .unset, .unset] [(.int (8 : Int32))])) rfl (hb hby at_21) rfl (n := (8 : Int32)) (by decide) (cap := 8) (by decide) (by decide) (by decide) (by decide)
      obtain ⟨ar21, gar21⟩ : ∃ z, z = h0.size := ⟨_, rfl⟩
      rw [← gar21] at A1 st1
      have Z1 : n0 ≤ h1.size := Nat.le_trans Z0 E1.1
      have ge_ar21 : n0 ≤ ar21 := Nat.le_trans Z0 (Nat.le_of_eq gar21.symm)
      have f : Arl Z h1 ar21 .byte [(.int (0 : Int32)), (.int (0 : Int32)), (.int (0 : Int32)), (.int (0 : Int32)), (.int (0 : Int32)), (.int (0 : Int32)), (.int (0 : Int32)), (.int (0 : Int32))] := A1
      refine Goes.go (st1) ?_
      show Goes _ _ _ _ _ _ _ (T1.setTop (mkF m 23 _ [(.ref ar21)]))
      refine Goes.go (fun _ k => XS.astore X1.here hx rfl (hb hby at_23) rfl rfl (l' := #[.val (.int p0), .val (.long p1), .second, .val (.int (2 : Int32)), .val (.int (0 : Int32)), .val (.ref ar21), .unset, .unset, .unset, .unset, .unset]) rfl k) ?_
      show Goes _ _ _ _ _ _ _ (T1.setTop (mkF m 25 #[.val (.int p0), .val (.long p1), .second, .val (.int (2 : Int32)), .val (.int (0 : Int32)), .val (.ref ar21), .unset, .unset, .unset, .unset, .unset] []))
      refine Goes.go (fun _ k => XS.aload X1.here hx rfl (hb hby at_25) rfl rfl k) ?_
      show Goes _ _ _ _ _ _ _ (T1.setTop (mkF m 27 _ [(.ref ar21)]))
      refine Goes.go (fun _ k => XS.iconst X1.here hx rfl (hb hby at_27) k) ?_
      show Goes _ _ _ _ _ _ _ (T1.setTop (mkF m 28 _ [(.int (0 : Int32)), (.ref ar21)]))
      refine Goes.go (fun _ k => XS.lloadN X1.here hx rfl (hb hby at_28) rfl k) ?_
      show Goes _ _ _ _ _ _ _ (T1.setTop (mkF m 29 _ [(.long p1), (.int (0 : Int32)), (.ref ar21)]))
      refine Goes.go (fun _ k => XS.l2i X1.here hx rfl (hb hby at_29) rfl k) ?_
      show Goes _ _ _ _ _ _ _ (T1.setTop (mkF m 30 _ [(.int (p1).toInt32), (.int (0 : Int32)), (.ref ar21)]))
      refine Goes.go (fun _ k => XS.i2b X1.here hx rfl (hb hby at_30) rfl k) ?_
      show Goes _ _ _ _ _ _ _ (T1.setTop (mkF m 31 _ [(.int ((p1).toInt32).toInt8.toInt32), (.int (0 : Int32)), (.ref ar21)]))
      obtain ⟨T2, h2, X2, e2, W2, A2, st2⟩ := own_stB X1 hx hZ e1 f (j := (0 : Int32)) (x := ((p1).toInt32).toInt8.toInt32) (by decide) (show (0 : Nat) < 8 by decide) (g := (mkF m 31 #[.val (.int p0), .val (.long p1), .second, .val (.int (2 : Int32)), .val (.int (0 : Int32)), .val (.ref ar21), .unset, .unset, .unset, .unset, .unset] [(.int ((p1).toInt32).toInt8.toInt32), (.int (0 : Int32)), (.ref ar21)])) rfl rfl (hb hby at_31)
      rw [own_nar8] at A2
      have N2 := Fr.snoc X2 N0 ge_ar21
      have Z2 : n0 ≤ h2.size := by rw [W2.size]; exact Z1
      have f_1 : Arl Z h2 ar21 .byte [(.int ((p1).toInt32).toInt8.toInt32), (.int (0 : Int32)), (.int (0 : Int32)), (.int (0 : Int32)), (.int (0 : Int32)), (.int (0 : Int32)), (.int (0 : Int32)), (.int (0 : Int32))] := A2
      refine Goes.go (st2) ?_
      show Goes _ _ _ _ _ _ _ (T2.setTop (mkF m 32 _ []))
      refine Goes.go (fun _ k => XS.aload X2.here hx rfl (hb hby at_32) rfl rfl k) ?_
      show Goes _ _ _ _ _ _ _ (T2.setTop (mkF m 34 _ [(.ref ar21)]))
      refine Goes.go (fun _ k => XS.iconst X2.here hx rfl (hb hby at_34) k) ?_
      show Goes _ _ _ _ _ _ _ (T2.setTop (mkF m 35 _ [(.int (1 : Int32)), (.ref ar21)]))
      refine Goes.go (fun _ k => XS.lloadN X2.here hx rfl (hb hby at_35) rfl k) ?_
      show Goes _ _ _ _ _ _ _ (T2.setTop (mkF m 36 _ [(.long p1), (.int (1 : Int32)), (.ref ar21)]))
      refine Goes.go (fun _ k => XS.bipush X2.here hx rfl (hb hby at_36) k) ?_
      show Goes _ _ _ _ _ _ _ (T2.setTop (mkF m 38 _ [(.int (8 : Int32)), (.long p1), (.int (1 : Int32)), (.ref ar21)]))
      refine Goes.go (fun _ k => XS.lushr X2.here hx rfl (hb hby at_38) rfl k) ?_
      show Goes _ _ _ _ _ _ _ (T2.setTop (mkF m 39 _ [(.long ((p1).toUInt64 >>> ((8 : Int32) &&& 0x3f).toInt64.toUInt64).toInt64), (.int (1 : Int32)), (.ref ar21)]))
      refine Goes.go (fun _ k => XS.l2i X2.here hx rfl (hb hby at_39) rfl k) ?_
      show Goes _ _ _ _ _ _ _ (T2.setTop (mkF m 40 _ [(.int (((p1).toUInt64 >>> ((8 : Int32) &&& 0x3f).toInt64.toUInt64).toInt64).toInt32), (.int (1 : Int32)), (.ref ar21)]))
      refine Goes.go (fun _ k => XS.i2b X2.here hx rfl (hb hby at_40) rfl k) ?_
      show Goes _ _ _ _ _ _ _ (T2.setTop (mkF m 41 _ [(.int ((((p1).toUInt64 >>> ((8 : Int32) &&& 0x3f).toInt64.toUInt64).toInt64).toInt32).toInt8.toInt32), (.int (1 : Int32)), (.ref ar21)]))
      obtain ⟨T3, h3, X3, e3, W3, A3, st3⟩ := own_stB X2 hx hZ e2 f_1 (j := (1 : Int32)) (x := ((((p1).toUInt64 >>> ((8 : Int32) &&& 0x3f).toInt64.toUInt64).toInt64).toInt32).toInt8.toInt32) (by decide) (show (1 : Nat) < 8 by decide) (g := (mkF m 41 #[.val (.int p0), .val (.long p1), .second, .val (.int (2 : Int32)), .val (.int (0 : Int32)), .val (.ref ar21), .unset, .unset, .unset, .unset, .unset] [(.int ((((p1).toUInt64 >>> ((8 : Int32) &&& 0x3f).toInt64.toUInt64).toInt64).toInt32).toInt8.toInt32), (.int (1 : Int32)), (.ref ar21)])) rfl rfl (hb hby at_41)
      rw [own_nar8] at A3
      have N3 := Fr.snoc X3 N2 ge_ar21
      have Z3 : n0 ≤ h3.size := by rw [W3.size]; exact Z2
      have f_2 : Arl Z h3 ar21 .byte [(.int ((p1).toInt32).toInt8.toInt32), (.int ((((p1).toUInt64 >>> ((8 : Int32) &&& 0x3f).toInt64.toUInt64).toInt64).toInt32).toInt8.toInt32), (.int (0 : Int32)), (.int (0 : Int32)), (.int (0 : Int32)), (.int (0 : Int32)), (.int (0 : Int32)), (.int (0 : Int32))] := A3
      refine Goes.go (st3) ?_
      show Goes _ _ _ _ _ _ _ (T3.setTop (mkF m 42 _ []))
      refine Goes.go (fun _ k => XS.aload X3.here hx rfl (hb hby at_42) rfl rfl k) ?_
      show Goes _ _ _ _ _ _ _ (T3.setTop (mkF m 44 _ [(.ref ar21)]))
      refine Goes.go (fun _ k => XS.iconst X3.here hx rfl (hb hby at_44) k) ?_
      show Goes _ _ _ _ _ _ _ (T3.setTop (mkF m 45 _ [(.int (2 : Int32)), (.ref ar21)]))
      refine Goes.go (fun _ k => XS.lloadN X3.here hx rfl (hb hby at_45) rfl k) ?_
      show Goes _ _ _ _ _ _ _ (T3.setTop (mkF m 46 _ [(.long p1), (.int (2 : Int32)), (.ref ar21)]))
      refine Goes.go (fun _ k => XS.bipush X3.here hx rfl (hb hby at_46) k) ?_
      show Goes _ _ _ _ _ _ _ (T3.setTop (mkF m 48 _ [(.int (16 : Int32)), (.long p1), (.int (2 : Int32)), (.ref ar21)]))
      refine Goes.go (fun _ k => XS.lushr X3.here hx rfl (hb hby at_48) rfl k) ?_
      show Goes _ _ _ _ _ _ _ (T3.setTop (mkF m 49 _ [(.long ((p1).toUInt64 >>> ((16 : Int32) &&& 0x3f).toInt64.toUInt64).toInt64), (.int (2 : Int32)), (.ref ar21)]))
      refine Goes.go (fun _ k => XS.l2i X3.here hx rfl (hb hby at_49) rfl k) ?_
      show Goes _ _ _ _ _ _ _ (T3.setTop (mkF m 50 _ [(.int (((p1).toUInt64 >>> ((16 : Int32) &&& 0x3f).toInt64.toUInt64).toInt64).toInt32), (.int (2 : Int32)), (.ref ar21)]))
      refine Goes.go (fun _ k => XS.i2b X3.here hx rfl (hb hby at_50) rfl k) ?_
      show Goes _ _ _ _ _ _ _ (T3.setTop (mkF m 51 _ [(.int ((((p1).toUInt64 >>> ((16 : Int32) &&& 0x3f).toInt64.toUInt64).toInt64).toInt32).toInt8.toInt32), (.int (2 : Int32)), (.ref ar21)]))
      obtain ⟨T4, h4, X4, e4, W4, A4, st4⟩ := own_stB X3 hx hZ e3 f_2 (j := (2 : Int32)) (x := ((((p1).toUInt64 >>> ((16 : Int32) &&& 0x3f).toInt64.toUInt64).toInt64).toInt32).toInt8.toInt32) (by decide) (show (2 : Nat) < 8 by decide) (g := (mkF m 51 #[.val (.int p0), .val (.long p1), .second, .val (.int (2 : Int32)), .val (.int (0 : Int32)), .val (.ref ar21), .unset, .unset, .unset, .unset, .unset] [(.int ((((p1).toUInt64 >>> ((16 : Int32) &&& 0x3f).toInt64.toUInt64).toInt64).toInt32).toInt8.toInt32), (.int (2 : Int32)), (.ref ar21)])) rfl rfl (hb hby at_51)
      rw [own_nar8] at A4
      have N4 := Fr.snoc X4 N3 ge_ar21
      have Z4 : n0 ≤ h4.size := by rw [W4.size]; exact Z3
      have f_3 : Arl Z h4 ar21 .byte [(.int ((p1).toInt32).toInt8.toInt32), (.int ((((p1).toUInt64 >>> ((8 : Int32) &&& 0x3f).toInt64.toUInt64).toInt64).toInt32).toInt8.toInt32), (.int ((((p1).toUInt64 >>> ((16 : Int32) &&& 0x3f).toInt64.toUInt64).toInt64).toInt32).toInt8.toInt32), (.int (0 : Int32)), (.int (0 : Int32)), (.int (0 : Int32)), (.int (0 : Int32)), (.int (0 : Int32))] := A4
      refine Goes.go (st4) ?_
      show Goes _ _ _ _ _ _ _ (T4.setTop (mkF m 52 _ []))
      refine Goes.go (fun _ k => XS.aload X4.here hx rfl (hb hby at_52) rfl rfl k) ?_
      show Goes _ _ _ _ _ _ _ (T4.setTop (mkF m 54 _ [(.ref ar21)]))
      refine Goes.go (fun _ k => XS.iconst X4.here hx rfl (hb hby at_54) k) ?_
      show Goes _ _ _ _ _ _ _ (T4.setTop (mkF m 55 _ [(.int (3 : Int32)), (.ref ar21)]))
      refine Goes.go (fun _ k => XS.lloadN X4.here hx rfl (hb hby at_55) rfl k) ?_
      show Goes _ _ _ _ _ _ _ (T4.setTop (mkF m 56 _ [(.long p1), (.int (3 : Int32)), (.ref ar21)]))
      refine Goes.go (fun _ k => XS.bipush X4.here hx rfl (hb hby at_56) k) ?_
      show Goes _ _ _ _ _ _ _ (T4.setTop (mkF m 58 _ [(.int (24 : Int32)), (.long p1), (.int (3 : Int32)), (.ref ar21)]))
      refine Goes.go (fun _ k => XS.lushr X4.here hx rfl (hb hby at_58) rfl k) ?_
      show Goes _ _ _ _ _ _ _ (T4.setTop (mkF m 59 _ [(.long ((p1).toUInt64 >>> ((24 : Int32) &&& 0x3f).toInt64.toUInt64).toInt64), (.int (3 : Int32)), (.ref ar21)]))
      refine Goes.go (fun _ k => XS.l2i X4.here hx rfl (hb hby at_59) rfl k) ?_
      show Goes _ _ _ _ _ _ _ (T4.setTop (mkF m 60 _ [(.int (((p1).toUInt64 >>> ((24 : Int32) &&& 0x3f).toInt64.toUInt64).toInt64).toInt32), (.int (3 : Int32)), (.ref ar21)]))
      refine Goes.go (fun _ k => XS.i2b X4.here hx rfl (hb hby at_60) rfl k) ?_
      show Goes _ _ _ _ _ _ _ (T4.setTop (mkF m 61 _ [(.int ((((p1).toUInt64 >>> ((24 : Int32) &&& 0x3f).toInt64.toUInt64).toInt64).toInt32).toInt8.toInt32), (.int (3 : Int32)), (.ref ar21)]))
      obtain ⟨T5, h5, X5, e5, W5, A5, st5⟩ := own_stB X4 hx hZ e4 f_3 (j := (3 : Int32)) (x := ((((p1).toUInt64 >>> ((24 : Int32) &&& 0x3f).toInt64.toUInt64).toInt64).toInt32).toInt8.toInt32) (by decide) (show (3 : Nat) < 8 by decide) (g := (mkF m 61 #[.val (.int p0), .val (.long p1), .second, .val (.int (2 : Int32)), .val (.int (0 : Int32)), .val (.ref ar21), .unset, .unset, .unset, .unset, .unset] [(.int ((((p1).toUInt64 >>> ((24 : Int32) &&& 0x3f).toInt64.toUInt64).toInt64).toInt32).toInt8.toInt32), (.int (3 : Int32)), (.ref ar21)])) rfl rfl (hb hby at_61)
      rw [own_nar8] at A5
      have N5 := Fr.snoc X5 N4 ge_ar21
      have Z5 : n0 ≤ h5.size := by rw [W5.size]; exact Z4
      have f_4 : Arl Z h5 ar21 .byte [(.int ((p1).toInt32).toInt8.toInt32), (.int ((((p1).toUInt64 >>> ((8 : Int32) &&& 0x3f).toInt64.toUInt64).toInt64).toInt32).toInt8.toInt32), (.int ((((p1).toUInt64 >>> ((16 : Int32) &&& 0x3f).toInt64.toUInt64).toInt64).toInt32).toInt8.toInt32), (.int ((((p1).toUInt64 >>> ((24 : Int32) &&& 0x3f).toInt64.toUInt64).toInt64).toInt32).toInt8.toInt32), (.int (0 : Int32)), (.int (0 : Int32)), (.int (0 : Int32)), (.int (0 : Int32))] := A5
      refine Goes.go (st5) ?_
      show Goes _ _ _ _ _ _ _ (T5.setTop (mkF m 62 _ []))
      refine Goes.go (fun _ k => XS.aload X5.here hx rfl (hb hby at_62) rfl rfl k) ?_
      show Goes _ _ _ _ _ _ _ (T5.setTop (mkF m 64 _ [(.ref ar21)]))
      refine Goes.go (fun _ k => XS.iconst X5.here hx rfl (hb hby at_64) k) ?_
      show Goes _ _ _ _ _ _ _ (T5.setTop (mkF m 65 _ [(.int (4 : Int32)), (.ref ar21)]))
      refine Goes.go (fun _ k => XS.lloadN X5.here hx rfl (hb hby at_65) rfl k) ?_
      show Goes _ _ _ _ _ _ _ (T5.setTop (mkF m 66 _ [(.long p1), (.int (4 : Int32)), (.ref ar21)]))
      refine Goes.go (fun _ k => XS.bipush X5.here hx rfl (hb hby at_66) k) ?_
      show Goes _ _ _ _ _ _ _ (T5.setTop (mkF m 68 _ [(.int (32 : Int32)), (.long p1), (.int (4 : Int32)), (.ref ar21)]))
      refine Goes.go (fun _ k => XS.lushr X5.here hx rfl (hb hby at_68) rfl k) ?_
      show Goes _ _ _ _ _ _ _ (T5.setTop (mkF m 69 _ [(.long ((p1).toUInt64 >>> ((32 : Int32) &&& 0x3f).toInt64.toUInt64).toInt64), (.int (4 : Int32)), (.ref ar21)]))
      refine Goes.go (fun _ k => XS.l2i X5.here hx rfl (hb hby at_69) rfl k) ?_
      show Goes _ _ _ _ _ _ _ (T5.setTop (mkF m 70 _ [(.int (((p1).toUInt64 >>> ((32 : Int32) &&& 0x3f).toInt64.toUInt64).toInt64).toInt32), (.int (4 : Int32)), (.ref ar21)]))
      refine Goes.go (fun _ k => XS.i2b X5.here hx rfl (hb hby at_70) rfl k) ?_
      show Goes _ _ _ _ _ _ _ (T5.setTop (mkF m 71 _ [(.int ((((p1).toUInt64 >>> ((32 : Int32) &&& 0x3f).toInt64.toUInt64).toInt64).toInt32).toInt8.toInt32), (.int (4 : Int32)), (.ref ar21)]))
      obtain ⟨T6, h6, X6, e6, W6, A6, st6⟩ := own_stB X5 hx hZ e5 f_4 (j := (4 : Int32)) (x := ((((p1).toUInt64 >>> ((32 : Int32) &&& 0x3f).toInt64.toUInt64).toInt64).toInt32).toInt8.toInt32) (by decide) (show (4 : Nat) < 8 by decide) (g := (mkF m 71 #[.val (.int p0), .val (.long p1), .second, .val (.int (2 : Int32)), .val (.int (0 : Int32)), .val (.ref ar21), .unset, .unset, .unset, .unset, .unset] [(.int ((((p1).toUInt64 >>> ((32 : Int32) &&& 0x3f).toInt64.toUInt64).toInt64).toInt32).toInt8.toInt32), (.int (4 : Int32)), (.ref ar21)])) rfl rfl (hb hby at_71)
      rw [own_nar8] at A6
      have N6 := Fr.snoc X6 N5 ge_ar21
      have Z6 : n0 ≤ h6.size := by rw [W6.size]; exact Z5
      have f_5 : Arl Z h6 ar21 .byte [(.int ((p1).toInt32).toInt8.toInt32), (.int ((((p1).toUInt64 >>> ((8 : Int32) &&& 0x3f).toInt64.toUInt64).toInt64).toInt32).toInt8.toInt32), (.int ((((p1).toUInt64 >>> ((16 : Int32) &&& 0x3f).toInt64.toUInt64).toInt64).toInt32).toInt8.toInt32), (.int ((((p1).toUInt64 >>> ((24 : Int32) &&& 0x3f).toInt64.toUInt64).toInt64).toInt32).toInt8.toInt32), (.int ((((p1).toUInt64 >>> ((32 : Int32) &&& 0x3f).toInt64.toUInt64).toInt64).toInt32).toInt8.toInt32), (.int (0 : Int32)), (.int (0 : Int32)), (.int (0 : Int32))] := A6
      refine Goes.go (st6) ?_
      show Goes _ _ _ _ _ _ _ (T6.setTop (mkF m 72 _ []))
      refine Goes.go (fun _ k => XS.aload X6.here hx rfl (hb hby at_72) rfl rfl k) ?_
      show Goes _ _ _ _ _ _ _ (T6.setTop (mkF m 74 _ [(.ref ar21)]))
      refine Goes.go (fun _ k => XS.iconst X6.here hx rfl (hb hby at_74) k) ?_
      show Goes _ _ _ _ _ _ _ (T6.setTop (mkF m 75 _ [(.int (5 : Int32)), (.ref ar21)]))
      refine Goes.go (fun _ k => XS.lloadN X6.here hx rfl (hb hby at_75) rfl k) ?_
      show Goes _ _ _ _ _ _ _ (T6.setTop (mkF m 76 _ [(.long p1), (.int (5 : Int32)), (.ref ar21)]))
      refine Goes.go (fun _ k => XS.bipush X6.here hx rfl (hb hby at_76) k) ?_
      show Goes _ _ _ _ _ _ _ (T6.setTop (mkF m 78 _ [(.int (40 : Int32)), (.long p1), (.int (5 : Int32)), (.ref ar21)]))
      refine Goes.go (fun _ k => XS.lushr X6.here hx rfl (hb hby at_78) rfl k) ?_
      show Goes _ _ _ _ _ _ _ (T6.setTop (mkF m 79 _ [(.long ((p1).toUInt64 >>> ((40 : Int32) &&& 0x3f).toInt64.toUInt64).toInt64), (.int (5 : Int32)), (.ref ar21)]))
      refine Goes.go (fun _ k => XS.l2i X6.here hx rfl (hb hby at_79) rfl k) ?_
      show Goes _ _ _ _ _ _ _ (T6.setTop (mkF m 80 _ [(.int (((p1).toUInt64 >>> ((40 : Int32) &&& 0x3f).toInt64.toUInt64).toInt64).toInt32), (.int (5 : Int32)), (.ref ar21)]))
      refine Goes.go (fun _ k => XS.i2b X6.here hx rfl (hb hby at_80) rfl k) ?_
      show Goes _ _ _ _ _ _ _ (T6.setTop (mkF m 81 _ [(.int ((((p1).toUInt64 >>> ((40 : Int32) &&& 0x3f).toInt64.toUInt64).toInt64).toInt32).toInt8.toInt32), (.int (5 : Int32)), (.ref ar21)]))
      obtain ⟨T7, h7, X7, e7, W7, A7, st7⟩ := own_stB X6 hx hZ e6 f_5 (j := (5 : Int32)) (x := ((((p1).toUInt64 >>> ((40 : Int32) &&& 0x3f).toInt64.toUInt64).toInt64).toInt32).toInt8.toInt32) (by decide) (show (5 : Nat) < 8 by decide) (g := (mkF m 81 #[.val (.int p0), .val (.long p1), .second, .val (.int (2 : Int32)), .val (.int (0 : Int32)), .val (.ref ar21), .unset, .unset, .unset, .unset, .unset] [(.int ((((p1).toUInt64 >>> ((40 : Int32) &&& 0x3f).toInt64.toUInt64).toInt64).toInt32).toInt8.toInt32), (.int (5 : Int32)), (.ref ar21)])) rfl rfl (hb hby at_81)
      rw [own_nar8] at A7
      have N7 := Fr.snoc X7 N6 ge_ar21
      have Z7 : n0 ≤ h7.size := by rw [W7.size]; exact Z6
      have f_6 : Arl Z h7 ar21 .byte [(.int ((p1).toInt32).toInt8.toInt32), (.int ((((p1).toUInt64 >>> ((8 : Int32) &&& 0x3f).toInt64.toUInt64).toInt64).toInt32).toInt8.toInt32), (.int ((((p1).toUInt64 >>> ((16 : Int32) &&& 0x3f).toInt64.toUInt64).toInt64).toInt32).toInt8.toInt32), (.int ((((p1).toUInt64 >>> ((24 : Int32) &&& 0x3f).toInt64.toUInt64).toInt64).toInt32).toInt8.toInt32), (.int ((((p1).toUInt64 >>> ((32 : Int32) &&& 0x3f).toInt64.toUInt64).toInt64).toInt32).toInt8.toInt32), (.int ((((p1).toUInt64 >>> ((40 : Int32) &&& 0x3f).toInt64.toUInt64).toInt64).toInt32).toInt8.toInt32), (.int (0 : Int32)), (.int (0 : Int32))] := A7
      refine Goes.go (st7) ?_
      show Goes _ _ _ _ _ _ _ (T7.setTop (mkF m 82 _ []))
      refine Goes.go (fun _ k => XS.aload X7.here hx rfl (hb hby at_82) rfl rfl k) ?_
      show Goes _ _ _ _ _ _ _ (T7.setTop (mkF m 84 _ [(.ref ar21)]))
      refine Goes.go (fun _ k => XS.bipush X7.here hx rfl (hb hby at_84) k) ?_
      show Goes _ _ _ _ _ _ _ (T7.setTop (mkF m 86 _ [(.int (6 : Int32)), (.ref ar21)]))
      refine Goes.go (fun _ k => XS.lloadN X7.here hx rfl (hb hby at_86) rfl k) ?_
      show Goes _ _ _ _ _ _ _ (T7.setTop (mkF m 87 _ [(.long p1), (.int (6 : Int32)), (.ref ar21)]))
      refine Goes.go (fun _ k => XS.bipush X7.here hx rfl (hb hby at_87) k) ?_
      show Goes _ _ _ _ _ _ _ (T7.setTop (mkF m 89 _ [(.int (48 : Int32)), (.long p1), (.int (6 : Int32)), (.ref ar21)]))
      refine Goes.go (fun _ k => XS.lushr X7.here hx rfl (hb hby at_89) rfl k) ?_
      show Goes _ _ _ _ _ _ _ (T7.setTop (mkF m 90 _ [(.long ((p1).toUInt64 >>> ((48 : Int32) &&& 0x3f).toInt64.toUInt64).toInt64), (.int (6 : Int32)), (.ref ar21)]))
      refine Goes.go (fun _ k => XS.l2i X7.here hx rfl (hb hby at_90) rfl k) ?_
      show Goes _ _ _ _ _ _ _ (T7.setTop (mkF m 91 _ [(.int (((p1).toUInt64 >>> ((48 : Int32) &&& 0x3f).toInt64.toUInt64).toInt64).toInt32), (.int (6 : Int32)), (.ref ar21)]))
      refine Goes.go (fun _ k => XS.i2b X7.here hx rfl (hb hby at_91) rfl k) ?_
      show Goes _ _ _ _ _ _ _ (T7.setTop (mkF m 92 _ [(.int ((((p1).toUInt64 >>> ((48 : Int32) &&& 0x3f).toInt64.toUInt64).toInt64).toInt32).toInt8.toInt32), (.int (6 : Int32)), (.ref ar21)]))
      obtain ⟨T8, h8, X8, e8, W8, A8, st8⟩ := own_stB X7 hx hZ e7 f_6 (j := (6 : Int32)) (x := ((((p1).toUInt64 >>> ((48 : Int32) &&& 0x3f).toInt64.toUInt64).toInt64).toInt32).toInt8.toInt32) (by decide) (show (6 : Nat) < 8 by decide) (g := (mkF m 92 #[.val (.int p0), .val (.long p1), .second, .val (.int (2 : Int32)), .val (.int (0 : Int32)), .val (.ref ar21), .unset, .unset, .unset, .unset, .unset] [(.int ((((p1).toUInt64 >>> ((48 : Int32) &&& 0x3f).toInt64.toUInt64).toInt64).toInt32).toInt8.toInt32), (.int (6 : Int32)), (.ref ar21)])) rfl rfl (hb hby at_92)
      rw [own_nar8] at A8
      have N8 := Fr.snoc X8 N7 ge_ar21
      have Z8 : n0 ≤ h8.size := by rw [W8.size]; exact Z7
      have f_7 : Arl Z h8 ar21 .byte [(.int ((p1).toInt32).toInt8.toInt32), (.int ((((p1).toUInt64 >>> ((8 : Int32) &&& 0x3f).toInt64.toUInt64).toInt64).toInt32).toInt8.toInt32), (.int ((((p1).toUInt64 >>> ((16 : Int32) &&& 0x3f).toInt64.toUInt64).toInt64).toInt32).toInt8.toInt32), (.int ((((p1).toUInt64 >>> ((24 : Int32) &&& 0x3f).toInt64.toUInt64).toInt64).toInt32).toInt8.toInt32), (.int ((((p1).toUInt64 >>> ((32 : Int32) &&& 0x3f).toInt64.toUInt64).toInt64).toInt32).toInt8.toInt32), (.int ((((p1).toUInt64 >>> ((40 : Int32) &&& 0x3f).toInt64.toUInt64).toInt64).toInt32).toInt8.toInt32), (.int ((((p1).toUInt64 >>> ((48 : Int32) &&& 0x3f).toInt64.toUInt64).toInt64).toInt32).toInt8.toInt32), (.int (0 : Int32))] := A8
      refine Goes.go (st8) ?_
      show Goes _ _ _ _ _ _ _ (T8.setTop (mkF m 93 _ []))
      refine Goes.go (fun _ k => XS.aload X8.here hx rfl (hb hby at_93) rfl rfl k) ?_
      show Goes _ _ _ _ _ _ _ (T8.setTop (mkF m 95 _ [(.ref ar21)]))
      refine Goes.go (fun _ k => XS.bipush X8.here hx rfl (hb hby at_95) k) ?_
      show Goes _ _ _ _ _ _ _ (T8.setTop (mkF m 97 _ [(.int (7 : Int32)), (.ref ar21)]))
      refine Goes.go (fun _ k => XS.lloadN X8.here hx rfl (hb hby at_97) rfl k) ?_
      show Goes _ _ _ _ _ _ _ (T8.setTop (mkF m 98 _ [(.long p1), (.int (7 : Int32)), (.ref ar21)]))
      refine Goes.go (fun _ k => XS.bipush X8.here hx rfl (hb hby at_98) k) ?_
      show Goes _ _ _ _ _ _ _ (T8.setTop (mkF m 100 _ [(.int (56 : Int32)), (.long p1), (.int (7 : Int32)), (.ref ar21)]))
      refine Goes.go (fun _ k => XS.lushr X8.here hx rfl (hb hby at_100) rfl k) ?_
      show Goes _ _ _ _ _ _ _ (T8.setTop (mkF m 101 _ [(.long ((p1).toUInt64 >>> ((56 : Int32) &&& 0x3f).toInt64.toUInt64).toInt64), (.int (7 : Int32)), (.ref ar21)]))
      refine Goes.go (fun _ k => XS.l2i X8.here hx rfl (hb hby at_101) rfl k) ?_
      show Goes _ _ _ _ _ _ _ (T8.setTop (mkF m 102 _ [(.int (((p1).toUInt64 >>> ((56 : Int32) &&& 0x3f).toInt64.toUInt64).toInt64).toInt32), (.int (7 : Int32)), (.ref ar21)]))
      refine Goes.go (fun _ k => XS.i2b X8.here hx rfl (hb hby at_102) rfl k) ?_
      show Goes _ _ _ _ _ _ _ (T8.setTop (mkF m 103 _ [(.int ((((p1).toUInt64 >>> ((56 : Int32) &&& 0x3f).toInt64.toUInt64).toInt64).toInt32).toInt8.toInt32), (.int (7 : Int32)), (.ref ar21)]))
      obtain ⟨T9, h9, X9, e9, W9, A9, st9⟩ := own_stB X8 hx hZ e8 f_7 (j := (7 : Int32)) (x := ((((p1).toUInt64 >>> ((56 : Int32) &&& 0x3f).toInt64.toUInt64).toInt64).toInt32).toInt8.toInt32) (by decide) (show (7 : Nat) < 8 by decide) (g := (mkF m 103 #[.val (.int p0), .val (.long p1), .second, .val (.int (2 : Int32)), .val (.int (0 : Int32)), .val (.ref ar21), .unset, .unset, .unset, .unset, .unset] [(.int ((((p1).toUInt64 >>> ((56 : Int32) &&& 0x3f).toInt64.toUInt64).toInt64).toInt32).toInt8.toInt32), (.int (7 : Int32)), (.ref ar21)])) rfl rfl (hb hby at_103)
      rw [own_nar8] at A9
      have N9 := Fr.snoc X9 N8 ge_ar21
      have Z9 : n0 ≤ h9.size := by rw [W9.size]; exact Z8
      have f_8 : Arl Z h9 ar21 .byte [(.int ((p1).toInt32).toInt8.toInt32), (.int ((((p1).toUInt64 >>> ((8 : Int32) &&& 0x3f).toInt64.toUInt64).toInt64).toInt32).toInt8.toInt32), (.int ((((p1).toUInt64 >>> ((16 : Int32) &&& 0x3f).toInt64.toUInt64).toInt64).toInt32).toInt8.toInt32), (.int ((((p1).toUInt64 >>> ((24 : Int32) &&& 0x3f).toInt64.toUInt64).toInt64).toInt32).toInt8.toInt32), (.int ((((p1).toUInt64 >>> ((32 : Int32) &&& 0x3f).toInt64.toUInt64).toInt64).toInt32).toInt8.toInt32), (.int ((((p1).toUInt64 >>> ((40 : Int32) &&& 0x3f).toInt64.toUInt64).toInt64).toInt32).toInt8.toInt32), (.int ((((p1).toUInt64 >>> ((48 : Int32) &&& 0x3f).toInt64.toUInt64).toInt64).toInt32).toInt8.toInt32), (.int ((((p1).toUInt64 >>> ((56 : Int32) &&& 0x3f).toInt64.toUInt64).toInt64).toInt32).toInt8.toInt32)] := A9
      refine Goes.go (st9) ?_
      show Goes _ _ _ _ _ _ _ (T9.setTop (mkF m 104 _ []))
      refine Goes.go (fun _ k => XS.iload X9.here hx rfl (hb hby at_104) rfl k) ?_
      show Goes _ _ _ _ _ _ _ (T9.setTop (mkF m 106 _ [(.int (0 : Int32))]))
      refine Goes.go (fun _ k => XS.ifYes X9.here hx rfl (pc0 := 106) (pc' := 113) rfl (hb hby at_106) rfl (XT.i0_eq_t (by decide)) (by decide) (by decide) k) ?_
      show Goes _ _ _ _ _ _ _ (T9.setTop (mkF m 113 _ []))
      refine Goes.go (fun _ k => XS.iconst X9.here hx rfl (hb hby at_113) k) ?_
      show Goes _ _ _ _ _ _ _ (T9.setTop (mkF m 114 _ [(.int (0 : Int32))]))
      refine Goes.go (fun _ k => XS.istore X9.here hx rfl (hb hby at_114) rfl (l' := #[.val (.int p0), .val (.long p1), .second, .val (.int (2 : Int32)), .val (.int (0 : Int32)), .val (.ref ar21), .val (.int (0 : Int32)), .unset, .unset, .unset, .unset]) rfl k) ?_
      show Goes _ _ _ _ _ _ _ (T9.setTop (mkF m 116 #[.val (.int p0), .val (.long p1), .second, .val (.int (2 : Int32)), .val (.int (0 : Int32)), .val (.ref ar21), .val (.int (0 : Int32)), .unset, .unset, .unset, .unset] []))
      refine Goes.go (fun _ k => XS.bipush X9.here hx rfl (hb hby at_116) k) ?_
      show Goes _ _ _ _ _ _ _ (T9.setTop (mkF m 118 _ [(.int (8 : Int32))]))
      refine Goes.go (fun _ k => XS.iload X9.here hx rfl (hb hby at_118) rfl k) ?_
      show Goes _ _ _ _ _ _ _ (T9.setTop (mkF m 120 _ [(.int (0 : Int32)), (.int (8 : Int32))]))
      refine Goes.go (fun _ k => XS.isub X9.here hx rfl (hb hby at_120) rfl k) ?_
      show Goes _ _ _ _ _ _ _ (T9.setTop (mkF m 121 _ [(.int (8 : Int32))]))
      refine Goes.go (fun _ k => XS.iloadN X9.here hx rfl (hb hby at_121) rfl k) ?_
      show Goes _ _ _ _ _ _ _ (T9.setTop (mkF m 122 _ [(.int (2 : Int32)), (.int (8 : Int32))]))
      refine Goes.go (fun _ k => XS.isub X9.here hx rfl (hb hby at_122) rfl k) ?_
      show Goes _ _ _ _ _ _ _ (T9.setTop (mkF m 123 _ [(.int (6 : Int32))]))
      refine Goes.go (fun _ k => XS.istore X9.here hx rfl (hb hby at_123) rfl (l' := #[.val (.int p0), .val (.long p1), .second, .val (.int (2 : Int32)), .val (.int (0 : Int32)), .val (.ref ar21), .val (.int (0 : Int32)), .val (.int (6 : Int32)), .unset, .unset, .unset]) rfl k) ?_
      show Goes _ _ _ _ _ _ _ (T9.setTop (mkF m 125 #[.val (.int p0), .val (.long p1), .second, .val (.int (2 : Int32)), .val (.int (0 : Int32)), .val (.ref ar21), .val (.int (0 : Int32)), .val (.int (6 : Int32)), .unset, .unset, .unset] []))
      refine Goes.go (fun _ k => XS.iloadN X9.here hx rfl (hb hby at_125) rfl k) ?_
      show Goes _ _ _ _ _ _ _ (T9.setTop (mkF m 126 _ [(.int (2 : Int32))]))
      refine Goes.go (fun _ k => XS.iconst X9.here hx rfl (hb hby at_126) k) ?_
      show Goes _ _ _ _ _ _ _ (T9.setTop (mkF m 127 _ [(.int (1 : Int32)), (.int (2 : Int32))]))
      refine Goes.go (fun _ k => XS.icmpNo X9.here hx rfl (hb hby at_127) rfl (XT.ii_lt_f (by decide)) k) ?_
      show Goes _ _ _ _ _ _ _ (T9.setTop (mkF m 130 _ []))
      refine Goes.go (fun _ k => XS.aload X9.here hx rfl (hb hby at_130) rfl rfl k) ?_
      show Goes _ _ _ _ _ _ _ (T9.setTop (mkF m 132 _ [(.ref ar21)]))
      refine Goes.go (fun _ k => XS.iload X9.here hx rfl (hb hby at_132) rfl k) ?_
      show Goes _ _ _ _ _ _ _ (T9.setTop (mkF m 134 _ [(.int (6 : Int32)), (.ref ar21)]))
      refine Goes.go (fun _ k => XS.aload X9.here hx rfl (hb hby at_134) rfl rfl k) ?_
      show Goes _ _ _ _ _ _ _ (T9.setTop (mkF m 136 _ [(.ref ar21), (.int (6 : Int32)), (.ref ar21)]))
      refine Goes.go (fun _ k => XS.iload X9.here hx rfl (hb hby at_136) rfl k) ?_
      show Goes _ _ _ _ _ _ _ (T9.setTop (mkF m 138 _ [(.int (6 : Int32)), (.ref ar21), (.int (6 : Int32)), (.ref ar21)]))
      refine Goes.go (own_ldB X9 hx hZ e9 f_8 (j := (6 : Int32)) (v := (.int ((((p1).toUInt64 >>> ((48 : Int32) &&& 0x3f).toInt64.toUInt64).toInt64).toInt32).toInt8.toInt32)) (by decide) rfl rfl rfl (hb hby at_138)) ?_
      show Goes _ _ _ _ _ _ _ (T9.setTop (mkF m 139 _ [(.int ((((p1).toUInt64 >>> ((48 : Int32) &&& 0x3f).toInt64.toUInt64).toInt64).toInt32).toInt8.toInt32), (.int (6 : Int32)), (.ref ar21)]))
      refine Goes.go (fun _ k => XS.bipush X9.here hx rfl (hb hby at_139) k) ?_
      show Goes _ _ _ _ _ _ _ (T9.setTop (mkF m 141 _ [(.int (127 : Int32)), (.int ((((p1).toUInt64 >>> ((48 : Int32) &&& 0x3f).toInt64.toUInt64).toInt64).toInt32).toInt8.toInt32), (.int (6 : Int32)), (.ref ar21)]))
      refine Goes.go (fun _ k => XS.iand X9.here hx rfl (hb hby at_141) rfl k) ?_
      show Goes _ _ _ _ _ _ _ (T9.setTop (mkF m 142 _ [(.int (((((p1).toUInt64 >>> ((48 : Int32) &&& 0x3f).toInt64.toUInt64).toInt64).toInt32).toInt8.toInt32 &&& (127 : Int32))), (.int (6 : Int32)), (.ref ar21)]))
      refine Goes.go (fun _ k => XS.i2b X9.here hx rfl (hb hby at_142) rfl k) ?_
      show Goes _ _ _ _ _ _ _ (T9.setTop (mkF m 143 _ [(.int ((((((p1).toUInt64 >>> ((48 : Int32) &&& 0x3f).toInt64.toUInt64).toInt64).toInt32).toInt8.toInt32 &&& (127 : Int32))).toInt8.toInt32), (.int (6 : Int32)), (.ref ar21)]))
      obtain ⟨T10, h10, X10, e10, W10, A10, st10⟩ := own_stB X9 hx hZ e9 f_8 (j := (6 : Int32)) (x := ((((((p1).toUInt64 >>> ((48 : Int32) &&& 0x3f).toInt64.toUInt64).toInt64).toInt32).toInt8.toInt32 &&& (127 : Int32))).toInt8.toInt32) (by decide) (show (6 : Nat) < 8 by decide) (g := (mkF m 143 #[.val (.int p0), .val (.long p1), .second, .val (.int (2 : Int32)), .val (.int (0 : Int32)), .val (.ref ar21), .val (.int (0 : Int32)), .val (.int (6 : Int32)), .unset, .unset, .unset] [(.int ((((((p1).toUInt64 >>> ((48 : Int32) &&& 0x3f).toInt64.toUInt64).toInt64).toInt32).toInt8.toInt32 &&& (127 : Int32))).toInt8.toInt32), (.int (6 : Int32)), (.ref ar21)])) rfl rfl (hb hby at_143)
      rw [own_nar8] at A10
      have N10 := Fr.snoc X10 N9 ge_ar21
      have Z10 : n0 ≤ h10.size := by rw [W10.size]; exact Z9
      have f_9 : Arl Z h10 ar21 .byte [(.int ((p1).toInt32).toInt8.toInt32), (.int ((((p1).toUInt64 >>> ((8 : Int32) &&& 0x3f).toInt64.toUInt64).toInt64).toInt32).toInt8.toInt32), (.int ((((p1).toUInt64 >>> ((16 : Int32) &&& 0x3f).toInt64.toUInt64).toInt64).toInt32).toInt8.toInt32), (.int ((((p1).toUInt64 >>> ((24 : Int32) &&& 0x3f).toInt64.toUInt64).toInt64).toInt32).toInt8.toInt32), (.int ((((p1).toUInt64 >>> ((32 : Int32) &&& 0x3f).toInt64.toUInt64).toInt64).toInt32).toInt8.toInt32), (.int ((((p1).toUInt64 >>> ((40 : Int32) &&& 0x3f).toInt64.toUInt64).toInt64).toInt32).toInt8.toInt32), (.int ((((((p1).toUInt64 >>> ((48 : Int32) &&& 0x3f).toInt64.toUInt64).toInt64).toInt32).toInt8.toInt32 &&& (127 : Int32))).toInt8.toInt32), (.int ((((p1).toUInt64 >>> ((56 : Int32) &&& 0x3f).toInt64.toUInt64).toInt64).toInt32).toInt8.toInt32)] := A10
      refine Goes.go (st10) ?_
      show Goes _ _ _ _ _ _ _ (T10.setTop (mkF m 144 _ []))
      refine Goes.go (fun _ k => XS.iloadN X10.here hx rfl (hb hby at_144) rfl k) ?_
      show Goes _ _ _ _ _ _ _ (T10.setTop (mkF m 145 _ [(.int (2 : Int32))]))
      refine Goes.go (fun _ k => XS.iconst X10.here hx rfl (hb hby at_145) k) ?_
      show Goes _ _ _ _ _ _ _ (T10.setTop (mkF m 146 _ [(.int (2 : Int32)), (.int (2 : Int32))]))
      refine Goes.go (fun _ k => XS.icmpNo X10.here hx rfl (hb hby at_146) rfl (XT.ii_lt_f (by decide)) k) ?_
      show Goes _ _ _ _ _ _ _ (T10.setTop (mkF m 149 _ []))
      refine Goes.go (fun _ k => XS.aload X10.here hx rfl (hb hby at_149) rfl rfl k) ?_
      show Goes _ _ _ _ _ _ _ (T10.setTop (mkF m 151 _ [(.ref ar21)]))
      refine Goes.go (fun _ k => XS.iload X10.here hx rfl (hb hby at_151) rfl k) ?_
      show Goes _ _ _ _ _ _ _ (T10.setTop (mkF m 153 _ [(.int (6 : Int32)), (.ref ar21)]))
      refine Goes.go (fun _ k => XS.iconst X10.here hx rfl (hb hby at_153) k) ?_
      show Goes _ _ _ _ _ _ _ (T10.setTop (mkF m 154 _ [(.int (1 : Int32)), (.int (6 : Int32)), (.ref ar21)]))
      refine Goes.go (fun _ k => XS.iadd X10.here hx rfl (hb hby at_154) rfl k) ?_
      show Goes _ _ _ _ _ _ _ (T10.setTop (mkF m 155 _ [(.int (7 : Int32)), (.ref ar21)]))
      refine Goes.go (fun _ k => XS.aload X10.here hx rfl (hb hby at_155) rfl rfl k) ?_
      show Goes _ _ _ _ _ _ _ (T10.setTop (mkF m 157 _ [(.ref ar21), (.int (7 : Int32)), (.ref ar21)]))
      refine Goes.go (fun _ k => XS.iload X10.here hx rfl (hb hby at_157) rfl k) ?_
      show Goes _ _ _ _ _ _ _ (T10.setTop (mkF m 159 _ [(.int (6 : Int32)), (.ref ar21), (.int (7 : Int32)), (.ref ar21)]))
      refine Goes.go (fun _ k => XS.iconst X10.here hx rfl (hb hby at_159) k) ?_
      show Goes _ _ _ _ _ _ _ (T10.setTop (mkF m 160 _ [(.int (1 : Int32)), (.int (6 : Int32)), (.ref ar21), (.int (7 : Int32)), (.ref ar21)]))
      refine Goes.go (fun _ k => XS.iadd X10.here hx rfl (hb hby at_160) rfl k) ?_
      show Goes _ _ _ _ _ _ _ (T10.setTop (mkF m 161 _ [(.int (7 : Int32)), (.ref ar21), (.int (7 : Int32)), (.ref ar21)]))
      refine Goes.go (own_ldB X10 hx hZ e10 f_9 (j := (7 : Int32)) (v := (.int ((((p1).toUInt64 >>> ((56 : Int32) &&& 0x3f).toInt64.toUInt64).toInt64).toInt32).toInt8.toInt32)) (by decide) rfl rfl rfl (hb hby at_161)) ?_
      show Goes _ _ _ _ _ _ _ (T10.setTop (mkF m 162 _ [(.int ((((p1).toUInt64 >>> ((56 : Int32) &&& 0x3f).toInt64.toUInt64).toInt64).toInt32).toInt8.toInt32), (.int (7 : Int32)), (.ref ar21)]))
      refine Goes.go (fun _ k => XS.bipush X10.here hx rfl (hb hby at_162) k) ?_
      show Goes _ _ _ _ _ _ _ (T10.setTop (mkF m 164 _ [(.int (127 : Int32)), (.int ((((p1).toUInt64 >>> ((56 : Int32) &&& 0x3f).toInt64.toUInt64).toInt64).toInt32).toInt8.toInt32), (.int (7 : Int32)), (.ref ar21)]))
      refine Goes.go (fun _ k => XS.iand X10.here hx rfl (hb hby at_164) rfl k) ?_
      show Goes _ _ _ _ _ _ _ (T10.setTop (mkF m 165 _ [(.int (((((p1).toUInt64 >>> ((56 : Int32) &&& 0x3f).toInt64.toUInt64).toInt64).toInt32).toInt8.toInt32 &&& (127 : Int32))), (.int (7 : Int32)), (.ref ar21)]))
      refine Goes.go (fun _ k => XS.i2b X10.here hx rfl (hb hby at_165) rfl k) ?_
      show Goes _ _ _ _ _ _ _ (T10.setTop (mkF m 166 _ [(.int ((((((p1).toUInt64 >>> ((56 : Int32) &&& 0x3f).toInt64.toUInt64).toInt64).toInt32).toInt8.toInt32 &&& (127 : Int32))).toInt8.toInt32), (.int (7 : Int32)), (.ref ar21)]))
      obtain ⟨T11, h11, X11, e11, W11, A11, st11⟩ := own_stB X10 hx hZ e10 f_9 (j := (7 : Int32)) (x := ((((((p1).toUInt64 >>> ((56 : Int32) &&& 0x3f).toInt64.toUInt64).toInt64).toInt32).toInt8.toInt32 &&& (127 : Int32))).toInt8.toInt32) (by decide) (show (7 : Nat) < 8 by decide) (g := (mkF m 166 #[.val (.int p0), .val (.long p1), .second, .val (.int (2 : Int32)), .val (.int (0 : Int32)), .val (.ref ar21), .val (.int (0 : Int32)), .val (.int (6 : Int32)), .unset, .unset, .unset] [(.int ((((((p1).toUInt64 >>> ((56 : Int32) &&& 0x3f).toInt64.toUInt64).toInt64).toInt32).toInt8.toInt32 &&& (127 : Int32))).toInt8.toInt32), (.int (7 : Int32)), (.ref ar21)])) rfl rfl (hb hby at_166)
      rw [own_nar8] at A11
      have N11 := Fr.snoc X11 N10 ge_ar21
      have Z11 : n0 ≤ h11.size := by rw [W11.size]; exact Z10
      have f_10 : Arl Z h11 ar21 .byte [(.int ((p1).toInt32).toInt8.toInt32), (.int ((((p1).toUInt64 >>> ((8 : Int32) &&& 0x3f).toInt64.toUInt64).toInt64).toInt32).toInt8.toInt32), (.int ((((p1).toUInt64 >>> ((16 : Int32) &&& 0x3f).toInt64.toUInt64).toInt64).toInt32).toInt8.toInt32), (.int ((((p1).toUInt64 >>> ((24 : Int32) &&& 0x3f).toInt64.toUInt64).toInt64).toInt32).toInt8.toInt32), (.int ((((p1).toUInt64 >>> ((32 : Int32) &&& 0x3f).toInt64.toUInt64).toInt64).toInt32).toInt8.toInt32), (.int ((((p1).toUInt64 >>> ((40 : Int32) &&& 0x3f).toInt64.toUInt64).toInt64).toInt32).toInt8.toInt32), (.int ((((((p1).toUInt64 >>> ((48 : Int32) &&& 0x3f).toInt64.toUInt64).toInt64).toInt32).toInt8.toInt32 &&& (127 : Int32))).toInt8.toInt32), (.int ((((((p1).toUInt64 >>> ((56 : Int32) &&& 0x3f).toInt64.toUInt64).toInt64).toInt32).toInt8.toInt32 &&& (127 : Int32))).toInt8.toInt32)] := A11
      refine Goes.go (st11) ?_
      show Goes _ _ _ _ _ _ _ (T11.setTop (mkF m 167 _ []))
      refine Goes.go (fun _ k => XS.iloadN X11.here hx rfl (hb hby at_167) rfl k) ?_
      show Goes _ _ _ _ _ _ _ (T11.setTop (mkF m 168 _ [(.int (2 : Int32))]))
      refine Goes.go (fun _ k => XS.iconst X11.here hx rfl (hb hby at_168) k) ?_
      show Goes _ _ _ _ _ _ _ (T11.setTop (mkF m 169 _ [(.int (3 : Int32)), (.int (2 : Int32))]))
      refine Goes.go (fun _ k => XS.icmpYes X11.here hx rfl (pc0 := 169) (pc' := 190) rfl (hb hby at_169) rfl (XT.ii_lt_t (by decide)) (by decide) (by decide) k) ?_
      show Goes _ _ _ _ _ _ _ (T11.setTop (mkF m 190 _ []))
      refine Goes.go (fun _ k => XS.iload X11.here hx rfl (hb hby at_190) rfl k) ?_
      show Goes _ _ _ _ _ _ _ (T11.setTop (mkF m 192 _ [(.int (0 : Int32))]))
      refine Goes.go (fun _ k => XS.ifYes X11.here hx rfl (pc0 := 192) (pc' := 224) rfl (hb hby at_192) rfl (XT.i0_eq_t (by decide)) (by decide) (by decide) k) ?_
      show Goes _ _ _ _ _ _ _ (T11.setTop (mkF m 224 _ []))
      obtain ⟨T12, h12, X12, e12, E12, A12, D12, -, st12⟩ := newO X11 hx hZ hown (hw _ (List.mem_of_getElem? (i := 1) rfl)) (hw _ (List.mem_of_getElem? (i := 2) rfl)) (hw _ (List.mem_of_getElem? (i := 3) rfl)) e11 (g := (mkF m 224 #[.val (.int p0), .val (.long p1), .second, .val (.int (2 : Int32)), .val (.int (0 : Int32)), .val (.ref ar21), .val (.int (0 : Int32)), .val (.int (6 : Int32)), .unset, .unset, .unset] [])) rfl (hb hby at_224) (by decide) (by decide)
      obtain ⟨ob224, gob224⟩ : ∃ z, z = h11.size := ⟨_, rfl⟩
      rw [← gob224] at A12 D12 st12
      have ne_ar21_ob224 : ar21 ≠ ob224 := by rw [gob224]; exact Nat.ne_of_lt f_10.lt
      have f_11 := f_10.ext E12
      have Z12 : n0 ≤ h12.size := Nat.le_trans Z11 E12.1
      have ge_ob224 : n0 ≤ ob224 := Nat.le_trans Z11 (Nat.le_of_eq gob224.symm)
      have f_12 : Fld Z h12 ob224 "com/example/countermand/countermand/Packed$Reader" "in" "[B" .null := D12 (Or.inr (hw _ (List.mem_of_getElem? (i := 11) rfl))) (ty := (.array .byte)) (by decide)
      have f_13 : Fld Z h12 ob224 "com/example/countermand/countermand/Packed$Reader" "position" "I" (.int (0 : Int32)) := D12 (Or.inl (hw _ (List.mem_of_getElem? (i := 13) rfl))) (ty := .int) (by decide)
      refine Goes.go (st12) ?_
      show Goes _ _ _ _ _ _ _ (T12.setTop (mkF m 227 _ [(.ref ob224)]))
      refine Goes.go (fun _ k => XS.dup X12.here hx rfl (hb hby at_227) rfl rfl k) ?_
      show Goes _ _ _ _ _ _ _ (T12.setTop (mkF m 228 _ [(.ref ob224), (.ref ob224)]))
      refine Goes.go (fun _ k => XS.aload X12.here hx rfl (hb hby at_228) rfl rfl k) ?_
      show Goes _ _ _ _ _ _ _ (T12.setTop (mkF m 230 _ [(.ref ar21), (.ref ob224), (.ref ob224)]))
      refine Goes.go (fun _ k => XS.iload X12.here hx rfl (hb hby at_230) rfl k) ?_
      show Goes _ _ _ _ _ _ _ (T12.setTop (mkF m 232 _ [(.int (6 : Int32)), (.ref ar21), (.ref ob224), (.ref ob224)]))
      obtain ⟨_, _, ⟨T13, L13, k13, n13⟩, -, X13, ⟨Lc13, hQ13, l13, y13, z13⟩, st13⟩ := X12.specialBack hx (y := (⟨"com/example/countermand/countermand/Packed$Reader", "<init>", "([BI)V"⟩ : MethodName)) rfl hown (mvT hZ (hw _ (List.mem_of_getElem? (i := 4) rfl))) (mvT hZ (hw _ (List.mem_of_getElem? (i := 5) rfl))) (mvT hZ (hw _ (List.mem_of_getElem? (i := 6) rfl))) (by decide) (backOf (W := 1) (rm1 l Z a0 hw [] ob224 ar21 (6 : Int32) h12 n0 Z12 A12 f_12 f_13 ge_ob224) hZ (hw _ (List.mem_of_getElem? (i := 6) rfl)) (hw _ (List.mem_of_getElem? (i := 3) rfl)) (by decide) (by decide)) (g := (mkF m 232 #[.val (.int p0), .val (.long p1), .second, .val (.int (2 : Int32)), .val (.int (0 : Int32)), .val (.ref ar21), .val (.int (0 : Int32)), .val (.int (6 : Int32)), .unset, .unset, .unset] [(.int (6 : Int32)), (.ref ar21), (.ref ob224), (.ref ob224)])) rfl (by rw [hml]; rfl) (Steps.refl _) (a := ob224) (argsL := [(.ref ar21), (.int (6 : Int32))]) (rest := [(.ref ob224)]) (lenOf pd0 rfl) rfl (by show 2 * 0 + _ ≤ _; exact Nat.le_of_eq rfl) (hb hby at_232) (fun _ _ => ⟨rfl, e12, (by decide : 2 + 0 ≤ _), (by decide : 10 + 0 ≤ _)⟩)
      dsimp only [Pt.U, Pt.locs, Pt.cells, Pt.slots] at X13 l13 y13 z13 st13 hQ13
      subst l13 y13 z13
      obtain ⟨rfl, Nq13, Kq13, Eq13, Fq13_0, Fq13_1⟩ := hQ13
      have N13 := Fr.app N11 Nq13
      have Z13 : n0 ≤ T13.heap.size := Nat.le_trans Z12 Kq13.1
      have f_14 := Arl.keep f_11 Kq13 (ninS ne_ar21_ob224 nin0)
      refine Goes.go (fun _ k => st13.trans k) ?_
      show Goes _ _ _ _ _ _ _ (T13.setTop (mkF m 235 _ [(.ref ob224)]))
      refine Goes.go (fun _ k => XS.astore X13.here hx rfl (hb hby at_235) rfl rfl (l' := #[.val (.int p0), .val (.long p1), .second, .val (.int (2 : Int32)), .val (.int (0 : Int32)), .val (.ref ar21), .val (.int (0 : Int32)), .val (.int (6 : Int32)), .val (.ref ob224), .unset, .unset]) rfl k) ?_
      show Goes _ _ _ _ _ _ _ (T13.setTop (mkF m 237 #[.val (.int p0), .val (.long p1), .second, .val (.int (2 : Int32)), .val (.int (0 : Int32)), .val (.ref ar21), .val (.int (0 : Int32)), .val (.int (6 : Int32)), .val (.ref ob224), .unset, .unset] []))
      refine Goes.go (fun _ k => XS.iconst X13.here hx rfl (hb hby at_237) k) ?_
      show Goes _ _ _ _ _ _ _ (T13.setTop (mkF m 238 _ [(.int (1 : Int32))]))
      refine Goes.go (fun _ k => XS.istore X13.here hx rfl (hb hby at_238) rfl (l' := #[.val (.int p0), .val (.long p1), .second, .val (.int (2 : Int32)), .val (.int (0 : Int32)), .val (.ref ar21), .val (.int (0 : Int32)), .val (.int (6 : Int32)), .val (.ref ob224), .val (.int (1 : Int32)), .unset]) rfl k) ?_
      show Goes _ _ _ _ _ _ _ (T13.setTop (mkF m 240 #[.val (.int p0), .val (.long p1), .second, .val (.int (2 : Int32)), .val (.int (0 : Int32)), .val (.ref ar21), .val (.int (0 : Int32)), .val (.int (6 : Int32)), .val (.ref ob224), .val (.int (1 : Int32)), .unset] []))
      refine Goes.go (fun _ k => XS.iloadN X13.here hx rfl (hb hby at_240) rfl k) ?_
      show Goes _ _ _ _ _ _ _ (T13.setTop (mkF m 241 _ [(.int (2 : Int32))]))
      refine Goes.go (fun _ k => XS.iconst X13.here hx rfl (hb hby at_241) k) ?_
      show Goes _ _ _ _ _ _ _ (T13.setTop (mkF m 242 _ [(.int (1 : Int32)), (.int (2 : Int32))]))
      refine Goes.go (fun _ k => XS.icmpNo X13.here hx rfl (hb hby at_242) rfl (XT.ii_lt_f (by decide)) k) ?_
      show Goes _ _ _ _ _ _ _ (T13.setTop (mkF m 245 _ []))
      refine Goes.go (fun _ k => XS.iload X13.here hx rfl (hb hby at_245) rfl k) ?_
      show Goes _ _ _ _ _ _ _ (T13.setTop (mkF m 247 _ [(.int (1 : Int32))]))
      refine Goes.go (fun _ k => XS.ifNo X13.here hx rfl (hb hby at_247) rfl (XT.i0_eq_f (by decide)) k) ?_
      show Goes _ _ _ _ _ _ _ (T13.setTop (mkF m 250 _ []))
      refine Goes.go (fun _ k => XS.aload X13.here hx rfl (hb hby at_250) rfl rfl k) ?_
      show Goes _ _ _ _ _ _ _ (T13.setTop (mkF m 252 _ [(.ref ob224)]))
      obtain ⟨cq14, kq14, qa14, qb14, qc14⟩ := isOf hZ rfl Eq13
      obtain ⟨_, _, ⟨T14, L14, k14, n14⟩, -, X14, ⟨Lc14, hQ14, l14, y14, z14⟩, st14⟩ := X13.virtualBack hx (y := (⟨"com/example/countermand/countermand/Packed$Reader", "count", "()I"⟩ : MethodName)) (z := (⟨"com/example/countermand/countermand/Packed$Reader", "count", "()I"⟩ : MethodName)) hown (mvT hZ (hw _ (List.mem_of_getElem? (i := 19) rfl))) (mvT hZ (hw _ (List.mem_of_getElem? (i := 20) rfl))) (notFace_of_selects (args := #[]) (mvT hZ (hw _ (List.mem_of_getElem? (i := 22) rfl)))) (mvT hZ (hw _ (List.mem_of_getElem? (i := 22) rfl))) (mvT hZ (hw _ (List.mem_of_getElem? (i := 21) rfl))) (by decide) (backOf (W := 0) (rm4 l Z a0 hw [] ob224 ar21 _ (6 : Int32) [((((((p1).toUInt64 >>> ((48 : Int32) &&& 0x3f).toInt64.toUInt64).toInt64).toInt32).toInt8.toInt32 &&& (127 : Int32))).toInt8.toInt32] T13.heap n0 Z13 Eq13 Fq13_0 Fq13_1 ge_ob224 f_14 ⟨by decide, rfl, own_lo8 (((((p1).toUInt64 >>> ((48 : Int32) &&& 0x3f).toInt64.toUInt64).toInt64).toInt32).toInt8)⟩ (fit_1 (((((p1).toUInt64 >>> ((48 : Int32) &&& 0x3f).toInt64.toUInt64).toInt64).toInt32).toInt8))) hZ (hw _ (List.mem_of_getElem? (i := 23) rfl)) (hw _ (List.mem_of_getElem? (i := 3) rfl)) (by decide) (by decide)) qa14 qc14 (g := (mkF m 252 #[.val (.int p0), .val (.long p1), .second, .val (.int (2 : Int32)), .val (.int (0 : Int32)), .val (.ref ar21), .val (.int (0 : Int32)), .val (.int (6 : Int32)), .val (.ref ob224), .val (.int (1 : Int32)), .unset] [(.ref ob224)])) rfl (by rw [hml]; rfl) (Steps.refl _) (argsL := []) (rest := []) (lenOf pd2 rfl) rfl (by show 2 * 0 + _ ≤ _; exact Nat.le_of_eq rfl) (hb hby at_252) (fun _ _ => ⟨rfl, rfl, (by decide : 2 + 0 ≤ _), (by decide : 10 + 0 ≤ _)⟩)
      dsimp only [Pt.U, Pt.locs, Pt.cells, Pt.slots] at X14 l14 y14 z14 st14 hQ14
      subst l14 y14 z14
      obtain ⟨rfl, Nq14, Kq14, Eq14, Fq14_0, Fq14_1⟩ := hQ14
      have N14 := Fr.app N13 Nq14
      have Z14 : n0 ≤ T14.heap.size := Nat.le_trans Z13 Kq14.1
      have f_15 := Arl.keep f_14 Kq14 (ninS ne_ar21_ob224 nin0)
      refine Goes.go (fun _ k => st14.trans k) ?_
      show Goes _ _ _ _ _ _ _ (T14.setTop (mkF m 255 _ [(.int (svb [((((((p1).toUInt64 >>> ((48 : Int32) &&& 0x3f).toInt64.toUInt64).toInt64).toInt32).toInt8.toInt32 &&& (127 : Int32))).toInt8.toInt32] 0 0).toInt32)]))
      refine Goes.go (fun _ k => XS.aload X14.here hx rfl (hb hby at_255) rfl rfl k) ?_
      show Goes _ _ _ _ _ _ _ (T14.setTop (mkF m 257 _ [(.ref ar21), (.int (svb [((((((p1).toUInt64 >>> ((48 : Int32) &&& 0x3f).toInt64.toUInt64).toInt64).toInt32).toInt8.toInt32 &&& (127 : Int32))).toInt8.toInt32] 0 0).toInt32)]))
      refine Goes.go (fun _ k => XS.iload X14.here hx rfl (hb hby at_257) rfl k) ?_
      show Goes _ _ _ _ _ _ _ (T14.setTop (mkF m 259 _ [(.int (6 : Int32)), (.ref ar21), (.int (svb [((((((p1).toUInt64 >>> ((48 : Int32) &&& 0x3f).toInt64.toUInt64).toInt64).toInt32).toInt8.toInt32 &&& (127 : Int32))).toInt8.toInt32] 0 0).toInt32)]))
      refine Goes.go (own_ldB X14 hx hZ rfl f_15 (j := (6 : Int32)) (v := (.int ((((((p1).toUInt64 >>> ((48 : Int32) &&& 0x3f).toInt64.toUInt64).toInt64).toInt32).toInt8.toInt32 &&& (127 : Int32))).toInt8.toInt32)) (by decide) rfl rfl rfl (hb hby at_259)) ?_
      show Goes _ _ _ _ _ _ _ (T14.setTop (mkF m 260 _ [(.int ((((((p1).toUInt64 >>> ((48 : Int32) &&& 0x3f).toInt64.toUInt64).toInt64).toInt32).toInt8.toInt32 &&& (127 : Int32))).toInt8.toInt32), (.int (svb [((((((p1).toUInt64 >>> ((48 : Int32) &&& 0x3f).toInt64.toUInt64).toInt64).toInt32).toInt8.toInt32 &&& (127 : Int32))).toInt8.toInt32] 0 0).toInt32)]))
      refine Goes.go (fun _ k => XS.icmpNo X14.here hx rfl (hb hby at_260) rfl (XT.ii_ne_f (val_1 (((((p1).toUInt64 >>> ((48 : Int32) &&& 0x3f).toInt64.toUInt64).toInt64).toInt32).toInt8))) k) ?_
      show Goes _ _ _ _ _ _ _ (T14.setTop (mkF m 263 _ []))
      refine Goes.go (fun _ k => XS.iconst X14.here hx rfl (hb hby at_263) k) ?_
      show Goes _ _ _ _ _ _ _ (T14.setTop (mkF m 264 _ [(.int (1 : Int32))]))
      refine Goes.go (fun _ k => XS.goto X14.here hx rfl (pc0 := 264) (pc' := 268) rfl (hb hby at_264) (by decide) (by decide) k) ?_
      show Goes _ _ _ _ _ _ _ (T14.setTop (mkF m 268 _ [(.int (1 : Int32))]))
      refine Goes.go (fun _ k => XS.istore X14.here hx rfl (hb hby at_268) rfl (l' := #[.val (.int p0), .val (.long p1), .second, .val (.int (2 : Int32)), .val (.int (0 : Int32)), .val (.ref ar21), .val (.int (0 : Int32)), .val (.int (6 : Int32)), .val (.ref ob224), .val (.int (1 : Int32)), .unset]) rfl k) ?_
      show Goes _ _ _ _ _ _ _ (T14.setTop (mkF m 270 _ []))
      refine Goes.go (fun _ k => XS.iloadN X14.here hx rfl (hb hby at_270) rfl k) ?_
      show Goes _ _ _ _ _ _ _ (T14.setTop (mkF m 271 _ [(.int (2 : Int32))]))
      refine Goes.go (fun _ k => XS.iconst X14.here hx rfl (hb hby at_271) k) ?_
      show Goes _ _ _ _ _ _ _ (T14.setTop (mkF m 272 _ [(.int (2 : Int32)), (.int (2 : Int32))]))
      refine Goes.go (fun _ k => XS.icmpNo X14.here hx rfl (hb hby at_272) rfl (XT.ii_lt_f (by decide)) k) ?_
      show Goes _ _ _ _ _ _ _ (T14.setTop (mkF m 275 _ []))
      refine Goes.go (fun _ k => XS.iload X14.here hx rfl (hb hby at_275) rfl k) ?_
      show Goes _ _ _ _ _ _ _ (T14.setTop (mkF m 277 _ [(.int (1 : Int32))]))
      refine Goes.go (fun _ k => XS.ifNo X14.here hx rfl (hb hby at_277) rfl (XT.i0_eq_f (by decide)) k) ?_
      show Goes _ _ _ _ _ _ _ (T14.setTop (mkF m 280 _ []))
      refine Goes.go (fun _ k => XS.aload X14.here hx rfl (hb hby at_280) rfl rfl k) ?_
      show Goes _ _ _ _ _ _ _ (T14.setTop (mkF m 282 _ [(.ref ob224)]))
      obtain ⟨cq15, kq15, qa15, qb15, qc15⟩ := isOf hZ rfl Eq14
      obtain ⟨_, _, ⟨T15, L15, k15, n15⟩, -, X15, ⟨Lc15, hQ15, l15, y15, z15⟩, st15⟩ := X14.virtualBack hx (y := (⟨"com/example/countermand/countermand/Packed$Reader", "count", "()I"⟩ : MethodName)) (z := (⟨"com/example/countermand/countermand/Packed$Reader", "count", "()I"⟩ : MethodName)) hown (mvT hZ (hw _ (List.mem_of_getElem? (i := 19) rfl))) (mvT hZ (hw _ (List.mem_of_getElem? (i := 20) rfl))) (notFace_of_selects (args := #[]) (mvT hZ (hw _ (List.mem_of_getElem? (i := 22) rfl)))) (mvT hZ (hw _ (List.mem_of_getElem? (i := 22) rfl))) (mvT hZ (hw _ (List.mem_of_getElem? (i := 21) rfl))) (by decide) (backOf (W := 0) (rm4 l Z a0 hw [] ob224 ar21 _ (7 : Int32) [((((((p1).toUInt64 >>> ((56 : Int32) &&& 0x3f).toInt64.toUInt64).toInt64).toInt32).toInt8.toInt32 &&& (127 : Int32))).toInt8.toInt32] T14.heap n0 Z14 Eq14 Fq14_0 Fq14_1 ge_ob224 f_15 ⟨by decide, rfl, own_lo8 (((((p1).toUInt64 >>> ((56 : Int32) &&& 0x3f).toInt64.toUInt64).toInt64).toInt32).toInt8)⟩ (fit_1 (((((p1).toUInt64 >>> ((56 : Int32) &&& 0x3f).toInt64.toUInt64).toInt64).toInt32).toInt8))) hZ (hw _ (List.mem_of_getElem? (i := 23) rfl)) (hw _ (List.mem_of_getElem? (i := 3) rfl)) (by decide) (by decide)) qa15 qc15 (g := (mkF m 282 #[.val (.int p0), .val (.long p1), .second, .val (.int (2 : Int32)), .val (.int (0 : Int32)), .val (.ref ar21), .val (.int (0 : Int32)), .val (.int (6 : Int32)), .val (.ref ob224), .val (.int (1 : Int32)), .unset] [(.ref ob224)])) rfl (by rw [hml]; rfl) (Steps.refl _) (argsL := []) (rest := []) (lenOf pd2 rfl) rfl (by show 2 * 0 + _ ≤ _; exact Nat.le_of_eq rfl) (hb hby at_282) (fun _ _ => ⟨rfl, rfl, (by decide : 2 + 0 ≤ _), (by decide : 10 + 0 ≤ _)⟩)
      dsimp only [Pt.U, Pt.locs, Pt.cells, Pt.slots] at X15 l15 y15 z15 st15 hQ15
      subst l15 y15 z15
      obtain ⟨rfl, Nq15, Kq15, Eq15, Fq15_0, Fq15_1⟩ := hQ15
      have N15 := Fr.app N14 Nq15
      have Z15 : n0 ≤ T15.heap.size := Nat.le_trans Z14 Kq15.1
      have f_16 := Arl.keep f_15 Kq15 (ninS ne_ar21_ob224 nin0)
      refine Goes.go (fun _ k => st15.trans k) ?_
      show Goes _ _ _ _ _ _ _ (T15.setTop (mkF m 285 _ [(.int (svb [((((((p1).toUInt64 >>> ((56 : Int32) &&& 0x3f).toInt64.toUInt64).toInt64).toInt32).toInt8.toInt32 &&& (127 : Int32))).toInt8.toInt32] 0 0).toInt32)]))
      refine Goes.go (fun _ k => XS.aload X15.here hx rfl (hb hby at_285) rfl rfl k) ?_
      show Goes _ _ _ _ _ _ _ (T15.setTop (mkF m 287 _ [(.ref ar21), (.int (svb [((((((p1).toUInt64 >>> ((56 : Int32) &&& 0x3f).toInt64.toUInt64).toInt64).toInt32).toInt8.toInt32 &&& (127 : Int32))).toInt8.toInt32] 0 0).toInt32)]))
      refine Goes.go (fun _ k => XS.iload X15.here hx rfl (hb hby at_287) rfl k) ?_
      show Goes _ _ _ _ _ _ _ (T15.setTop (mkF m 289 _ [(.int (6 : Int32)), (.ref ar21), (.int (svb [((((((p1).toUInt64 >>> ((56 : Int32) &&& 0x3f).toInt64.toUInt64).toInt64).toInt32).toInt8.toInt32 &&& (127 : Int32))).toInt8.toInt32] 0 0).toInt32)]))
      refine Goes.go (fun _ k => XS.iconst X15.here hx rfl (hb hby at_289) k) ?_
      show Goes _ _ _ _ _ _ _ (T15.setTop (mkF m 290 _ [(.int (1 : Int32)), (.int (6 : Int32)), (.ref ar21), (.int (svb [((((((p1).toUInt64 >>> ((56 : Int32) &&& 0x3f).toInt64.toUInt64).toInt64).toInt32).toInt8.toInt32 &&& (127 : Int32))).toInt8.toInt32] 0 0).toInt32)]))
      refine Goes.go (fun _ k => XS.iadd X15.here hx rfl (hb hby at_290) rfl k) ?_
      show Goes _ _ _ _ _ _ _ (T15.setTop (mkF m 291 _ [(.int (7 : Int32)), (.ref ar21), (.int (svb [((((((p1).toUInt64 >>> ((56 : Int32) &&& 0x3f).toInt64.toUInt64).toInt64).toInt32).toInt8.toInt32 &&& (127 : Int32))).toInt8.toInt32] 0 0).toInt32)]))
      refine Goes.go (own_ldB X15 hx hZ rfl f_16 (j := (7 : Int32)) (v := (.int ((((((p1).toUInt64 >>> ((56 : Int32) &&& 0x3f).toInt64.toUInt64).toInt64).toInt32).toInt8.toInt32 &&& (127 : Int32))).toInt8.toInt32)) (by decide) rfl rfl rfl (hb hby at_291)) ?_
      show Goes _ _ _ _ _ _ _ (T15.setTop (mkF m 292 _ [(.int ((((((p1).toUInt64 >>> ((56 : Int32) &&& 0x3f).toInt64.toUInt64).toInt64).toInt32).toInt8.toInt32 &&& (127 : Int32))).toInt8.toInt32), (.int (svb [((((((p1).toUInt64 >>> ((56 : Int32) &&& 0x3f).toInt64.toUInt64).toInt64).toInt32).toInt8.toInt32 &&& (127 : Int32))).toInt8.toInt32] 0 0).toInt32)]))
      refine Goes.go (fun _ k => XS.icmpNo X15.here hx rfl (hb hby at_292) rfl (XT.ii_ne_f (val_1 (((((p1).toUInt64 >>> ((56 : Int32) &&& 0x3f).toInt64.toUInt64).toInt64).toInt32).toInt8))) k) ?_
      show Goes _ _ _ _ _ _ _ (T15.setTop (mkF m 295 _ []))
      refine Goes.go (fun _ k => XS.iconst X15.here hx rfl (hb hby at_295) k) ?_
      show Goes _ _ _ _ _ _ _ (T15.setTop (mkF m 296 _ [(.int (1 : Int32))]))
      refine Goes.go (fun _ k => XS.goto X15.here hx rfl (pc0 := 296) (pc' := 300) rfl (hb hby at_296) (by decide) (by decide) k) ?_
      show Goes _ _ _ _ _ _ _ (T15.setTop (mkF m 300 _ [(.int (1 : Int32))]))
      refine Goes.go (fun _ k => XS.istore X15.here hx rfl (hb hby at_300) rfl (l' := #[.val (.int p0), .val (.long p1), .second, .val (.int (2 : Int32)), .val (.int (0 : Int32)), .val (.ref ar21), .val (.int (0 : Int32)), .val (.int (6 : Int32)), .val (.ref ob224), .val (.int (1 : Int32)), .unset]) rfl k) ?_
      show Goes _ _ _ _ _ _ _ (T15.setTop (mkF m 302 _ []))
      refine Goes.go (fun _ k => XS.iloadN X15.here hx rfl (hb hby at_302) rfl k) ?_
      show Goes _ _ _ _ _ _ _ (T15.setTop (mkF m 303 _ [(.int (2 : Int32))]))
      refine Goes.go (fun _ k => XS.iconst X15.here hx rfl (hb hby at_303) k) ?_
      show Goes _ _ _ _ _ _ _ (T15.setTop (mkF m 304 _ [(.int (3 : Int32)), (.int (2 : Int32))]))
      refine Goes.go (fun _ k => XS.icmpYes X15.here hx rfl (pc0 := 304) (pc' := 334) rfl (hb hby at_304) rfl (XT.ii_lt_t (by decide)) (by decide) (by decide) k) ?_
      show Goes _ _ _ _ _ _ _ (T15.setTop (mkF m 334 _ []))
      refine Goes.go (fun _ k => XS.iload X15.here hx rfl (hb hby at_334) rfl k) ?_
      show Goes _ _ _ _ _ _ _ (T15.setTop (mkF m 336 _ [(.int (0 : Int32))]))
      refine Goes.go (fun _ k => XS.ifYes X15.here hx rfl (pc0 := 336) (pc' := 380) rfl (hb hby at_336) rfl (XT.i0_eq_t (by decide)) (by decide) (by decide) k) ?_
      show Goes _ _ _ _ _ _ _ (T15.setTop (mkF m 380 _ []))
      refine Goes.go (fun _ k => XS.aload X15.here hx rfl (hb hby at_380) rfl rfl k) ?_
      show Goes _ _ _ _ _ _ _ (T15.setTop (mkF m 382 _ [(.ref ob224)]))
      obtain ⟨cq16, kq16, qa16, qb16, qc16⟩ := isOf hZ rfl Eq15
      obtain ⟨_, _, ⟨T16, L16, k16, n16⟩, -, X16, ⟨Lc16, hQ16, l16, y16, z16⟩, st16⟩ := X15.virtualBack hx (y := (⟨"com/example/countermand/countermand/Packed$Reader", "end", "()V"⟩ : MethodName)) (z := (⟨"com/example/countermand/countermand/Packed$Reader", "end", "()V"⟩ : MethodName)) hown (mvT hZ (hw _ (List.mem_of_getElem? (i := 14) rfl))) (mvT hZ (hw _ (List.mem_of_getElem? (i := 15) rfl))) (notFace_of_selects (args := #[]) (mvT hZ (hw _ (List.mem_of_getElem? (i := 17) rfl)))) (mvT hZ (hw _ (List.mem_of_getElem? (i := 17) rfl))) (mvT hZ (hw _ (List.mem_of_getElem? (i := 16) rfl))) (by decide) (backOf (W := 0) (rm3 l Z a0 hw [] ob224 ar21 _ (8 : Int32) T15.heap n0 Z15 Fq15_0 Fq15_1 f_16 rfl) hZ (hw _ (List.mem_of_getElem? (i := 18) rfl)) (hw _ (List.mem_of_getElem? (i := 3) rfl)) (by decide) (by decide)) qa16 qc16 (g := (mkF m 382 #[.val (.int p0), .val (.long p1), .second, .val (.int (2 : Int32)), .val (.int (0 : Int32)), .val (.ref ar21), .val (.int (0 : Int32)), .val (.int (6 : Int32)), .val (.ref ob224), .val (.int (1 : Int32)), .unset] [(.ref ob224)])) rfl (by rw [hml]; rfl) (Steps.refl _) (argsL := []) (rest := []) (lenOf pd1 rfl) rfl (by show 2 * 0 + _ ≤ _; exact Nat.le_of_eq rfl) (hb hby at_382) (fun _ _ => ⟨rfl, rfl, (by decide : 2 + 0 ≤ _), (by decide : 10 + 0 ≤ _)⟩)
      dsimp only [Pt.U, Pt.locs, Pt.cells, Pt.slots] at X16 l16 y16 z16 st16 hQ16
      subst l16 y16 z16
      obtain ⟨rfl, Nq16, hh16⟩ := hQ16
      have N16 := Fr.app N15 Nq16
      refine Goes.go (fun _ k => st16.trans k) ?_
      show Goes _ _ _ _ _ _ _ (T16.setTop (mkF m 385 _ []))
      refine Goes.go (fun _ k => XS.iload X16.here hx rfl (hb hby at_385) rfl k) ?_
      show Goes _ _ _ _ _ _ _ (T16.setTop (mkF m 387 _ [(.int (1 : Int32))]))
      exact Goes.outZ X16 hx hlk hret rfl (hb hby at_387) hh16 ⟨rfl, N16⟩ (by decide) (by decide)
    · skip
      refine Goes.go (fun _ k => XS.ifNo X0.here hx rfl (hb hby at_9) rfl (XT.i0_eq_f c9) k) ?_
      show Goes _ _ _ _ _ _ _ (s₁.setTop (mkF m 12 _ []))
      refine Goes.go (fun _ k => XS.iconst X0.here hx rfl (hb hby at_12) k) ?_
      show Goes _ _ _ _ _ _ _ (s₁.setTop (mkF m 13 _ [(.int (1 : Int32))]))
      refine Goes.go (fun _ k => XS.goto X0.here hx rfl (pc0 := 13) (pc' := 17) rfl (hb hby at_13) (by decide) (by decide) k) ?_
      show Goes _ _ _ _ _ _ _ (s₁.setTop (mkF m 17 _ [(.int (1 : Int32))]))
      refine Goes.go (fun _ k => XS.istore X0.here hx rfl (hb hby at_17) rfl (l' := #[.val (.int p0), .val (.long p1), .second, .val (.int (2 : Int32)), .val (.int (1 : Int32)), .unset, .unset, .unset, .unset, .unset, .unset]) rfl k) ?_
      show Goes _ _ _ _ _ _ _ (s₁.setTop (mkF m 19 #[.val (.int p0), .val (.long p1), .second, .val (.int (2 : Int32)), .val (.int (1 : Int32)), .unset, .unset, .unset, .unset, .unset, .unset] []))
      refine Goes.go (fun _ k => XS.bipush X0.here hx rfl (hb hby at_19) k) ?_
      show Goes _ _ _ _ _ _ _ (s₁.setTop (mkF m 21 _ [(.int (8 : Int32))]))
      obtain ⟨T1, h1, X1, e1, E1, A1, st1⟩ := own_newP X0 hx hZ (aty := .byte) (hw _ (List.mem_of_getElem? (i := 0) rfl)) e0 (g := (mkF m 21 #[.val (.int p0), .val (.long p1), .second, .val (.int (2 : Int32)), .val (.int (1 : Int32)), .unset, .unset, .unset, .unset, .unset, .unset] [(.int (8 : Int32))])) rfl (hb hby at_21) rfl (n := (8 : Int32)) (by decide) (cap := 8) (by decide) (by decide) (by decide) (by decide)
      obtain ⟨ar21, gar21⟩ : ∃ z, z = h0.size := ⟨_, rfl⟩
      rw [← gar21] at A1 st1
      have Z1 : n0 ≤ h1.size := Nat.le_trans Z0 E1.1
      have ge_ar21 : n0 ≤ ar21 := Nat.le_trans Z0 (Nat.le_of_eq gar21.symm)
      have f : Arl Z h1 ar21 .byte [(.int (0 : Int32)), (.int (0 : Int32)), (.int (0 : Int32)), (.int (0 : Int32)), (.int (0 : Int32)), (.int (0 : Int32)), (.int (0 : Int32)), (.int (0 : Int32))] := A1
      refine Goes.go (st1) ?_
      show Goes _ _ _ _ _ _ _ (T1.setTop (mkF m 23 _ [(.ref ar21)]))
      refine Goes.go (fun _ k => XS.astore X1.here hx rfl (hb hby at_23) rfl rfl (l' := #[.val (.int p0), .val (.long p1), .second, .val (.int (2 : Int32)), .val (.int (1 : Int32)), .val (.ref ar21), .unset, .unset, .unset, .unset, .unset]) rfl k) ?_
      show Goes _ _ _ _ _ _ _ (T1.setTop (mkF m 25 #[.val (.int p0), .val (.long p1), .second, .val (.int (2 : Int32)), .val (.int (1 : Int32)), .val (.ref ar21), .unset, .unset, .unset, .unset, .unset] []))
      refine Goes.go (fun _ k => XS.aload X1.here hx rfl (hb hby at_25) rfl rfl k) ?_
      show Goes _ _ _ _ _ _ _ (T1.setTop (mkF m 27 _ [(.ref ar21)]))
      refine Goes.go (fun _ k => XS.iconst X1.here hx rfl (hb hby at_27) k) ?_
      show Goes _ _ _ _ _ _ _ (T1.setTop (mkF m 28 _ [(.int (0 : Int32)), (.ref ar21)]))
      refine Goes.go (fun _ k => XS.lloadN X1.here hx rfl (hb hby at_28) rfl k) ?_
      show Goes _ _ _ _ _ _ _ (T1.setTop (mkF m 29 _ [(.long p1), (.int (0 : Int32)), (.ref ar21)]))
      refine Goes.go (fun _ k => XS.l2i X1.here hx rfl (hb hby at_29) rfl k) ?_
      show Goes _ _ _ _ _ _ _ (T1.setTop (mkF m 30 _ [(.int (p1).toInt32), (.int (0 : Int32)), (.ref ar21)]))
      refine Goes.go (fun _ k => XS.i2b X1.here hx rfl (hb hby at_30) rfl k) ?_
      show Goes _ _ _ _ _ _ _ (T1.setTop (mkF m 31 _ [(.int ((p1).toInt32).toInt8.toInt32), (.int (0 : Int32)), (.ref ar21)]))
      obtain ⟨T2, h2, X2, e2, W2, A2, st2⟩ := own_stB X1 hx hZ e1 f (j := (0 : Int32)) (x := ((p1).toInt32).toInt8.toInt32) (by decide) (show (0 : Nat) < 8 by decide) (g := (mkF m 31 #[.val (.int p0), .val (.long p1), .second, .val (.int (2 : Int32)), .val (.int (1 : Int32)), .val (.ref ar21), .unset, .unset, .unset, .unset, .unset] [(.int ((p1).toInt32).toInt8.toInt32), (.int (0 : Int32)), (.ref ar21)])) rfl rfl (hb hby at_31)
      rw [own_nar8] at A2
      have N2 := Fr.snoc X2 N0 ge_ar21
      have Z2 : n0 ≤ h2.size := by rw [W2.size]; exact Z1
      have f_1 : Arl Z h2 ar21 .byte [(.int ((p1).toInt32).toInt8.toInt32), (.int (0 : Int32)), (.int (0 : Int32)), (.int (0 : Int32)), (.int (0 : Int32)), (.int (0 : Int32)), (.int (0 : Int32)), (.int (0 : Int32))] := A2
      refine Goes.go (st2) ?_
      show Goes _ _ _ _ _ _ _ (T2.setTop (mkF m 32 _ []))
      refine Goes.go (fun _ k => XS.aload X2.here hx rfl (hb hby at_32) rfl rfl k) ?_
      show Goes _ _ _ _ _ _ _ (T2.setTop (mkF m 34 _ [(.ref ar21)]))
      refine Goes.go (fun _ k => XS.iconst X2.here hx rfl (hb hby at_34) k) ?_
      show Goes _ _ _ _ _ _ _ (T2.setTop (mkF m 35 _ [(.int (1 : Int32)), (.ref ar21)]))
      refine Goes.go (fun _ k => XS.lloadN X2.here hx rfl (hb hby at_35) rfl k) ?_
      show Goes _ _ _ _ _ _ _ (T2.setTop (mkF m 36 _ [(.long p1), (.int (1 : Int32)), (.ref ar21)]))
      refine Goes.go (fun _ k => XS.bipush X2.here hx rfl (hb hby at_36) k) ?_
      show Goes _ _ _ _ _ _ _ (T2.setTop (mkF m 38 _ [(.int (8 : Int32)), (.long p1), (.int (1 : Int32)), (.ref ar21)]))
      refine Goes.go (fun _ k => XS.lushr X2.here hx rfl (hb hby at_38) rfl k) ?_
      show Goes _ _ _ _ _ _ _ (T2.setTop (mkF m 39 _ [(.long ((p1).toUInt64 >>> ((8 : Int32) &&& 0x3f).toInt64.toUInt64).toInt64), (.int (1 : Int32)), (.ref ar21)]))
      refine Goes.go (fun _ k => XS.l2i X2.here hx rfl (hb hby at_39) rfl k) ?_
      show Goes _ _ _ _ _ _ _ (T2.setTop (mkF m 40 _ [(.int (((p1).toUInt64 >>> ((8 : Int32) &&& 0x3f).toInt64.toUInt64).toInt64).toInt32), (.int (1 : Int32)), (.ref ar21)]))
      refine Goes.go (fun _ k => XS.i2b X2.here hx rfl (hb hby at_40) rfl k) ?_
      show Goes _ _ _ _ _ _ _ (T2.setTop (mkF m 41 _ [(.int ((((p1).toUInt64 >>> ((8 : Int32) &&& 0x3f).toInt64.toUInt64).toInt64).toInt32).toInt8.toInt32), (.int (1 : Int32)), (.ref ar21)]))
      obtain ⟨T3, h3, X3, e3, W3, A3, st3⟩ := own_stB X2 hx hZ e2 f_1 (j := (1 : Int32)) (x := ((((p1).toUInt64 >>> ((8 : Int32) &&& 0x3f).toInt64.toUInt64).toInt64).toInt32).toInt8.toInt32) (by decide) (show (1 : Nat) < 8 by decide) (g := (mkF m 41 #[.val (.int p0), .val (.long p1), .second, .val (.int (2 : Int32)), .val (.int (1 : Int32)), .val (.ref ar21), .unset, .unset, .unset, .unset, .unset] [(.int ((((p1).toUInt64 >>> ((8 : Int32) &&& 0x3f).toInt64.toUInt64).toInt64).toInt32).toInt8.toInt32), (.int (1 : Int32)), (.ref ar21)])) rfl rfl (hb hby at_41)
      rw [own_nar8] at A3
      have N3 := Fr.snoc X3 N2 ge_ar21
      have Z3 : n0 ≤ h3.size := by rw [W3.size]; exact Z2
      have f_2 : Arl Z h3 ar21 .byte [(.int ((p1).toInt32).toInt8.toInt32), (.int ((((p1).toUInt64 >>> ((8 : Int32) &&& 0x3f).toInt64.toUInt64).toInt64).toInt32).toInt8.toInt32), (.int (0 : Int32)), (.int (0 : Int32)), (.int (0 : Int32)), (.int (0 : Int32)), (.int (0 : Int32)), (.int (0 : Int32))] := A3
      refine Goes.go (st3) ?_
      show Goes _ _ _ _ _ _ _ (T3.setTop (mkF m 42 _ []))
      refine Goes.go (fun _ k => XS.aload X3.here hx rfl (hb hby at_42) rfl rfl k) ?_
      show Goes _ _ _ _ _ _ _ (T3.setTop (mkF m 44 _ [(.ref ar21)]))
      refine Goes.go (fun _ k => XS.iconst X3.here hx rfl (hb hby at_44) k) ?_
      show Goes _ _ _ _ _ _ _ (T3.setTop (mkF m 45 _ [(.int (2 : Int32)), (.ref ar21)]))
      refine Goes.go (fun _ k => XS.lloadN X3.here hx rfl (hb hby at_45) rfl k) ?_
      show Goes _ _ _ _ _ _ _ (T3.setTop (mkF m 46 _ [(.long p1), (.int (2 : Int32)), (.ref ar21)]))
      refine Goes.go (fun _ k => XS.bipush X3.here hx rfl (hb hby at_46) k) ?_
      show Goes _ _ _ _ _ _ _ (T3.setTop (mkF m 48 _ [(.int (16 : Int32)), (.long p1), (.int (2 : Int32)), (.ref ar21)]))
      refine Goes.go (fun _ k => XS.lushr X3.here hx rfl (hb hby at_48) rfl k) ?_
      show Goes _ _ _ _ _ _ _ (T3.setTop (mkF m 49 _ [(.long ((p1).toUInt64 >>> ((16 : Int32) &&& 0x3f).toInt64.toUInt64).toInt64), (.int (2 : Int32)), (.ref ar21)]))
      refine Goes.go (fun _ k => XS.l2i X3.here hx rfl (hb hby at_49) rfl k) ?_
      show Goes _ _ _ _ _ _ _ (T3.setTop (mkF m 50 _ [(.int (((p1).toUInt64 >>> ((16 : Int32) &&& 0x3f).toInt64.toUInt64).toInt64).toInt32), (.int (2 : Int32)), (.ref ar21)]))
      refine Goes.go (fun _ k => XS.i2b X3.here hx rfl (hb hby at_50) rfl k) ?_
      show Goes _ _ _ _ _ _ _ (T3.setTop (mkF m 51 _ [(.int ((((p1).toUInt64 >>> ((16 : Int32) &&& 0x3f).toInt64.toUInt64).toInt64).toInt32).toInt8.toInt32), (.int (2 : Int32)), (.ref ar21)]))
      obtain ⟨T4, h4, X4, e4, W4, A4, st4⟩ := own_stB X3 hx hZ e3 f_2 (j := (2 : Int32)) (x := ((((p1).toUInt64 >>> ((16 : Int32) &&& 0x3f).toInt64.toUInt64).toInt64).toInt32).toInt8.toInt32) (by decide) (show (2 : Nat) < 8 by decide) (g := (mkF m 51 #[.val (.int p0), .val (.long p1), .second, .val (.int (2 : Int32)), .val (.int (1 : Int32)), .val (.ref ar21), .unset, .unset, .unset, .unset, .unset] [(.int ((((p1).toUInt64 >>> ((16 : Int32) &&& 0x3f).toInt64.toUInt64).toInt64).toInt32).toInt8.toInt32), (.int (2 : Int32)), (.ref ar21)])) rfl rfl (hb hby at_51)
      rw [own_nar8] at A4
      have N4 := Fr.snoc X4 N3 ge_ar21
      have Z4 : n0 ≤ h4.size := by rw [W4.size]; exact Z3
      have f_3 : Arl Z h4 ar21 .byte [(.int ((p1).toInt32).toInt8.toInt32), (.int ((((p1).toUInt64 >>> ((8 : Int32) &&& 0x3f).toInt64.toUInt64).toInt64).toInt32).toInt8.toInt32), (.int ((((p1).toUInt64 >>> ((16 : Int32) &&& 0x3f).toInt64.toUInt64).toInt64).toInt32).toInt8.toInt32), (.int (0 : Int32)), (.int (0 : Int32)), (.int (0 : Int32)), (.int (0 : Int32)), (.int (0 : Int32))] := A4
      refine Goes.go (st4) ?_
      show Goes _ _ _ _ _ _ _ (T4.setTop (mkF m 52 _ []))
      refine Goes.go (fun _ k => XS.aload X4.here hx rfl (hb hby at_52) rfl rfl k) ?_
      show Goes _ _ _ _ _ _ _ (T4.setTop (mkF m 54 _ [(.ref ar21)]))
      refine Goes.go (fun _ k => XS.iconst X4.here hx rfl (hb hby at_54) k) ?_
      show Goes _ _ _ _ _ _ _ (T4.setTop (mkF m 55 _ [(.int (3 : Int32)), (.ref ar21)]))
      refine Goes.go (fun _ k => XS.lloadN X4.here hx rfl (hb hby at_55) rfl k) ?_
      show Goes _ _ _ _ _ _ _ (T4.setTop (mkF m 56 _ [(.long p1), (.int (3 : Int32)), (.ref ar21)]))
      refine Goes.go (fun _ k => XS.bipush X4.here hx rfl (hb hby at_56) k) ?_
      show Goes _ _ _ _ _ _ _ (T4.setTop (mkF m 58 _ [(.int (24 : Int32)), (.long p1), (.int (3 : Int32)), (.ref ar21)]))
      refine Goes.go (fun _ k => XS.lushr X4.here hx rfl (hb hby at_58) rfl k) ?_
      show Goes _ _ _ _ _ _ _ (T4.setTop (mkF m 59 _ [(.long ((p1).toUInt64 >>> ((24 : Int32) &&& 0x3f).toInt64.toUInt64).toInt64), (.int (3 : Int32)), (.ref ar21)]))
      refine Goes.go (fun _ k => XS.l2i X4.here hx rfl (hb hby at_59) rfl k) ?_
      show Goes _ _ _ _ _ _ _ (T4.setTop (mkF m 60 _ [(.int (((p1).toUInt64 >>> ((24 : Int32) &&& 0x3f).toInt64.toUInt64).toInt64).toInt32), (.int (3 : Int32)), (.ref ar21)]))
      refine Goes.go (fun _ k => XS.i2b X4.here hx rfl (hb hby at_60) rfl k) ?_
      show Goes _ _ _ _ _ _ _ (T4.setTop (mkF m 61 _ [(.int ((((p1).toUInt64 >>> ((24 : Int32) &&& 0x3f).toInt64.toUInt64).toInt64).toInt32).toInt8.toInt32), (.int (3 : Int32)), (.ref ar21)]))
      obtain ⟨T5, h5, X5, e5, W5, A5, st5⟩ := own_stB X4 hx hZ e4 f_3 (j := (3 : Int32)) (x := ((((p1).toUInt64 >>> ((24 : Int32) &&& 0x3f).toInt64.toUInt64).toInt64).toInt32).toInt8.toInt32) (by decide) (show (3 : Nat) < 8 by decide) (g := (mkF m 61 #[.val (.int p0), .val (.long p1), .second, .val (.int (2 : Int32)), .val (.int (1 : Int32)), .val (.ref ar21), .unset, .unset, .unset, .unset, .unset] [(.int ((((p1).toUInt64 >>> ((24 : Int32) &&& 0x3f).toInt64.toUInt64).toInt64).toInt32).toInt8.toInt32), (.int (3 : Int32)), (.ref ar21)])) rfl rfl (hb hby at_61)
      rw [own_nar8] at A5
      have N5 := Fr.snoc X5 N4 ge_ar21
      have Z5 : n0 ≤ h5.size := by rw [W5.size]; exact Z4
      have f_4 : Arl Z h5 ar21 .byte [(.int ((p1).toInt32).toInt8.toInt32), (.int ((((p1).toUInt64 >>> ((8 : Int32) &&& 0x3f).toInt64.toUInt64).toInt64).toInt32).toInt8.toInt32), (.int ((((p1).toUInt64 >>> ((16 : Int32) &&& 0x3f).toInt64.toUInt64).toInt64).toInt32).toInt8.toInt32), (.int ((((p1).toUInt64 >>> ((24 : Int32) &&& 0x3f).toInt64.toUInt64).toInt64).toInt32).toInt8.toInt32), (.int (0 : Int32)), (.int (0 : Int32)), (.int (0 : Int32)), (.int (0 : Int32))] := A5
      refine Goes.go (st5) ?_
      show Goes _ _ _ _ _ _ _ (T5.setTop (mkF m 62 _ []))
      refine Goes.go (fun _ k => XS.aload X5.here hx rfl (hb hby at_62) rfl rfl k) ?_
      show Goes _ _ _ _ _ _ _ (T5.setTop (mkF m 64 _ [(.ref ar21)]))
      refine Goes.go (fun _ k => XS.iconst X5.here hx rfl (hb hby at_64) k) ?_
      show Goes _ _ _ _ _ _ _ (T5.setTop (mkF m 65 _ [(.int (4 : Int32)), (.ref ar21)]))
      refine Goes.go (fun _ k => XS.lloadN X5.here hx rfl (hb hby at_65) rfl k) ?_
      show Goes _ _ _ _ _ _ _ (T5.setTop (mkF m 66 _ [(.long p1), (.int (4 : Int32)), (.ref ar21)]))
      refine Goes.go (fun _ k => XS.bipush X5.here hx rfl (hb hby at_66) k) ?_
      show Goes _ _ _ _ _ _ _ (T5.setTop (mkF m 68 _ [(.int (32 : Int32)), (.long p1), (.int (4 : Int32)), (.ref ar21)]))
      refine Goes.go (fun _ k => XS.lushr X5.here hx rfl (hb hby at_68) rfl k) ?_
      show Goes _ _ _ _ _ _ _ (T5.setTop (mkF m 69 _ [(.long ((p1).toUInt64 >>> ((32 : Int32) &&& 0x3f).toInt64.toUInt64).toInt64), (.int (4 : Int32)), (.ref ar21)]))
      refine Goes.go (fun _ k => XS.l2i X5.here hx rfl (hb hby at_69) rfl k) ?_
      show Goes _ _ _ _ _ _ _ (T5.setTop (mkF m 70 _ [(.int (((p1).toUInt64 >>> ((32 : Int32) &&& 0x3f).toInt64.toUInt64).toInt64).toInt32), (.int (4 : Int32)), (.ref ar21)]))
      refine Goes.go (fun _ k => XS.i2b X5.here hx rfl (hb hby at_70) rfl k) ?_
      show Goes _ _ _ _ _ _ _ (T5.setTop (mkF m 71 _ [(.int ((((p1).toUInt64 >>> ((32 : Int32) &&& 0x3f).toInt64.toUInt64).toInt64).toInt32).toInt8.toInt32), (.int (4 : Int32)), (.ref ar21)]))
      obtain ⟨T6, h6, X6, e6, W6, A6, st6⟩ := own_stB X5 hx hZ e5 f_4 (j := (4 : Int32)) (x := ((((p1).toUInt64 >>> ((32 : Int32) &&& 0x3f).toInt64.toUInt64).toInt64).toInt32).toInt8.toInt32) (by decide) (show (4 : Nat) < 8 by decide) (g := (mkF m 71 #[.val (.int p0), .val (.long p1), .second, .val (.int (2 : Int32)), .val (.int (1 : Int32)), .val (.ref ar21), .unset, .unset, .unset, .unset, .unset] [(.int ((((p1).toUInt64 >>> ((32 : Int32) &&& 0x3f).toInt64.toUInt64).toInt64).toInt32).toInt8.toInt32), (.int (4 : Int32)), (.ref ar21)])) rfl rfl (hb hby at_71)
      rw [own_nar8] at A6
      have N6 := Fr.snoc X6 N5 ge_ar21
      have Z6 : n0 ≤ h6.size := by rw [W6.size]; exact Z5
      have f_5 : Arl Z h6 ar21 .byte [(.int ((p1).toInt32).toInt8.toInt32), (.int ((((p1).toUInt64 >>> ((8 : Int32) &&& 0x3f).toInt64.toUInt64).toInt64).toInt32).toInt8.toInt32), (.int ((((p1).toUInt64 >>> ((16 : Int32) &&& 0x3f).toInt64.toUInt64).toInt64).toInt32).toInt8.toInt32), (.int ((((p1).toUInt64 >>> ((24 : Int32) &&& 0x3f).toInt64.toUInt64).toInt64).toInt32).toInt8.toInt32), (.int ((((p1).toUInt64 >>> ((32 : Int32) &&& 0x3f).toInt64.toUInt64).toInt64).toInt32).toInt8.toInt32), (.int (0 : Int32)), (.int (0 : Int32)), (.int (0 : Int32))] := A6
      refine Goes.go (st6) ?_
      show Goes _ _ _ _ _ _ _ (T6.setTop (mkF m 72 _ []))
      refine Goes.go (fun _ k => XS.aload X6.here hx rfl (hb hby at_72) rfl rfl k) ?_
      show Goes _ _ _ _ _ _ _ (T6.setTop (mkF m 74 _ [(.ref ar21)]))
      refine Goes.go (fun _ k => XS.iconst X6.here hx rfl (hb hby at_74) k) ?_
      show Goes _ _ _ _ _ _ _ (T6.setTop (mkF m 75 _ [(.int (5 : Int32)), (.ref ar21)]))
      refine Goes.go (fun _ k => XS.lloadN X6.here hx rfl (hb hby at_75) rfl k) ?_
      show Goes _ _ _ _ _ _ _ (T6.setTop (mkF m 76 _ [(.long p1), (.int (5 : Int32)), (.ref ar21)]))
      refine Goes.go (fun _ k => XS.bipush X6.here hx rfl (hb hby at_76) k) ?_
      show Goes _ _ _ _ _ _ _ (T6.setTop (mkF m 78 _ [(.int (40 : Int32)), (.long p1), (.int (5 : Int32)), (.ref ar21)]))
      refine Goes.go (fun _ k => XS.lushr X6.here hx rfl (hb hby at_78) rfl k) ?_
      show Goes _ _ _ _ _ _ _ (T6.setTop (mkF m 79 _ [(.long ((p1).toUInt64 >>> ((40 : Int32) &&& 0x3f).toInt64.toUInt64).toInt64), (.int (5 : Int32)), (.ref ar21)]))
      refine Goes.go (fun _ k => XS.l2i X6.here hx rfl (hb hby at_79) rfl k) ?_
      show Goes _ _ _ _ _ _ _ (T6.setTop (mkF m 80 _ [(.int (((p1).toUInt64 >>> ((40 : Int32) &&& 0x3f).toInt64.toUInt64).toInt64).toInt32), (.int (5 : Int32)), (.ref ar21)]))
      refine Goes.go (fun _ k => XS.i2b X6.here hx rfl (hb hby at_80) rfl k) ?_
      show Goes _ _ _ _ _ _ _ (T6.setTop (mkF m 81 _ [(.int ((((p1).toUInt64 >>> ((40 : Int32) &&& 0x3f).toInt64.toUInt64).toInt64).toInt32).toInt8.toInt32), (.int (5 : Int32)), (.ref ar21)]))
      obtain ⟨T7, h7, X7, e7, W7, A7, st7⟩ := own_stB X6 hx hZ e6 f_5 (j := (5 : Int32)) (x := ((((p1).toUInt64 >>> ((40 : Int32) &&& 0x3f).toInt64.toUInt64).toInt64).toInt32).toInt8.toInt32) (by decide) (show (5 : Nat) < 8 by decide) (g := (mkF m 81 #[.val (.int p0), .val (.long p1), .second, .val (.int (2 : Int32)), .val (.int (1 : Int32)), .val (.ref ar21), .unset, .unset, .unset, .unset, .unset] [(.int ((((p1).toUInt64 >>> ((40 : Int32) &&& 0x3f).toInt64.toUInt64).toInt64).toInt32).toInt8.toInt32), (.int (5 : Int32)), (.ref ar21)])) rfl rfl (hb hby at_81)
      rw [own_nar8] at A7
      have N7 := Fr.snoc X7 N6 ge_ar21
      have Z7 : n0 ≤ h7.size := by rw [W7.size]; exact Z6
      have f_6 : Arl Z h7 ar21 .byte [(.int ((p1).toInt32).toInt8.toInt32), (.int ((((p1).toUInt64 >>> ((8 : Int32) &&& 0x3f).toInt64.toUInt64).toInt64).toInt32).toInt8.toInt32), (.int ((((p1).toUInt64 >>> ((16 : Int32) &&& 0x3f).toInt64.toUInt64).toInt64).toInt32).toInt8.toInt32), (.int ((((p1).toUInt64 >>> ((24 : Int32) &&& 0x3f).toInt64.toUInt64).toInt64).toInt32).toInt8.toInt32), (.int ((((p1).toUInt64 >>> ((32 : Int32) &&& 0x3f).toInt64.toUInt64).toInt64).toInt32).toInt8.toInt32), (.int ((((p1).toUInt64 >>> ((40 : Int32) &&& 0x3f).toInt64.toUInt64).toInt64).toInt32).toInt8.toInt32), (.int (0 : Int32)), (.int (0 : Int32))] := A7
      refine Goes.go (st7) ?_
      show Goes _ _ _ _ _ _ _ (T7.setTop (mkF m 82 _ []))
      refine Goes.go (fun _ k => XS.aload X7.here hx rfl (hb hby at_82) rfl rfl k) ?_
      show Goes _ _ _ _ _ _ _ (T7.setTop (mkF m 84 _ [(.ref ar21)]))
      refine Goes.go (fun _ k => XS.bipush X7.here hx rfl (hb hby at_84) k) ?_
      show Goes _ _ _ _ _ _ _ (T7.setTop (mkF m 86 _ [(.int (6 : Int32)), (.ref ar21)]))
      refine Goes.go (fun _ k => XS.lloadN X7.here hx rfl (hb hby at_86) rfl k) ?_
      show Goes _ _ _ _ _ _ _ (T7.setTop (mkF m 87 _ [(.long p1), (.int (6 : Int32)), (.ref ar21)]))
      refine Goes.go (fun _ k => XS.bipush X7.here hx rfl (hb hby at_87) k) ?_
      show Goes _ _ _ _ _ _ _ (T7.setTop (mkF m 89 _ [(.int (48 : Int32)), (.long p1), (.int (6 : Int32)), (.ref ar21)]))
      refine Goes.go (fun _ k => XS.lushr X7.here hx rfl (hb hby at_89) rfl k) ?_
      show Goes _ _ _ _ _ _ _ (T7.setTop (mkF m 90 _ [(.long ((p1).toUInt64 >>> ((48 : Int32) &&& 0x3f).toInt64.toUInt64).toInt64), (.int (6 : Int32)), (.ref ar21)]))
      refine Goes.go (fun _ k => XS.l2i X7.here hx rfl (hb hby at_90) rfl k) ?_
      show Goes _ _ _ _ _ _ _ (T7.setTop (mkF m 91 _ [(.int (((p1).toUInt64 >>> ((48 : Int32) &&& 0x3f).toInt64.toUInt64).toInt64).toInt32), (.int (6 : Int32)), (.ref ar21)]))
      refine Goes.go (fun _ k => XS.i2b X7.here hx rfl (hb hby at_91) rfl k) ?_
      show Goes _ _ _ _ _ _ _ (T7.setTop (mkF m 92 _ [(.int ((((p1).toUInt64 >>> ((48 : Int32) &&& 0x3f).toInt64.toUInt64).toInt64).toInt32).toInt8.toInt32), (.int (6 : Int32)), (.ref ar21)]))
      obtain ⟨T8, h8, X8, e8, W8, A8, st8⟩ := own_stB X7 hx hZ e7 f_6 (j := (6 : Int32)) (x := ((((p1).toUInt64 >>> ((48 : Int32) &&& 0x3f).toInt64.toUInt64).toInt64).toInt32).toInt8.toInt32) (by decide) (show (6 : Nat) < 8 by decide) (g := (mkF m 92 #[.val (.int p0), .val (.long p1), .second, .val (.int (2 : Int32)), .val (.int (1 : Int32)), .val (.ref ar21), .unset, .unset, .unset, .unset, .unset] [(.int ((((p1).toUInt64 >>> ((48 : Int32) &&& 0x3f).toInt64.toUInt64).toInt64).toInt32).toInt8.toInt32), (.int (6 : Int32)), (.ref ar21)])) rfl rfl (hb hby at_92)
      rw [own_nar8] at A8
      have N8 := Fr.snoc X8 N7 ge_ar21
      have Z8 : n0 ≤ h8.size := by rw [W8.size]; exact Z7
      have f_7 : Arl Z h8 ar21 .byte [(.int ((p1).toInt32).toInt8.toInt32), (.int ((((p1).toUInt64 >>> ((8 : Int32) &&& 0x3f).toInt64.toUInt64).toInt64).toInt32).toInt8.toInt32), (.int ((((p1).toUInt64 >>> ((16 : Int32) &&& 0x3f).toInt64.toUInt64).toInt64).toInt32).toInt8.toInt32), (.int ((((p1).toUInt64 >>> ((24 : Int32) &&& 0x3f).toInt64.toUInt64).toInt64).toInt32).toInt8.toInt32), (.int ((((p1).toUInt64 >>> ((32 : Int32) &&& 0x3f).toInt64.toUInt64).toInt64).toInt32).toInt8.toInt32), (.int ((((p1).toUInt64 >>> ((40 : Int32) &&& 0x3f).toInt64.toUInt64).toInt64).toInt32).toInt8.toInt32), (.int ((((p1).toUInt64 >>> ((48 : Int32) &&& 0x3f).toInt64.toUInt64).toInt64).toInt32).toInt8.toInt32), (.int (0 : Int32))] := A8
      refine Goes.go (st8) ?_
      show Goes _ _ _ _ _ _ _ (T8.setTop (mkF m 93 _ []))
      refine Goes.go (fun _ k => XS.aload X8.here hx rfl (hb hby at_93) rfl rfl k) ?_
      show Goes _ _ _ _ _ _ _ (T8.setTop (mkF m 95 _ [(.ref ar21)]))
      refine Goes.go (fun _ k => XS.bipush X8.here hx rfl (hb hby at_95) k) ?_
      show Goes _ _ _ _ _ _ _ (T8.setTop (mkF m 97 _ [(.int (7 : Int32)), (.ref ar21)]))
      refine Goes.go (fun _ k => XS.lloadN X8.here hx rfl (hb hby at_97) rfl k) ?_
      show Goes _ _ _ _ _ _ _ (T8.setTop (mkF m 98 _ [(.long p1), (.int (7 : Int32)), (.ref ar21)]))
      refine Goes.go (fun _ k => XS.bipush X8.here hx rfl (hb hby at_98) k) ?_
      show Goes _ _ _ _ _ _ _ (T8.setTop (mkF m 100 _ [(.int (56 : Int32)), (.long p1), (.int (7 : Int32)), (.ref ar21)]))
      refine Goes.go (fun _ k => XS.lushr X8.here hx rfl (hb hby at_100) rfl k) ?_
      show Goes _ _ _ _ _ _ _ (T8.setTop (mkF m 101 _ [(.long ((p1).toUInt64 >>> ((56 : Int32) &&& 0x3f).toInt64.toUInt64).toInt64), (.int (7 : Int32)), (.ref ar21)]))
      refine Goes.go (fun _ k => XS.l2i X8.here hx rfl (hb hby at_101) rfl k) ?_
      show Goes _ _ _ _ _ _ _ (T8.setTop (mkF m 102 _ [(.int (((p1).toUInt64 >>> ((56 : Int32) &&& 0x3f).toInt64.toUInt64).toInt64).toInt32), (.int (7 : Int32)), (.ref ar21)]))
      refine Goes.go (fun _ k => XS.i2b X8.here hx rfl (hb hby at_102) rfl k) ?_
      show Goes _ _ _ _ _ _ _ (T8.setTop (mkF m 103 _ [(.int ((((p1).toUInt64 >>> ((56 : Int32) &&& 0x3f).toInt64.toUInt64).toInt64).toInt32).toInt8.toInt32), (.int (7 : Int32)), (.ref ar21)]))
      obtain ⟨T9, h9, X9, e9, W9, A9, st9⟩ := own_stB X8 hx hZ e8 f_7 (j := (7 : Int32)) (x := ((((p1).toUInt64 >>> ((56 : Int32) &&& 0x3f).toInt64.toUInt64).toInt64).toInt32).toInt8.toInt32) (by decide) (show (7 : Nat) < 8 by decide) (g := (mkF m 103 #[.val (.int p0), .val (.long p1), .second, .val (.int (2 : Int32)), .val (.int (1 : Int32)), .val (.ref ar21), .unset, .unset, .unset, .unset, .unset] [(.int ((((p1).toUInt64 >>> ((56 : Int32) &&& 0x3f).toInt64.toUInt64).toInt64).toInt32).toInt8.toInt32), (.int (7 : Int32)), (.ref ar21)])) rfl rfl (hb hby at_103)
      rw [own_nar8] at A9
      have N9 := Fr.snoc X9 N8 ge_ar21
      have Z9 : n0 ≤ h9.size := by rw [W9.size]; exact Z8
      have f_8 : Arl Z h9 ar21 .byte [(.int ((p1).toInt32).toInt8.toInt32), (.int ((((p1).toUInt64 >>> ((8 : Int32) &&& 0x3f).toInt64.toUInt64).toInt64).toInt32).toInt8.toInt32), (.int ((((p1).toUInt64 >>> ((16 : Int32) &&& 0x3f).toInt64.toUInt64).toInt64).toInt32).toInt8.toInt32), (.int ((((p1).toUInt64 >>> ((24 : Int32) &&& 0x3f).toInt64.toUInt64).toInt64).toInt32).toInt8.toInt32), (.int ((((p1).toUInt64 >>> ((32 : Int32) &&& 0x3f).toInt64.toUInt64).toInt64).toInt32).toInt8.toInt32), (.int ((((p1).toUInt64 >>> ((40 : Int32) &&& 0x3f).toInt64.toUInt64).toInt64).toInt32).toInt8.toInt32), (.int ((((p1).toUInt64 >>> ((48 : Int32) &&& 0x3f).toInt64.toUInt64).toInt64).toInt32).toInt8.toInt32), (.int ((((p1).toUInt64 >>> ((56 : Int32) &&& 0x3f).toInt64.toUInt64).toInt64).toInt32).toInt8.toInt32)] := A9
      refine Goes.go (st9) ?_
      show Goes _ _ _ _ _ _ _ (T9.setTop (mkF m 104 _ []))
      refine Goes.go (fun _ k => XS.iload X9.here hx rfl (hb hby at_104) rfl k) ?_
      show Goes _ _ _ _ _ _ _ (T9.setTop (mkF m 106 _ [(.int (1 : Int32))]))
      refine Goes.go (fun _ k => XS.ifNo X9.here hx rfl (hb hby at_106) rfl (XT.i0_eq_f (by decide)) k) ?_
      show Goes _ _ _ _ _ _ _ (T9.setTop (mkF m 109 _ []))
      refine Goes.go (fun _ k => XS.iconst X9.here hx rfl (hb hby at_109) k) ?_
      show Goes _ _ _ _ _ _ _ (T9.setTop (mkF m 110 _ [(.int (2 : Int32))]))
      refine Goes.go (fun _ k => XS.goto X9.here hx rfl (pc0 := 110) (pc' := 114) rfl (hb hby at_110) (by decide) (by decide) k) ?_
      show Goes _ _ _ _ _ _ _ (T9.setTop (mkF m 114 _ [(.int (2 : Int32))]))
      refine Goes.go (fun _ k => XS.istore X9.here hx rfl (hb hby at_114) rfl (l' := #[.val (.int p0), .val (.long p1), .second, .val (.int (2 : Int32)), .val (.int (1 : Int32)), .val (.ref ar21), .val (.int (2 : Int32)), .unset, .unset, .unset, .unset]) rfl k) ?_
      show Goes _ _ _ _ _ _ _ (T9.setTop (mkF m 116 #[.val (.int p0), .val (.long p1), .second, .val (.int (2 : Int32)), .val (.int (1 : Int32)), .val (.ref ar21), .val (.int (2 : Int32)), .unset, .unset, .unset, .unset] []))
      refine Goes.go (fun _ k => XS.bipush X9.here hx rfl (hb hby at_116) k) ?_
      show Goes _ _ _ _ _ _ _ (T9.setTop (mkF m 118 _ [(.int (8 : Int32))]))
      refine Goes.go (fun _ k => XS.iload X9.here hx rfl (hb hby at_118) rfl k) ?_
      show Goes _ _ _ _ _ _ _ (T9.setTop (mkF m 120 _ [(.int (2 : Int32)), (.int (8 : Int32))]))
      refine Goes.go (fun _ k => XS.isub X9.here hx rfl (hb hby at_120) rfl k) ?_
      show Goes _ _ _ _ _ _ _ (T9.setTop (mkF m 121 _ [(.int (6 : Int32))]))
      refine Goes.go (fun _ k => XS.iloadN X9.here hx rfl (hb hby at_121) rfl k) ?_
      show Goes _ _ _ _ _ _ _ (T9.setTop (mkF m 122 _ [(.int (2 : Int32)), (.int (6 : Int32))]))
      refine Goes.go (fun _ k => XS.isub X9.here hx rfl (hb hby at_122) rfl k) ?_
      show Goes _ _ _ _ _ _ _ (T9.setTop (mkF m 123 _ [(.int (4 : Int32))]))
      refine Goes.go (fun _ k => XS.istore X9.here hx rfl (hb hby at_123) rfl (l' := #[.val (.int p0), .val (.long p1), .second, .val (.int (2 : Int32)), .val (.int (1 : Int32)), .val (.ref ar21), .val (.int (2 : Int32)), .val (.int (4 : Int32)), .unset, .unset, .unset]) rfl k) ?_
      show Goes _ _ _ _ _ _ _ (T9.setTop (mkF m 125 #[.val (.int p0), .val (.long p1), .second, .val (.int (2 : Int32)), .val (.int (1 : Int32)), .val (.ref ar21), .val (.int (2 : Int32)), .val (.int (4 : Int32)), .unset, .unset, .unset] []))
      refine Goes.go (fun _ k => XS.iloadN X9.here hx rfl (hb hby at_125) rfl k) ?_
      show Goes _ _ _ _ _ _ _ (T9.setTop (mkF m 126 _ [(.int (2 : Int32))]))
      refine Goes.go (fun _ k => XS.iconst X9.here hx rfl (hb hby at_126) k) ?_
      show Goes _ _ _ _ _ _ _ (T9.setTop (mkF m 127 _ [(.int (1 : Int32)), (.int (2 : Int32))]))
      refine Goes.go (fun _ k => XS.icmpNo X9.here hx rfl (hb hby at_127) rfl (XT.ii_lt_f (by decide)) k) ?_
      show Goes _ _ _ _ _ _ _ (T9.setTop (mkF m 130 _ []))
      refine Goes.go (fun _ k => XS.aload X9.here hx rfl (hb hby at_130) rfl rfl k) ?_
      show Goes _ _ _ _ _ _ _ (T9.setTop (mkF m 132 _ [(.ref ar21)]))
      refine Goes.go (fun _ k => XS.iload X9.here hx rfl (hb hby at_132) rfl k) ?_
      show Goes _ _ _ _ _ _ _ (T9.setTop (mkF m 134 _ [(.int (4 : Int32)), (.ref ar21)]))
      refine Goes.go (fun _ k => XS.aload X9.here hx rfl (hb hby at_134) rfl rfl k) ?_
      show Goes _ _ _ _ _ _ _ (T9.setTop (mkF m 136 _ [(.ref ar21), (.int (4 : Int32)), (.ref ar21)]))
      refine Goes.go (fun _ k => XS.iload X9.here hx rfl (hb hby at_136) rfl k) ?_
      show Goes _ _ _ _ _ _ _ (T9.setTop (mkF m 138 _ [(.int (4 : Int32)), (.ref ar21), (.int (4 : Int32)), (.ref ar21)]))
      refine Goes.go (own_ldB X9 hx hZ e9 f_8 (j := (4 : Int32)) (v := (.int ((((p1).toUInt64 >>> ((32 : Int32) &&& 0x3f).toInt64.toUInt64).toInt64).toInt32).toInt8.toInt32)) (by decide) rfl rfl rfl (hb hby at_138)) ?_
      show Goes _ _ _ _ _ _ _ (T9.setTop (mkF m 139 _ [(.int ((((p1).toUInt64 >>> ((32 : Int32) &&& 0x3f).toInt64.toUInt64).toInt64).toInt32).toInt8.toInt32), (.int (4 : Int32)), (.ref ar21)]))
      refine Goes.go (fun _ k => XS.bipush X9.here hx rfl (hb hby at_139) k) ?_
      show Goes _ _ _ _ _ _ _ (T9.setTop (mkF m 141 _ [(.int (127 : Int32)), (.int ((((p1).toUInt64 >>> ((32 : Int32) &&& 0x3f).toInt64.toUInt64).toInt64).toInt32).toInt8.toInt32), (.int (4 : Int32)), (.ref ar21)]))
      refine Goes.go (fun _ k => XS.iand X9.here hx rfl (hb hby at_141) rfl k) ?_
      show Goes _ _ _ _ _ _ _ (T9.setTop (mkF m 142 _ [(.int (((((p1).toUInt64 >>> ((32 : Int32) &&& 0x3f).toInt64.toUInt64).toInt64).toInt32).toInt8.toInt32 &&& (127 : Int32))), (.int (4 : Int32)), (.ref ar21)]))
      refine Goes.go (fun _ k => XS.i2b X9.here hx rfl (hb hby at_142) rfl k) ?_
      show Goes _ _ _ _ _ _ _ (T9.setTop (mkF m 143 _ [(.int ((((((p1).toUInt64 >>> ((32 : Int32) &&& 0x3f).toInt64.toUInt64).toInt64).toInt32).toInt8.toInt32 &&& (127 : Int32))).toInt8.toInt32), (.int (4 : Int32)), (.ref ar21)]))
      obtain ⟨T10, h10, X10, e10, W10, A10, st10⟩ := own_stB X9 hx hZ e9 f_8 (j := (4 : Int32)) (x := ((((((p1).toUInt64 >>> ((32 : Int32) &&& 0x3f).toInt64.toUInt64).toInt64).toInt32).toInt8.toInt32 &&& (127 : Int32))).toInt8.toInt32) (by decide) (show (4 : Nat) < 8 by decide) (g := (mkF m 143 #[.val (.int p0), .val (.long p1), .second, .val (.int (2 : Int32)), .val (.int (1 : Int32)), .val (.ref ar21), .val (.int (2 : Int32)), .val (.int (4 : Int32)), .unset, .unset, .unset] [(.int ((((((p1).toUInt64 >>> ((32 : Int32) &&& 0x3f).toInt64.toUInt64).toInt64).toInt32).toInt8.toInt32 &&& (127 : Int32))).toInt8.toInt32), (.int (4 : Int32)), (.ref ar21)])) rfl rfl (hb hby at_143)
      rw [own_nar8] at A10
      have N10 := Fr.snoc X10 N9 ge_ar21
      have Z10 : n0 ≤ h10.size := by rw [W10.size]; exact Z9
      have f_9 : Arl Z h10 ar21 .byte [(.int ((p1).toInt32).toInt8.toInt32), (.int ((((p1).toUInt64 >>> ((8 : Int32) &&& 0x3f).toInt64.toUInt64).toInt64).toInt32).toInt8.toInt32), (.int ((((p1).toUInt64 >>> ((16 : Int32) &&& 0x3f).toInt64.toUInt64).toInt64).toInt32).toInt8.toInt32), (.int ((((p1).toUInt64 >>> ((24 : Int32) &&& 0x3f).toInt64.toUInt64).toInt64).toInt32).toInt8.toInt32), (.int ((((((p1).toUInt64 >>> ((32 : Int32) &&& 0x3f).toInt64.toUInt64).toInt64).toInt32).toInt8.toInt32 &&& (127 : Int32))).toInt8.toInt32), (.int ((((p1).toUInt64 >>> ((40 : Int32) &&& 0x3f).toInt64.toUInt64).toInt64).toInt32).toInt8.toInt32), (.int ((((p1).toUInt64 >>> ((48 : Int32) &&& 0x3f).toInt64.toUInt64).toInt64).toInt32).toInt8.toInt32), (.int ((((p1).toUInt64 >>> ((56 : Int32) &&& 0x3f).toInt64.toUInt64).toInt64).toInt32).toInt8.toInt32)] := A10
      refine Goes.go (st10) ?_
      show Goes _ _ _ _ _ _ _ (T10.setTop (mkF m 144 _ []))
      refine Goes.go (fun _ k => XS.iloadN X10.here hx rfl (hb hby at_144) rfl k) ?_
      show Goes _ _ _ _ _ _ _ (T10.setTop (mkF m 145 _ [(.int (2 : Int32))]))
      refine Goes.go (fun _ k => XS.iconst X10.here hx rfl (hb hby at_145) k) ?_
      show Goes _ _ _ _ _ _ _ (T10.setTop (mkF m 146 _ [(.int (2 : Int32)), (.int (2 : Int32))]))
      refine Goes.go (fun _ k => XS.icmpNo X10.here hx rfl (hb hby at_146) rfl (XT.ii_lt_f (by decide)) k) ?_
      show Goes _ _ _ _ _ _ _ (T10.setTop (mkF m 149 _ []))
      refine Goes.go (fun _ k => XS.aload X10.here hx rfl (hb hby at_149) rfl rfl k) ?_
      show Goes _ _ _ _ _ _ _ (T10.setTop (mkF m 151 _ [(.ref ar21)]))
      refine Goes.go (fun _ k => XS.iload X10.here hx rfl (hb hby at_151) rfl k) ?_
      show Goes _ _ _ _ _ _ _ (T10.setTop (mkF m 153 _ [(.int (4 : Int32)), (.ref ar21)]))
      refine Goes.go (fun _ k => XS.iconst X10.here hx rfl (hb hby at_153) k) ?_
      show Goes _ _ _ _ _ _ _ (T10.setTop (mkF m 154 _ [(.int (1 : Int32)), (.int (4 : Int32)), (.ref ar21)]))
      refine Goes.go (fun _ k => XS.iadd X10.here hx rfl (hb hby at_154) rfl k) ?_
      show Goes _ _ _ _ _ _ _ (T10.setTop (mkF m 155 _ [(.int (5 : Int32)), (.ref ar21)]))
      refine Goes.go (fun _ k => XS.aload X10.here hx rfl (hb hby at_155) rfl rfl k) ?_
      show Goes _ _ _ _ _ _ _ (T10.setTop (mkF m 157 _ [(.ref ar21), (.int (5 : Int32)), (.ref ar21)]))
      refine Goes.go (fun _ k => XS.iload X10.here hx rfl (hb hby at_157) rfl k) ?_
      show Goes _ _ _ _ _ _ _ (T10.setTop (mkF m 159 _ [(.int (4 : Int32)), (.ref ar21), (.int (5 : Int32)), (.ref ar21)]))
      refine Goes.go (fun _ k => XS.iconst X10.here hx rfl (hb hby at_159) k) ?_
      show Goes _ _ _ _ _ _ _ (T10.setTop (mkF m 160 _ [(.int (1 : Int32)), (.int (4 : Int32)), (.ref ar21), (.int (5 : Int32)), (.ref ar21)]))
      refine Goes.go (fun _ k => XS.iadd X10.here hx rfl (hb hby at_160) rfl k) ?_
      show Goes _ _ _ _ _ _ _ (T10.setTop (mkF m 161 _ [(.int (5 : Int32)), (.ref ar21), (.int (5 : Int32)), (.ref ar21)]))
      refine Goes.go (own_ldB X10 hx hZ e10 f_9 (j := (5 : Int32)) (v := (.int ((((p1).toUInt64 >>> ((40 : Int32) &&& 0x3f).toInt64.toUInt64).toInt64).toInt32).toInt8.toInt32)) (by decide) rfl rfl rfl (hb hby at_161)) ?_
      show Goes _ _ _ _ _ _ _ (T10.setTop (mkF m 162 _ [(.int ((((p1).toUInt64 >>> ((40 : Int32) &&& 0x3f).toInt64.toUInt64).toInt64).toInt32).toInt8.toInt32), (.int (5 : Int32)), (.ref ar21)]))
      refine Goes.go (fun _ k => XS.bipush X10.here hx rfl (hb hby at_162) k) ?_
      show Goes _ _ _ _ _ _ _ (T10.setTop (mkF m 164 _ [(.int (127 : Int32)), (.int ((((p1).toUInt64 >>> ((40 : Int32) &&& 0x3f).toInt64.toUInt64).toInt64).toInt32).toInt8.toInt32), (.int (5 : Int32)), (.ref ar21)]))
      refine Goes.go (fun _ k => XS.iand X10.here hx rfl (hb hby at_164) rfl k) ?_
      show Goes _ _ _ _ _ _ _ (T10.setTop (mkF m 165 _ [(.int (((((p1).toUInt64 >>> ((40 : Int32) &&& 0x3f).toInt64.toUInt64).toInt64).toInt32).toInt8.toInt32 &&& (127 : Int32))), (.int (5 : Int32)), (.ref ar21)]))
      refine Goes.go (fun _ k => XS.i2b X10.here hx rfl (hb hby at_165) rfl k) ?_
      show Goes _ _ _ _ _ _ _ (T10.setTop (mkF m 166 _ [(.int ((((((p1).toUInt64 >>> ((40 : Int32) &&& 0x3f).toInt64.toUInt64).toInt64).toInt32).toInt8.toInt32 &&& (127 : Int32))).toInt8.toInt32), (.int (5 : Int32)), (.ref ar21)]))
      obtain ⟨T11, h11, X11, e11, W11, A11, st11⟩ := own_stB X10 hx hZ e10 f_9 (j := (5 : Int32)) (x := ((((((p1).toUInt64 >>> ((40 : Int32) &&& 0x3f).toInt64.toUInt64).toInt64).toInt32).toInt8.toInt32 &&& (127 : Int32))).toInt8.toInt32) (by decide) (show (5 : Nat) < 8 by decide) (g := (mkF m 166 #[.val (.int p0), .val (.long p1), .second, .val (.int (2 : Int32)), .val (.int (1 : Int32)), .val (.ref ar21), .val (.int (2 : Int32)), .val (.int (4 : Int32)), .unset, .unset, .unset] [(.int ((((((p1).toUInt64 >>> ((40 : Int32) &&& 0x3f).toInt64.toUInt64).toInt64).toInt32).toInt8.toInt32 &&& (127 : Int32))).toInt8.toInt32), (.int (5 : Int32)), (.ref ar21)])) rfl rfl (hb hby at_166)
      rw [own_nar8] at A11
      have N11 := Fr.snoc X11 N10 ge_ar21
      have Z11 : n0 ≤ h11.size := by rw [W11.size]; exact Z10
      have f_10 : Arl Z h11 ar21 .byte [(.int ((p1).toInt32).toInt8.toInt32), (.int ((((p1).toUInt64 >>> ((8 : Int32) &&& 0x3f).toInt64.toUInt64).toInt64).toInt32).toInt8.toInt32), (.int ((((p1).toUInt64 >>> ((16 : Int32) &&& 0x3f).toInt64.toUInt64).toInt64).toInt32).toInt8.toInt32), (.int ((((p1).toUInt64 >>> ((24 : Int32) &&& 0x3f).toInt64.toUInt64).toInt64).toInt32).toInt8.toInt32), (.int ((((((p1).toUInt64 >>> ((32 : Int32) &&& 0x3f).toInt64.toUInt64).toInt64).toInt32).toInt8.toInt32 &&& (127 : Int32))).toInt8.toInt32), (.int ((((((p1).toUInt64 >>> ((40 : Int32) &&& 0x3f).toInt64.toUInt64).toInt64).toInt32).toInt8.toInt32 &&& (127 : Int32))).toInt8.toInt32), (.int ((((p1).toUInt64 >>> ((48 : Int32) &&& 0x3f).toInt64.toUInt64).toInt64).toInt32).toInt8.toInt32), (.int ((((p1).toUInt64 >>> ((56 : Int32) &&& 0x3f).toInt64.toUInt64).toInt64).toInt32).toInt8.toInt32)] := A11
      refine Goes.go (st11) ?_
      show Goes _ _ _ _ _ _ _ (T11.setTop (mkF m 167 _ []))
      refine Goes.go (fun _ k => XS.iloadN X11.here hx rfl (hb hby at_167) rfl k) ?_
      show Goes _ _ _ _ _ _ _ (T11.setTop (mkF m 168 _ [(.int (2 : Int32))]))
      refine Goes.go (fun _ k => XS.iconst X11.here hx rfl (hb hby at_168) k) ?_
      show Goes _ _ _ _ _ _ _ (T11.setTop (mkF m 169 _ [(.int (3 : Int32)), (.int (2 : Int32))]))
      refine Goes.go (fun _ k => XS.icmpYes X11.here hx rfl (pc0 := 169) (pc' := 190) rfl (hb hby at_169) rfl (XT.ii_lt_t (by decide)) (by decide) (by decide) k) ?_
      show Goes _ _ _ _ _ _ _ (T11.setTop (mkF m 190 _ []))
      refine Goes.go (fun _ k => XS.iload X11.here hx rfl (hb hby at_190) rfl k) ?_
      show Goes _ _ _ _ _ _ _ (T11.setTop (mkF m 192 _ [(.int (1 : Int32))]))
      refine Goes.go (fun _ k => XS.ifNo X11.here hx rfl (hb hby at_192) rfl (XT.i0_eq_f (by decide)) k) ?_
      show Goes _ _ _ _ _ _ _ (T11.setTop (mkF m 195 _ []))
      refine Goes.go (fun _ k => XS.aload X11.here hx rfl (hb hby at_195) rfl rfl k) ?_
      show Goes _ _ _ _ _ _ _ (T11.setTop (mkF m 197 _ [(.ref ar21)]))
      refine Goes.go (fun _ k => XS.bipush X11.here hx rfl (hb hby at_197) k) ?_
      show Goes _ _ _ _ _ _ _ (T11.setTop (mkF m 199 _ [(.int (6 : Int32)), (.ref ar21)]))
      refine Goes.go (fun _ k => XS.aload X11.here hx rfl (hb hby at_199) rfl rfl k) ?_
      show Goes _ _ _ _ _ _ _ (T11.setTop (mkF m 201 _ [(.ref ar21), (.int (6 : Int32)), (.ref ar21)]))
      refine Goes.go (fun _ k => XS.bipush X11.here hx rfl (hb hby at_201) k) ?_
      show Goes _ _ _ _ _ _ _ (T11.setTop (mkF m 203 _ [(.int (6 : Int32)), (.ref ar21), (.int (6 : Int32)), (.ref ar21)]))
      refine Goes.go (own_ldB X11 hx hZ e11 f_10 (j := (6 : Int32)) (v := (.int ((((p1).toUInt64 >>> ((48 : Int32) &&& 0x3f).toInt64.toUInt64).toInt64).toInt32).toInt8.toInt32)) (by decide) rfl rfl rfl (hb hby at_203)) ?_
      show Goes _ _ _ _ _ _ _ (T11.setTop (mkF m 204 _ [(.int ((((p1).toUInt64 >>> ((48 : Int32) &&& 0x3f).toInt64.toUInt64).toInt64).toInt32).toInt8.toInt32), (.int (6 : Int32)), (.ref ar21)]))
      refine Goes.go (fun _ k => XS.sipush X11.here hx rfl (hb hby at_204) k) ?_
      show Goes _ _ _ _ _ _ _ (T11.setTop (mkF m 207 _ [(.int (128 : Int32)), (.int ((((p1).toUInt64 >>> ((48 : Int32) &&& 0x3f).toInt64.toUInt64).toInt64).toInt32).toInt8.toInt32), (.int (6 : Int32)), (.ref ar21)]))
      refine Goes.go (fun _ k => XS.ior X11.here hx rfl (hb hby at_207) rfl k) ?_
      show Goes _ _ _ _ _ _ _ (T11.setTop (mkF m 208 _ [(.int (((((p1).toUInt64 >>> ((48 : Int32) &&& 0x3f).toInt64.toUInt64).toInt64).toInt32).toInt8.toInt32 ||| (128 : Int32))), (.int (6 : Int32)), (.ref ar21)]))
      refine Goes.go (fun _ k => XS.i2b X11.here hx rfl (hb hby at_208) rfl k) ?_
      show Goes _ _ _ _ _ _ _ (T11.setTop (mkF m 209 _ [(.int ((((((p1).toUInt64 >>> ((48 : Int32) &&& 0x3f).toInt64.toUInt64).toInt64).toInt32).toInt8.toInt32 ||| (128 : Int32))).toInt8.toInt32), (.int (6 : Int32)), (.ref ar21)]))
      obtain ⟨T12, h12, X12, e12, W12, A12, st12⟩ := own_stB X11 hx hZ e11 f_10 (j := (6 : Int32)) (x := ((((((p1).toUInt64 >>> ((48 : Int32) &&& 0x3f).toInt64.toUInt64).toInt64).toInt32).toInt8.toInt32 ||| (128 : Int32))).toInt8.toInt32) (by decide) (show (6 : Nat) < 8 by decide) (g := (mkF m 209 #[.val (.int p0), .val (.long p1), .second, .val (.int (2 : Int32)), .val (.int (1 : Int32)), .val (.ref ar21), .val (.int (2 : Int32)), .val (.int (4 : Int32)), .unset, .unset, .unset] [(.int ((((((p1).toUInt64 >>> ((48 : Int32) &&& 0x3f).toInt64.toUInt64).toInt64).toInt32).toInt8.toInt32 ||| (128 : Int32))).toInt8.toInt32), (.int (6 : Int32)), (.ref ar21)])) rfl rfl (hb hby at_209)
      rw [own_nar8] at A12
      have N12 := Fr.snoc X12 N11 ge_ar21
      have Z12 : n0 ≤ h12.size := by rw [W12.size]; exact Z11
      have f_11 : Arl Z h12 ar21 .byte [(.int ((p1).toInt32).toInt8.toInt32), (.int ((((p1).toUInt64 >>> ((8 : Int32) &&& 0x3f).toInt64.toUInt64).toInt64).toInt32).toInt8.toInt32), (.int ((((p1).toUInt64 >>> ((16 : Int32) &&& 0x3f).toInt64.toUInt64).toInt64).toInt32).toInt8.toInt32), (.int ((((p1).toUInt64 >>> ((24 : Int32) &&& 0x3f).toInt64.toUInt64).toInt64).toInt32).toInt8.toInt32), (.int ((((((p1).toUInt64 >>> ((32 : Int32) &&& 0x3f).toInt64.toUInt64).toInt64).toInt32).toInt8.toInt32 &&& (127 : Int32))).toInt8.toInt32), (.int ((((((p1).toUInt64 >>> ((40 : Int32) &&& 0x3f).toInt64.toUInt64).toInt64).toInt32).toInt8.toInt32 &&& (127 : Int32))).toInt8.toInt32), (.int ((((((p1).toUInt64 >>> ((48 : Int32) &&& 0x3f).toInt64.toUInt64).toInt64).toInt32).toInt8.toInt32 ||| (128 : Int32))).toInt8.toInt32), (.int ((((p1).toUInt64 >>> ((56 : Int32) &&& 0x3f).toInt64.toUInt64).toInt64).toInt32).toInt8.toInt32)] := A12
      refine Goes.go (st12) ?_
      show Goes _ _ _ _ _ _ _ (T12.setTop (mkF m 210 _ []))
      refine Goes.go (fun _ k => XS.aload X12.here hx rfl (hb hby at_210) rfl rfl k) ?_
      show Goes _ _ _ _ _ _ _ (T12.setTop (mkF m 212 _ [(.ref ar21)]))
      refine Goes.go (fun _ k => XS.bipush X12.here hx rfl (hb hby at_212) k) ?_
      show Goes _ _ _ _ _ _ _ (T12.setTop (mkF m 214 _ [(.int (7 : Int32)), (.ref ar21)]))
      refine Goes.go (fun _ k => XS.aload X12.here hx rfl (hb hby at_214) rfl rfl k) ?_
      show Goes _ _ _ _ _ _ _ (T12.setTop (mkF m 216 _ [(.ref ar21), (.int (7 : Int32)), (.ref ar21)]))
      refine Goes.go (fun _ k => XS.bipush X12.here hx rfl (hb hby at_216) k) ?_
      show Goes _ _ _ _ _ _ _ (T12.setTop (mkF m 218 _ [(.int (7 : Int32)), (.ref ar21), (.int (7 : Int32)), (.ref ar21)]))
      refine Goes.go (own_ldB X12 hx hZ e12 f_11 (j := (7 : Int32)) (v := (.int ((((p1).toUInt64 >>> ((56 : Int32) &&& 0x3f).toInt64.toUInt64).toInt64).toInt32).toInt8.toInt32)) (by decide) rfl rfl rfl (hb hby at_218)) ?_
      show Goes _ _ _ _ _ _ _ (T12.setTop (mkF m 219 _ [(.int ((((p1).toUInt64 >>> ((56 : Int32) &&& 0x3f).toInt64.toUInt64).toInt64).toInt32).toInt8.toInt32), (.int (7 : Int32)), (.ref ar21)]))
      refine Goes.go (fun _ k => XS.bipush X12.here hx rfl (hb hby at_219) k) ?_
      show Goes _ _ _ _ _ _ _ (T12.setTop (mkF m 221 _ [(.int (127 : Int32)), (.int ((((p1).toUInt64 >>> ((56 : Int32) &&& 0x3f).toInt64.toUInt64).toInt64).toInt32).toInt8.toInt32), (.int (7 : Int32)), (.ref ar21)]))
      refine Goes.go (fun _ k => XS.iand X12.here hx rfl (hb hby at_221) rfl k) ?_
      show Goes _ _ _ _ _ _ _ (T12.setTop (mkF m 222 _ [(.int (((((p1).toUInt64 >>> ((56 : Int32) &&& 0x3f).toInt64.toUInt64).toInt64).toInt32).toInt8.toInt32 &&& (127 : Int32))), (.int (7 : Int32)), (.ref ar21)]))
      refine Goes.go (fun _ k => XS.i2b X12.here hx rfl (hb hby at_222) rfl k) ?_
      show Goes _ _ _ _ _ _ _ (T12.setTop (mkF m 223 _ [(.int ((((((p1).toUInt64 >>> ((56 : Int32) &&& 0x3f).toInt64.toUInt64).toInt64).toInt32).toInt8.toInt32 &&& (127 : Int32))).toInt8.toInt32), (.int (7 : Int32)), (.ref ar21)]))
      obtain ⟨T13, h13, X13, e13, W13, A13, st13⟩ := own_stB X12 hx hZ e12 f_11 (j := (7 : Int32)) (x := ((((((p1).toUInt64 >>> ((56 : Int32) &&& 0x3f).toInt64.toUInt64).toInt64).toInt32).toInt8.toInt32 &&& (127 : Int32))).toInt8.toInt32) (by decide) (show (7 : Nat) < 8 by decide) (g := (mkF m 223 #[.val (.int p0), .val (.long p1), .second, .val (.int (2 : Int32)), .val (.int (1 : Int32)), .val (.ref ar21), .val (.int (2 : Int32)), .val (.int (4 : Int32)), .unset, .unset, .unset] [(.int ((((((p1).toUInt64 >>> ((56 : Int32) &&& 0x3f).toInt64.toUInt64).toInt64).toInt32).toInt8.toInt32 &&& (127 : Int32))).toInt8.toInt32), (.int (7 : Int32)), (.ref ar21)])) rfl rfl (hb hby at_223)
      rw [own_nar8] at A13
      have N13 := Fr.snoc X13 N12 ge_ar21
      have Z13 : n0 ≤ h13.size := by rw [W13.size]; exact Z12
      have f_12 : Arl Z h13 ar21 .byte [(.int ((p1).toInt32).toInt8.toInt32), (.int ((((p1).toUInt64 >>> ((8 : Int32) &&& 0x3f).toInt64.toUInt64).toInt64).toInt32).toInt8.toInt32), (.int ((((p1).toUInt64 >>> ((16 : Int32) &&& 0x3f).toInt64.toUInt64).toInt64).toInt32).toInt8.toInt32), (.int ((((p1).toUInt64 >>> ((24 : Int32) &&& 0x3f).toInt64.toUInt64).toInt64).toInt32).toInt8.toInt32), (.int ((((((p1).toUInt64 >>> ((32 : Int32) &&& 0x3f).toInt64.toUInt64).toInt64).toInt32).toInt8.toInt32 &&& (127 : Int32))).toInt8.toInt32), (.int ((((((p1).toUInt64 >>> ((40 : Int32) &&& 0x3f).toInt64.toUInt64).toInt64).toInt32).toInt8.toInt32 &&& (127 : Int32))).toInt8.toInt32), (.int ((((((p1).toUInt64 >>> ((48 : Int32) &&& 0x3f).toInt64.toUInt64).toInt64).toInt32).toInt8.toInt32 ||| (128 : Int32))).toInt8.toInt32), (.int ((((((p1).toUInt64 >>> ((56 : Int32) &&& 0x3f).toInt64.toUInt64).toInt64).toInt32).toInt8.toInt32 &&& (127 : Int32))).toInt8.toInt32)] := A13
      refine Goes.go (st13) ?_
      show Goes _ _ _ _ _ _ _ (T13.setTop (mkF m 224 _ []))
      obtain ⟨T14, h14, X14, e14, E14, A14, D14, -, st14⟩ := newO X13 hx hZ hown (hw _ (List.mem_of_getElem? (i := 1) rfl)) (hw _ (List.mem_of_getElem? (i := 2) rfl)) (hw _ (List.mem_of_getElem? (i := 3) rfl)) e13 (g := (mkF m 224 #[.val (.int p0), .val (.long p1), .second, .val (.int (2 : Int32)), .val (.int (1 : Int32)), .val (.ref ar21), .val (.int (2 : Int32)), .val (.int (4 : Int32)), .unset, .unset, .unset] [])) rfl (hb hby at_224) (by decide) (by decide)
      obtain ⟨ob224, gob224⟩ : ∃ z, z = h13.size := ⟨_, rfl⟩
      rw [← gob224] at A14 D14 st14
      have ne_ar21_ob224 : ar21 ≠ ob224 := by rw [gob224]; exact Nat.ne_of_lt f_12.lt
      have f_13 := f_12.ext E14
      have Z14 : n0 ≤ h14.size := Nat.le_trans Z13 E14.1
      have ge_ob224 : n0 ≤ ob224 := Nat.le_trans Z13 (Nat.le_of_eq gob224.symm)
      have f_14 : Fld Z h14 ob224 "com/example/countermand/countermand/Packed$Reader" "in" "[B" .null := D14 (Or.inr (hw _ (List.mem_of_getElem? (i := 11) rfl))) (ty := (.array .byte)) (by decide)
      have f_15 : Fld Z h14 ob224 "com/example/countermand/countermand/Packed$Reader" "position" "I" (.int (0 : Int32)) := D14 (Or.inl (hw _ (List.mem_of_getElem? (i := 13) rfl))) (ty := .int) (by decide)
      refine Goes.go (st14) ?_
      show Goes _ _ _ _ _ _ _ (T14.setTop (mkF m 227 _ [(.ref ob224)]))
      refine Goes.go (fun _ k => XS.dup X14.here hx rfl (hb hby at_227) rfl rfl k) ?_
      show Goes _ _ _ _ _ _ _ (T14.setTop (mkF m 228 _ [(.ref ob224), (.ref ob224)]))
      refine Goes.go (fun _ k => XS.aload X14.here hx rfl (hb hby at_228) rfl rfl k) ?_
      show Goes _ _ _ _ _ _ _ (T14.setTop (mkF m 230 _ [(.ref ar21), (.ref ob224), (.ref ob224)]))
      refine Goes.go (fun _ k => XS.iload X14.here hx rfl (hb hby at_230) rfl k) ?_
      show Goes _ _ _ _ _ _ _ (T14.setTop (mkF m 232 _ [(.int (4 : Int32)), (.ref ar21), (.ref ob224), (.ref ob224)]))
      obtain ⟨_, _, ⟨T15, L15, k15, n15⟩, -, X15, ⟨Lc15, hQ15, l15, y15, z15⟩, st15⟩ := X14.specialBack hx (y := (⟨"com/example/countermand/countermand/Packed$Reader", "<init>", "([BI)V"⟩ : MethodName)) rfl hown (mvT hZ (hw _ (List.mem_of_getElem? (i := 4) rfl))) (mvT hZ (hw _ (List.mem_of_getElem? (i := 5) rfl))) (mvT hZ (hw _ (List.mem_of_getElem? (i := 6) rfl))) (by decide) (backOf (W := 1) (rm1 l Z a0 hw [] ob224 ar21 (4 : Int32) h14 n0 Z14 A14 f_14 f_15 ge_ob224) hZ (hw _ (List.mem_of_getElem? (i := 6) rfl)) (hw _ (List.mem_of_getElem? (i := 3) rfl)) (by decide) (by decide)) (g := (mkF m 232 #[.val (.int p0), .val (.long p1), .second, .val (.int (2 : Int32)), .val (.int (1 : Int32)), .val (.ref ar21), .val (.int (2 : Int32)), .val (.int (4 : Int32)), .unset, .unset, .unset] [(.int (4 : Int32)), (.ref ar21), (.ref ob224), (.ref ob224)])) rfl (by rw [hml]; rfl) (Steps.refl _) (a := ob224) (argsL := [(.ref ar21), (.int (4 : Int32))]) (rest := [(.ref ob224)]) (lenOf pd0 rfl) rfl (by show 2 * 0 + _ ≤ _; exact Nat.le_of_eq rfl) (hb hby at_232) (fun _ _ => ⟨rfl, e14, (by decide : 2 + 0 ≤ _), (by decide : 10 + 0 ≤ _)⟩)
      dsimp only [Pt.U, Pt.locs, Pt.cells, Pt.slots] at X15 l15 y15 z15 st15 hQ15
      subst l15 y15 z15
      obtain ⟨rfl, Nq15, Kq15, Eq15, Fq15_0, Fq15_1⟩ := hQ15
      have N15 := Fr.app N13 Nq15
      have Z15 : n0 ≤ T15.heap.size := Nat.le_trans Z14 Kq15.1
      have f_16 := Arl.keep f_13 Kq15 (ninS ne_ar21_ob224 nin0)
      refine Goes.go (fun _ k => st15.trans k) ?_
      show Goes _ _ _ _ _ _ _ (T15.setTop (mkF m 235 _ [(.ref ob224)]))
      refine Goes.go (fun _ k => XS.astore X15.here hx rfl (hb hby at_235) rfl rfl (l' := #[.val (.int p0), .val (.long p1), .second, .val (.int (2 : Int32)), .val (.int (1 : Int32)), .val (.ref ar21), .val (.int (2 : Int32)), .val (.int (4 : Int32)), .val (.ref ob224), .unset, .unset]) rfl k) ?_
      show Goes _ _ _ _ _ _ _ (T15.setTop (mkF m 237 #[.val (.int p0), .val (.long p1), .second, .val (.int (2 : Int32)), .val (.int (1 : Int32)), .val (.ref ar21), .val (.int (2 : Int32)), .val (.int (4 : Int32)), .val (.ref ob224), .unset, .unset] []))
      refine Goes.go (fun _ k => XS.iconst X15.here hx rfl (hb hby at_237) k) ?_
      show Goes _ _ _ _ _ _ _ (T15.setTop (mkF m 238 _ [(.int (1 : Int32))]))
      refine Goes.go (fun _ k => XS.istore X15.here hx rfl (hb hby at_238) rfl (l' := #[.val (.int p0), .val (.long p1), .second, .val (.int (2 : Int32)), .val (.int (1 : Int32)), .val (.ref ar21), .val (.int (2 : Int32)), .val (.int (4 : Int32)), .val (.ref ob224), .val (.int (1 : Int32)), .unset]) rfl k) ?_
      show Goes _ _ _ _ _ _ _ (T15.setTop (mkF m 240 #[.val (.int p0), .val (.long p1), .second, .val (.int (2 : Int32)), .val (.int (1 : Int32)), .val (.ref ar21), .val (.int (2 : Int32)), .val (.int (4 : Int32)), .val (.ref ob224), .val (.int (1 : Int32)), .unset] []))
      refine Goes.go (fun _ k => XS.iloadN X15.here hx rfl (hb hby at_240) rfl k) ?_
      show Goes _ _ _ _ _ _ _ (T15.setTop (mkF m 241 _ [(.int (2 : Int32))]))
      refine Goes.go (fun _ k => XS.iconst X15.here hx rfl (hb hby at_241) k) ?_
      show Goes _ _ _ _ _ _ _ (T15.setTop (mkF m 242 _ [(.int (1 : Int32)), (.int (2 : Int32))]))
      refine Goes.go (fun _ k => XS.icmpNo X15.here hx rfl (hb hby at_242) rfl (XT.ii_lt_f (by decide)) k) ?_
      show Goes _ _ _ _ _ _ _ (T15.setTop (mkF m 245 _ []))
      refine Goes.go (fun _ k => XS.iload X15.here hx rfl (hb hby at_245) rfl k) ?_
      show Goes _ _ _ _ _ _ _ (T15.setTop (mkF m 247 _ [(.int (1 : Int32))]))
      refine Goes.go (fun _ k => XS.ifNo X15.here hx rfl (hb hby at_247) rfl (XT.i0_eq_f (by decide)) k) ?_
      show Goes _ _ _ _ _ _ _ (T15.setTop (mkF m 250 _ []))
      refine Goes.go (fun _ k => XS.aload X15.here hx rfl (hb hby at_250) rfl rfl k) ?_
      show Goes _ _ _ _ _ _ _ (T15.setTop (mkF m 252 _ [(.ref ob224)]))
      obtain ⟨cq16, kq16, qa16, qb16, qc16⟩ := isOf hZ rfl Eq15
      obtain ⟨_, _, ⟨T16, L16, k16, n16⟩, -, X16, ⟨Lc16, hQ16, l16, y16, z16⟩, st16⟩ := X15.virtualBack hx (y := (⟨"com/example/countermand/countermand/Packed$Reader", "count", "()I"⟩ : MethodName)) (z := (⟨"com/example/countermand/countermand/Packed$Reader", "count", "()I"⟩ : MethodName)) hown (mvT hZ (hw _ (List.mem_of_getElem? (i := 19) rfl))) (mvT hZ (hw _ (List.mem_of_getElem? (i := 20) rfl))) (notFace_of_selects (args := #[]) (mvT hZ (hw _ (List.mem_of_getElem? (i := 22) rfl)))) (mvT hZ (hw _ (List.mem_of_getElem? (i := 22) rfl))) (mvT hZ (hw _ (List.mem_of_getElem? (i := 21) rfl))) (by decide) (backOf (W := 0) (rm4 l Z a0 hw [] ob224 ar21 _ (4 : Int32) [((((((p1).toUInt64 >>> ((32 : Int32) &&& 0x3f).toInt64.toUInt64).toInt64).toInt32).toInt8.toInt32 &&& (127 : Int32))).toInt8.toInt32] T15.heap n0 Z15 Eq15 Fq15_0 Fq15_1 ge_ob224 f_16 ⟨by decide, rfl, own_lo8 (((((p1).toUInt64 >>> ((32 : Int32) &&& 0x3f).toInt64.toUInt64).toInt64).toInt32).toInt8)⟩ (fit_1 (((((p1).toUInt64 >>> ((32 : Int32) &&& 0x3f).toInt64.toUInt64).toInt64).toInt32).toInt8))) hZ (hw _ (List.mem_of_getElem? (i := 23) rfl)) (hw _ (List.mem_of_getElem? (i := 3) rfl)) (by decide) (by decide)) qa16 qc16 (g := (mkF m 252 #[.val (.int p0), .val (.long p1), .second, .val (.int (2 : Int32)), .val (.int (1 : Int32)), .val (.ref ar21), .val (.int (2 : Int32)), .val (.int (4 : Int32)), .val (.ref ob224), .val (.int (1 : Int32)), .unset] [(.ref ob224)])) rfl (by rw [hml]; rfl) (Steps.refl _) (argsL := []) (rest := []) (lenOf pd2 rfl) rfl (by show 2 * 0 + _ ≤ _; exact Nat.le_of_eq rfl) (hb hby at_252) (fun _ _ => ⟨rfl, rfl, (by decide : 2 + 0 ≤ _), (by decide : 10 + 0 ≤ _)⟩)
      dsimp only [Pt.U, Pt.locs, Pt.cells, Pt.slots] at X16 l16 y16 z16 st16 hQ16
      subst l16 y16 z16
      obtain ⟨rfl, Nq16, Kq16, Eq16, Fq16_0, Fq16_1⟩ := hQ16
      have N16 := Fr.app N15 Nq16
      have Z16 : n0 ≤ T16.heap.size := Nat.le_trans Z15 Kq16.1
      have f_17 := Arl.keep f_16 Kq16 (ninS ne_ar21_ob224 nin0)
      refine Goes.go (fun _ k => st16.trans k) ?_
      show Goes _ _ _ _ _ _ _ (T16.setTop (mkF m 255 _ [(.int (svb [((((((p1).toUInt64 >>> ((32 : Int32) &&& 0x3f).toInt64.toUInt64).toInt64).toInt32).toInt8.toInt32 &&& (127 : Int32))).toInt8.toInt32] 0 0).toInt32)]))
      refine Goes.go (fun _ k => XS.aload X16.here hx rfl (hb hby at_255) rfl rfl k) ?_
      show Goes _ _ _ _ _ _ _ (T16.setTop (mkF m 257 _ [(.ref ar21), (.int (svb [((((((p1).toUInt64 >>> ((32 : Int32) &&& 0x3f).toInt64.toUInt64).toInt64).toInt32).toInt8.toInt32 &&& (127 : Int32))).toInt8.toInt32] 0 0).toInt32)]))
      refine Goes.go (fun _ k => XS.iload X16.here hx rfl (hb hby at_257) rfl k) ?_
      show Goes _ _ _ _ _ _ _ (T16.setTop (mkF m 259 _ [(.int (4 : Int32)), (.ref ar21), (.int (svb [((((((p1).toUInt64 >>> ((32 : Int32) &&& 0x3f).toInt64.toUInt64).toInt64).toInt32).toInt8.toInt32 &&& (127 : Int32))).toInt8.toInt32] 0 0).toInt32)]))
      refine Goes.go (own_ldB X16 hx hZ rfl f_17 (j := (4 : Int32)) (v := (.int ((((((p1).toUInt64 >>> ((32 : Int32) &&& 0x3f).toInt64.toUInt64).toInt64).toInt32).toInt8.toInt32 &&& (127 : Int32))).toInt8.toInt32)) (by decide) rfl rfl rfl (hb hby at_259)) ?_
      show Goes _ _ _ _ _ _ _ (T16.setTop (mkF m 260 _ [(.int ((((((p1).toUInt64 >>> ((32 : Int32) &&& 0x3f).toInt64.toUInt64).toInt64).toInt32).toInt8.toInt32 &&& (127 : Int32))).toInt8.toInt32), (.int (svb [((((((p1).toUInt64 >>> ((32 : Int32) &&& 0x3f).toInt64.toUInt64).toInt64).toInt32).toInt8.toInt32 &&& (127 : Int32))).toInt8.toInt32] 0 0).toInt32)]))
      refine Goes.go (fun _ k => XS.icmpNo X16.here hx rfl (hb hby at_260) rfl (XT.ii_ne_f (val_1 (((((p1).toUInt64 >>> ((32 : Int32) &&& 0x3f).toInt64.toUInt64).toInt64).toInt32).toInt8))) k) ?_
      show Goes _ _ _ _ _ _ _ (T16.setTop (mkF m 263 _ []))
      refine Goes.go (fun _ k => XS.iconst X16.here hx rfl (hb hby at_263) k) ?_
      show Goes _ _ _ _ _ _ _ (T16.setTop (mkF m 264 _ [(.int (1 : Int32))]))
      refine Goes.go (fun _ k => XS.goto X16.here hx rfl (pc0 := 264) (pc' := 268) rfl (hb hby at_264) (by decide) (by decide) k) ?_
      show Goes _ _ _ _ _ _ _ (T16.setTop (mkF m 268 _ [(.int (1 : Int32))]))
      refine Goes.go (fun _ k => XS.istore X16.here hx rfl (hb hby at_268) rfl (l' := #[.val (.int p0), .val (.long p1), .second, .val (.int (2 : Int32)), .val (.int (1 : Int32)), .val (.ref ar21), .val (.int (2 : Int32)), .val (.int (4 : Int32)), .val (.ref ob224), .val (.int (1 : Int32)), .unset]) rfl k) ?_
      show Goes _ _ _ _ _ _ _ (T16.setTop (mkF m 270 _ []))
      refine Goes.go (fun _ k => XS.iloadN X16.here hx rfl (hb hby at_270) rfl k) ?_
      show Goes _ _ _ _ _ _ _ (T16.setTop (mkF m 271 _ [(.int (2 : Int32))]))
      refine Goes.go (fun _ k => XS.iconst X16.here hx rfl (hb hby at_271) k) ?_
      show Goes _ _ _ _ _ _ _ (T16.setTop (mkF m 272 _ [(.int (2 : Int32)), (.int (2 : Int32))]))
      refine Goes.go (fun _ k => XS.icmpNo X16.here hx rfl (hb hby at_272) rfl (XT.ii_lt_f (by decide)) k) ?_
      show Goes _ _ _ _ _ _ _ (T16.setTop (mkF m 275 _ []))
      refine Goes.go (fun _ k => XS.iload X16.here hx rfl (hb hby at_275) rfl k) ?_
      show Goes _ _ _ _ _ _ _ (T16.setTop (mkF m 277 _ [(.int (1 : Int32))]))
      refine Goes.go (fun _ k => XS.ifNo X16.here hx rfl (hb hby at_277) rfl (XT.i0_eq_f (by decide)) k) ?_
      show Goes _ _ _ _ _ _ _ (T16.setTop (mkF m 280 _ []))
      refine Goes.go (fun _ k => XS.aload X16.here hx rfl (hb hby at_280) rfl rfl k) ?_
      show Goes _ _ _ _ _ _ _ (T16.setTop (mkF m 282 _ [(.ref ob224)]))
      obtain ⟨cq17, kq17, qa17, qb17, qc17⟩ := isOf hZ rfl Eq16
      obtain ⟨_, _, ⟨T17, L17, k17, n17⟩, -, X17, ⟨Lc17, hQ17, l17, y17, z17⟩, st17⟩ := X16.virtualBack hx (y := (⟨"com/example/countermand/countermand/Packed$Reader", "count", "()I"⟩ : MethodName)) (z := (⟨"com/example/countermand/countermand/Packed$Reader", "count", "()I"⟩ : MethodName)) hown (mvT hZ (hw _ (List.mem_of_getElem? (i := 19) rfl))) (mvT hZ (hw _ (List.mem_of_getElem? (i := 20) rfl))) (notFace_of_selects (args := #[]) (mvT hZ (hw _ (List.mem_of_getElem? (i := 22) rfl)))) (mvT hZ (hw _ (List.mem_of_getElem? (i := 22) rfl))) (mvT hZ (hw _ (List.mem_of_getElem? (i := 21) rfl))) (by decide) (backOf (W := 0) (rm4 l Z a0 hw [] ob224 ar21 _ (5 : Int32) [((((((p1).toUInt64 >>> ((40 : Int32) &&& 0x3f).toInt64.toUInt64).toInt64).toInt32).toInt8.toInt32 &&& (127 : Int32))).toInt8.toInt32] T16.heap n0 Z16 Eq16 Fq16_0 Fq16_1 ge_ob224 f_17 ⟨by decide, rfl, own_lo8 (((((p1).toUInt64 >>> ((40 : Int32) &&& 0x3f).toInt64.toUInt64).toInt64).toInt32).toInt8)⟩ (fit_1 (((((p1).toUInt64 >>> ((40 : Int32) &&& 0x3f).toInt64.toUInt64).toInt64).toInt32).toInt8))) hZ (hw _ (List.mem_of_getElem? (i := 23) rfl)) (hw _ (List.mem_of_getElem? (i := 3) rfl)) (by decide) (by decide)) qa17 qc17 (g := (mkF m 282 #[.val (.int p0), .val (.long p1), .second, .val (.int (2 : Int32)), .val (.int (1 : Int32)), .val (.ref ar21), .val (.int (2 : Int32)), .val (.int (4 : Int32)), .val (.ref ob224), .val (.int (1 : Int32)), .unset] [(.ref ob224)])) rfl (by rw [hml]; rfl) (Steps.refl _) (argsL := []) (rest := []) (lenOf pd2 rfl) rfl (by show 2 * 0 + _ ≤ _; exact Nat.le_of_eq rfl) (hb hby at_282) (fun _ _ => ⟨rfl, rfl, (by decide : 2 + 0 ≤ _), (by decide : 10 + 0 ≤ _)⟩)
      dsimp only [Pt.U, Pt.locs, Pt.cells, Pt.slots] at X17 l17 y17 z17 st17 hQ17
      subst l17 y17 z17
      obtain ⟨rfl, Nq17, Kq17, Eq17, Fq17_0, Fq17_1⟩ := hQ17
      have N17 := Fr.app N16 Nq17
      have Z17 : n0 ≤ T17.heap.size := Nat.le_trans Z16 Kq17.1
      have f_18 := Arl.keep f_17 Kq17 (ninS ne_ar21_ob224 nin0)
      refine Goes.go (fun _ k => st17.trans k) ?_
      show Goes _ _ _ _ _ _ _ (T17.setTop (mkF m 285 _ [(.int (svb [((((((p1).toUInt64 >>> ((40 : Int32) &&& 0x3f).toInt64.toUInt64).toInt64).toInt32).toInt8.toInt32 &&& (127 : Int32))).toInt8.toInt32] 0 0).toInt32)]))
      refine Goes.go (fun _ k => XS.aload X17.here hx rfl (hb hby at_285) rfl rfl k) ?_
      show Goes _ _ _ _ _ _ _ (T17.setTop (mkF m 287 _ [(.ref ar21), (.int (svb [((((((p1).toUInt64 >>> ((40 : Int32) &&& 0x3f).toInt64.toUInt64).toInt64).toInt32).toInt8.toInt32 &&& (127 : Int32))).toInt8.toInt32] 0 0).toInt32)]))
      refine Goes.go (fun _ k => XS.iload X17.here hx rfl (hb hby at_287) rfl k) ?_
      show Goes _ _ _ _ _ _ _ (T17.setTop (mkF m 289 _ [(.int (4 : Int32)), (.ref ar21), (.int (svb [((((((p1).toUInt64 >>> ((40 : Int32) &&& 0x3f).toInt64.toUInt64).toInt64).toInt32).toInt8.toInt32 &&& (127 : Int32))).toInt8.toInt32] 0 0).toInt32)]))
      refine Goes.go (fun _ k => XS.iconst X17.here hx rfl (hb hby at_289) k) ?_
      show Goes _ _ _ _ _ _ _ (T17.setTop (mkF m 290 _ [(.int (1 : Int32)), (.int (4 : Int32)), (.ref ar21), (.int (svb [((((((p1).toUInt64 >>> ((40 : Int32) &&& 0x3f).toInt64.toUInt64).toInt64).toInt32).toInt8.toInt32 &&& (127 : Int32))).toInt8.toInt32] 0 0).toInt32)]))
      refine Goes.go (fun _ k => XS.iadd X17.here hx rfl (hb hby at_290) rfl k) ?_
      show Goes _ _ _ _ _ _ _ (T17.setTop (mkF m 291 _ [(.int (5 : Int32)), (.ref ar21), (.int (svb [((((((p1).toUInt64 >>> ((40 : Int32) &&& 0x3f).toInt64.toUInt64).toInt64).toInt32).toInt8.toInt32 &&& (127 : Int32))).toInt8.toInt32] 0 0).toInt32)]))
      refine Goes.go (own_ldB X17 hx hZ rfl f_18 (j := (5 : Int32)) (v := (.int ((((((p1).toUInt64 >>> ((40 : Int32) &&& 0x3f).toInt64.toUInt64).toInt64).toInt32).toInt8.toInt32 &&& (127 : Int32))).toInt8.toInt32)) (by decide) rfl rfl rfl (hb hby at_291)) ?_
      show Goes _ _ _ _ _ _ _ (T17.setTop (mkF m 292 _ [(.int ((((((p1).toUInt64 >>> ((40 : Int32) &&& 0x3f).toInt64.toUInt64).toInt64).toInt32).toInt8.toInt32 &&& (127 : Int32))).toInt8.toInt32), (.int (svb [((((((p1).toUInt64 >>> ((40 : Int32) &&& 0x3f).toInt64.toUInt64).toInt64).toInt32).toInt8.toInt32 &&& (127 : Int32))).toInt8.toInt32] 0 0).toInt32)]))
      refine Goes.go (fun _ k => XS.icmpNo X17.here hx rfl (hb hby at_292) rfl (XT.ii_ne_f (val_1 (((((p1).toUInt64 >>> ((40 : Int32) &&& 0x3f).toInt64.toUInt64).toInt64).toInt32).toInt8))) k) ?_
      show Goes _ _ _ _ _ _ _ (T17.setTop (mkF m 295 _ []))
      refine Goes.go (fun _ k => XS.iconst X17.here hx rfl (hb hby at_295) k) ?_
      show Goes _ _ _ _ _ _ _ (T17.setTop (mkF m 296 _ [(.int (1 : Int32))]))
      refine Goes.go (fun _ k => XS.goto X17.here hx rfl (pc0 := 296) (pc' := 300) rfl (hb hby at_296) (by decide) (by decide) k) ?_
      show Goes _ _ _ _ _ _ _ (T17.setTop (mkF m 300 _ [(.int (1 : Int32))]))
      refine Goes.go (fun _ k => XS.istore X17.here hx rfl (hb hby at_300) rfl (l' := #[.val (.int p0), .val (.long p1), .second, .val (.int (2 : Int32)), .val (.int (1 : Int32)), .val (.ref ar21), .val (.int (2 : Int32)), .val (.int (4 : Int32)), .val (.ref ob224), .val (.int (1 : Int32)), .unset]) rfl k) ?_
      show Goes _ _ _ _ _ _ _ (T17.setTop (mkF m 302 _ []))
      refine Goes.go (fun _ k => XS.iloadN X17.here hx rfl (hb hby at_302) rfl k) ?_
      show Goes _ _ _ _ _ _ _ (T17.setTop (mkF m 303 _ [(.int (2 : Int32))]))
      refine Goes.go (fun _ k => XS.iconst X17.here hx rfl (hb hby at_303) k) ?_
      show Goes _ _ _ _ _ _ _ (T17.setTop (mkF m 304 _ [(.int (3 : Int32)), (.int (2 : Int32))]))
      refine Goes.go (fun _ k => XS.icmpYes X17.here hx rfl (pc0 := 304) (pc' := 334) rfl (hb hby at_304) rfl (XT.ii_lt_t (by decide)) (by decide) (by decide) k) ?_
      show Goes _ _ _ _ _ _ _ (T17.setTop (mkF m 334 _ []))
      refine Goes.go (fun _ k => XS.iload X17.here hx rfl (hb hby at_334) rfl k) ?_
      show Goes _ _ _ _ _ _ _ (T17.setTop (mkF m 336 _ [(.int (1 : Int32))]))
      refine Goes.go (fun _ k => XS.ifNo X17.here hx rfl (hb hby at_336) rfl (XT.i0_eq_f (by decide)) k) ?_
      show Goes _ _ _ _ _ _ _ (T17.setTop (mkF m 339 _ []))
      refine Goes.go (fun _ k => XS.aload X17.here hx rfl (hb hby at_339) rfl rfl k) ?_
      show Goes _ _ _ _ _ _ _ (T17.setTop (mkF m 341 _ [(.ref ar21)]))
      refine Goes.go (fun _ k => XS.bipush X17.here hx rfl (hb hby at_341) k) ?_
      show Goes _ _ _ _ _ _ _ (T17.setTop (mkF m 343 _ [(.int (6 : Int32)), (.ref ar21)]))
      refine Goes.go (own_ldB X17 hx hZ rfl f_18 (j := (6 : Int32)) (v := (.int ((((((p1).toUInt64 >>> ((48 : Int32) &&& 0x3f).toInt64.toUInt64).toInt64).toInt32).toInt8.toInt32 ||| (128 : Int32))).toInt8.toInt32)) (by decide) rfl rfl rfl (hb hby at_343)) ?_
      show Goes _ _ _ _ _ _ _ (T17.setTop (mkF m 344 _ [(.int ((((((p1).toUInt64 >>> ((48 : Int32) &&& 0x3f).toInt64.toUInt64).toInt64).toInt32).toInt8.toInt32 ||| (128 : Int32))).toInt8.toInt32)]))
      refine Goes.go (fun _ k => XS.bipush X17.here hx rfl (hb hby at_344) k) ?_
      show Goes _ _ _ _ _ _ _ (T17.setTop (mkF m 346 _ [(.int (127 : Int32)), (.int ((((((p1).toUInt64 >>> ((48 : Int32) &&& 0x3f).toInt64.toUInt64).toInt64).toInt32).toInt8.toInt32 ||| (128 : Int32))).toInt8.toInt32)]))
      refine Goes.go (fun _ k => XS.iand X17.here hx rfl (hb hby at_346) rfl k) ?_
      show Goes _ _ _ _ _ _ _ (T17.setTop (mkF m 347 _ [(.int (((((((p1).toUInt64 >>> ((48 : Int32) &&& 0x3f).toInt64.toUInt64).toInt64).toInt32).toInt8.toInt32 ||| (128 : Int32))).toInt8.toInt32 &&& (127 : Int32)))]))
      refine Goes.go (fun _ k => XS.aload X17.here hx rfl (hb hby at_347) rfl rfl k) ?_
      show Goes _ _ _ _ _ _ _ (T17.setTop (mkF m 349 _ [(.ref ar21), (.int (((((((p1).toUInt64 >>> ((48 : Int32) &&& 0x3f).toInt64.toUInt64).toInt64).toInt32).toInt8.toInt32 ||| (128 : Int32))).toInt8.toInt32 &&& (127 : Int32)))]))
      refine Goes.go (fun _ k => XS.bipush X17.here hx rfl (hb hby at_349) k) ?_
      show Goes _ _ _ _ _ _ _ (T17.setTop (mkF m 351 _ [(.int (7 : Int32)), (.ref ar21), (.int (((((((p1).toUInt64 >>> ((48 : Int32) &&& 0x3f).toInt64.toUInt64).toInt64).toInt32).toInt8.toInt32 ||| (128 : Int32))).toInt8.toInt32 &&& (127 : Int32)))]))
      refine Goes.go (own_ldB X17 hx hZ rfl f_18 (j := (7 : Int32)) (v := (.int ((((((p1).toUInt64 >>> ((56 : Int32) &&& 0x3f).toInt64.toUInt64).toInt64).toInt32).toInt8.toInt32 &&& (127 : Int32))).toInt8.toInt32)) (by decide) rfl rfl rfl (hb hby at_351)) ?_
      show Goes _ _ _ _ _ _ _ (T17.setTop (mkF m 352 _ [(.int ((((((p1).toUInt64 >>> ((56 : Int32) &&& 0x3f).toInt64.toUInt64).toInt64).toInt32).toInt8.toInt32 &&& (127 : Int32))).toInt8.toInt32), (.int (((((((p1).toUInt64 >>> ((48 : Int32) &&& 0x3f).toInt64.toUInt64).toInt64).toInt32).toInt8.toInt32 ||| (128 : Int32))).toInt8.toInt32 &&& (127 : Int32)))]))
      refine Goes.go (fun _ k => XS.bipush X17.here hx rfl (hb hby at_352) k) ?_
      show Goes _ _ _ _ _ _ _ (T17.setTop (mkF m 354 _ [(.int (7 : Int32)), (.int ((((((p1).toUInt64 >>> ((56 : Int32) &&& 0x3f).toInt64.toUInt64).toInt64).toInt32).toInt8.toInt32 &&& (127 : Int32))).toInt8.toInt32), (.int (((((((p1).toUInt64 >>> ((48 : Int32) &&& 0x3f).toInt64.toUInt64).toInt64).toInt32).toInt8.toInt32 ||| (128 : Int32))).toInt8.toInt32 &&& (127 : Int32)))]))
      refine Goes.go (fun _ k => XS.ishl X17.here hx rfl (hb hby at_354) rfl k) ?_
      show Goes _ _ _ _ _ _ _ (T17.setTop (mkF m 355 _ [(.int (((((((p1).toUInt64 >>> ((56 : Int32) &&& 0x3f).toInt64.toUInt64).toInt64).toInt32).toInt8.toInt32 &&& (127 : Int32))).toInt8.toInt32 <<< ((7 : Int32) &&& 31))), (.int (((((((p1).toUInt64 >>> ((48 : Int32) &&& 0x3f).toInt64.toUInt64).toInt64).toInt32).toInt8.toInt32 ||| (128 : Int32))).toInt8.toInt32 &&& (127 : Int32)))]))
      refine Goes.go (fun _ k => XS.ior X17.here hx rfl (hb hby at_355) rfl k) ?_
      show Goes _ _ _ _ _ _ _ (T17.setTop (mkF m 356 _ [(.int ((((((((p1).toUInt64 >>> ((48 : Int32) &&& 0x3f).toInt64.toUInt64).toInt64).toInt32).toInt8.toInt32 ||| (128 : Int32))).toInt8.toInt32 &&& (127 : Int32)) ||| (((((((p1).toUInt64 >>> ((56 : Int32) &&& 0x3f).toInt64.toUInt64).toInt64).toInt32).toInt8.toInt32 &&& (127 : Int32))).toInt8.toInt32 <<< ((7 : Int32) &&& 31))))]))
      refine Goes.go (fun _ k => XS.istore X17.here hx rfl (hb hby at_356) rfl (l' := #[.val (.int p0), .val (.long p1), .second, .val (.int (2 : Int32)), .val (.int (1 : Int32)), .val (.ref ar21), .val (.int (2 : Int32)), .val (.int (4 : Int32)), .val (.ref ob224), .val (.int (1 : Int32)), .val (.int ((((((((p1).toUInt64 >>> ((48 : Int32) &&& 0x3f).toInt64.toUInt64).toInt64).toInt32).toInt8.toInt32 ||| (128 : Int32))).toInt8.toInt32 &&& (127 : Int32)) ||| (((((((p1).toUInt64 >>> ((56 : Int32) &&& 0x3f).toInt64.toUInt64).toInt64).toInt32).toInt8.toInt32 &&& (127 : Int32))).toInt8.toInt32 <<< ((7 : Int32) &&& 31))))]) rfl k) ?_
      show Goes _ _ _ _ _ _ _ (T17.setTop (mkF m 358 #[.val (.int p0), .val (.long p1), .second, .val (.int (2 : Int32)), .val (.int (1 : Int32)), .val (.ref ar21), .val (.int (2 : Int32)), .val (.int (4 : Int32)), .val (.ref ob224), .val (.int (1 : Int32)), .val (.int ((((((((p1).toUInt64 >>> ((48 : Int32) &&& 0x3f).toInt64.toUInt64).toInt64).toInt32).toInt8.toInt32 ||| (128 : Int32))).toInt8.toInt32 &&& (127 : Int32)) ||| (((((((p1).toUInt64 >>> ((56 : Int32) &&& 0x3f).toInt64.toUInt64).toInt64).toInt32).toInt8.toInt32 &&& (127 : Int32))).toInt8.toInt32 <<< ((7 : Int32) &&& 31))))] []))
      refine Goes.go (fun _ k => XS.iload X17.here hx rfl (hb hby at_358) rfl k) ?_
      show Goes _ _ _ _ _ _ _ (T17.setTop (mkF m 360 _ [(.int (1 : Int32))]))
      refine Goes.go (fun _ k => XS.ifNo X17.here hx rfl (hb hby at_360) rfl (XT.i0_eq_f (by decide)) k) ?_
      show Goes _ _ _ _ _ _ _ (T17.setTop (mkF m 363 _ []))
      refine Goes.go (fun _ k => XS.aload X17.here hx rfl (hb hby at_363) rfl rfl k) ?_
      show Goes _ _ _ _ _ _ _ (T17.setTop (mkF m 365 _ [(.ref ob224)]))
      obtain ⟨cq18, kq18, qa18, qb18, qc18⟩ := isOf hZ rfl Eq17
      obtain ⟨_, _, ⟨T18, L18, k18, n18⟩, -, X18, ⟨Lc18, hQ18, l18, y18, z18⟩, st18⟩ := X17.virtualBack hx (y := (⟨"com/example/countermand/countermand/Packed$Reader", "count", "()I"⟩ : MethodName)) (z := (⟨"com/example/countermand/countermand/Packed$Reader", "count", "()I"⟩ : MethodName)) hown (mvT hZ (hw _ (List.mem_of_getElem? (i := 19) rfl))) (mvT hZ (hw _ (List.mem_of_getElem? (i := 20) rfl))) (notFace_of_selects (args := #[]) (mvT hZ (hw _ (List.mem_of_getElem? (i := 22) rfl)))) (mvT hZ (hw _ (List.mem_of_getElem? (i := 22) rfl))) (mvT hZ (hw _ (List.mem_of_getElem? (i := 21) rfl))) (by decide) (backOf (W := 0) (rm4 l Z a0 hw [] ob224 ar21 _ (6 : Int32) [((((((p1).toUInt64 >>> ((48 : Int32) &&& 0x3f).toInt64.toUInt64).toInt64).toInt32).toInt8.toInt32 ||| (128 : Int32))).toInt8.toInt32, ((((((p1).toUInt64 >>> ((56 : Int32) &&& 0x3f).toInt64.toUInt64).toInt64).toInt32).toInt8.toInt32 &&& (127 : Int32))).toInt8.toInt32] T17.heap n0 Z17 Eq17 Fq17_0 Fq17_1 ge_ob224 f_18 ⟨by decide, rfl, own_hi8 (((((p1).toUInt64 >>> ((48 : Int32) &&& 0x3f).toInt64.toUInt64).toInt64).toInt32).toInt8), by decide, rfl, own_lo8 (((((p1).toUInt64 >>> ((56 : Int32) &&& 0x3f).toInt64.toUInt64).toInt64).toInt32).toInt8)⟩ (fit_2 _ (((((p1).toUInt64 >>> ((56 : Int32) &&& 0x3f).toInt64.toUInt64).toInt64).toInt32).toInt8))) hZ (hw _ (List.mem_of_getElem? (i := 23) rfl)) (hw _ (List.mem_of_getElem? (i := 3) rfl)) (by decide) (by decide)) qa18 qc18 (g := (mkF m 365 #[.val (.int p0), .val (.long p1), .second, .val (.int (2 : Int32)), .val (.int (1 : Int32)), .val (.ref ar21), .val (.int (2 : Int32)), .val (.int (4 : Int32)), .val (.ref ob224), .val (.int (1 : Int32)), .val (.int ((((((((p1).toUInt64 >>> ((48 : Int32) &&& 0x3f).toInt64.toUInt64).toInt64).toInt32).toInt8.toInt32 ||| (128 : Int32))).toInt8.toInt32 &&& (127 : Int32)) ||| (((((((p1).toUInt64 >>> ((56 : Int32) &&& 0x3f).toInt64.toUInt64).toInt64).toInt32).toInt8.toInt32 &&& (127 : Int32))).toInt8.toInt32 <<< ((7 : Int32) &&& 31))))] [(.ref ob224)])) rfl (by rw [hml]; rfl) (Steps.refl _) (argsL := []) (rest := []) (lenOf pd2 rfl) rfl (by show 2 * 0 + _ ≤ _; exact Nat.le_of_eq rfl) (hb hby at_365) (fun _ _ => ⟨rfl, rfl, (by decide : 2 + 0 ≤ _), (by decide : 10 + 0 ≤ _)⟩)
      dsimp only [Pt.U, Pt.locs, Pt.cells, Pt.slots] at X18 l18 y18 z18 st18 hQ18
      subst l18 y18 z18
      obtain ⟨rfl, Nq18, Kq18, Eq18, Fq18_0, Fq18_1⟩ := hQ18
      have N18 := Fr.app N17 Nq18
      have Z18 : n0 ≤ T18.heap.size := Nat.le_trans Z17 Kq18.1
      have f_19 := Arl.keep f_18 Kq18 (ninS ne_ar21_ob224 nin0)
      refine Goes.go (fun _ k => st18.trans k) ?_
      show Goes _ _ _ _ _ _ _ (T18.setTop (mkF m 368 _ [(.int (svb [((((((p1).toUInt64 >>> ((48 : Int32) &&& 0x3f).toInt64.toUInt64).toInt64).toInt32).toInt8.toInt32 ||| (128 : Int32))).toInt8.toInt32, ((((((p1).toUInt64 >>> ((56 : Int32) &&& 0x3f).toInt64.toUInt64).toInt64).toInt32).toInt8.toInt32 &&& (127 : Int32))).toInt8.toInt32] 0 0).toInt32)]))
      refine Goes.go (fun _ k => XS.iload X18.here hx rfl (hb hby at_368) rfl k) ?_
      show Goes _ _ _ _ _ _ _ (T18.setTop (mkF m 370 _ [(.int ((((((((p1).toUInt64 >>> ((48 : Int32) &&& 0x3f).toInt64.toUInt64).toInt64).toInt32).toInt8.toInt32 ||| (128 : Int32))).toInt8.toInt32 &&& (127 : Int32)) ||| (((((((p1).toUInt64 >>> ((56 : Int32) &&& 0x3f).toInt64.toUInt64).toInt64).toInt32).toInt8.toInt32 &&& (127 : Int32))).toInt8.toInt32 <<< ((7 : Int32) &&& 31)))), (.int (svb [((((((p1).toUInt64 >>> ((48 : Int32) &&& 0x3f).toInt64.toUInt64).toInt64).toInt32).toInt8.toInt32 ||| (128 : Int32))).toInt8.toInt32, ((((((p1).toUInt64 >>> ((56 : Int32) &&& 0x3f).toInt64.toUInt64).toInt64).toInt32).toInt8.toInt32 &&& (127 : Int32))).toInt8.toInt32] 0 0).toInt32)]))
      refine Goes.go (fun _ k => XS.icmpNo X18.here hx rfl (hb hby at_370) rfl (XT.ii_ne_f (val_2 _ (((((p1).toUInt64 >>> ((56 : Int32) &&& 0x3f).toInt64.toUInt64).toInt64).toInt32).toInt8))) k) ?_
      show Goes _ _ _ _ _ _ _ (T18.setTop (mkF m 373 _ []))
      refine Goes.go (fun _ k => XS.iconst X18.here hx rfl (hb hby at_373) k) ?_
      show Goes _ _ _ _ _ _ _ (T18.setTop (mkF m 374 _ [(.int (1 : Int32))]))
      refine Goes.go (fun _ k => XS.goto X18.here hx rfl (pc0 := 374) (pc' := 378) rfl (hb hby at_374) (by decide) (by decide) k) ?_
      show Goes _ _ _ _ _ _ _ (T18.setTop (mkF m 378 _ [(.int (1 : Int32))]))
      refine Goes.go (fun _ k => XS.istore X18.here hx rfl (hb hby at_378) rfl (l' := #[.val (.int p0), .val (.long p1), .second, .val (.int (2 : Int32)), .val (.int (1 : Int32)), .val (.ref ar21), .val (.int (2 : Int32)), .val (.int (4 : Int32)), .val (.ref ob224), .val (.int (1 : Int32)), .val (.int ((((((((p1).toUInt64 >>> ((48 : Int32) &&& 0x3f).toInt64.toUInt64).toInt64).toInt32).toInt8.toInt32 ||| (128 : Int32))).toInt8.toInt32 &&& (127 : Int32)) ||| (((((((p1).toUInt64 >>> ((56 : Int32) &&& 0x3f).toInt64.toUInt64).toInt64).toInt32).toInt8.toInt32 &&& (127 : Int32))).toInt8.toInt32 <<< ((7 : Int32) &&& 31))))]) rfl k) ?_
      show Goes _ _ _ _ _ _ _ (T18.setTop (mkF m 380 _ []))
      refine Goes.go (fun _ k => XS.aload X18.here hx rfl (hb hby at_380) rfl rfl k) ?_
      show Goes _ _ _ _ _ _ _ (T18.setTop (mkF m 382 _ [(.ref ob224)]))
      obtain ⟨cq19, kq19, qa19, qb19, qc19⟩ := isOf hZ rfl Eq18
      obtain ⟨_, _, ⟨T19, L19, k19, n19⟩, -, X19, ⟨Lc19, hQ19, l19, y19, z19⟩, st19⟩ := X18.virtualBack hx (y := (⟨"com/example/countermand/countermand/Packed$Reader", "end", "()V"⟩ : MethodName)) (z := (⟨"com/example/countermand/countermand/Packed$Reader", "end", "()V"⟩ : MethodName)) hown (mvT hZ (hw _ (List.mem_of_getElem? (i := 14) rfl))) (mvT hZ (hw _ (List.mem_of_getElem? (i := 15) rfl))) (notFace_of_selects (args := #[]) (mvT hZ (hw _ (List.mem_of_getElem? (i := 17) rfl)))) (mvT hZ (hw _ (List.mem_of_getElem? (i := 17) rfl))) (mvT hZ (hw _ (List.mem_of_getElem? (i := 16) rfl))) (by decide) (backOf (W := 0) (rm3 l Z a0 hw [] ob224 ar21 _ (8 : Int32) T18.heap n0 Z18 Fq18_0 Fq18_1 f_19 rfl) hZ (hw _ (List.mem_of_getElem? (i := 18) rfl)) (hw _ (List.mem_of_getElem? (i := 3) rfl)) (by decide) (by decide)) qa19 qc19 (g := (mkF m 382 #[.val (.int p0), .val (.long p1), .second, .val (.int (2 : Int32)), .val (.int (1 : Int32)), .val (.ref ar21), .val (.int (2 : Int32)), .val (.int (4 : Int32)), .val (.ref ob224), .val (.int (1 : Int32)), .val (.int ((((((((p1).toUInt64 >>> ((48 : Int32) &&& 0x3f).toInt64.toUInt64).toInt64).toInt32).toInt8.toInt32 ||| (128 : Int32))).toInt8.toInt32 &&& (127 : Int32)) ||| (((((((p1).toUInt64 >>> ((56 : Int32) &&& 0x3f).toInt64.toUInt64).toInt64).toInt32).toInt8.toInt32 &&& (127 : Int32))).toInt8.toInt32 <<< ((7 : Int32) &&& 31))))] [(.ref ob224)])) rfl (by rw [hml]; rfl) (Steps.refl _) (argsL := []) (rest := []) (lenOf pd1 rfl) rfl (by show 2 * 0 + _ ≤ _; exact Nat.le_of_eq rfl) (hb hby at_382) (fun _ _ => ⟨rfl, rfl, (by decide : 2 + 0 ≤ _), (by decide : 10 + 0 ≤ _)⟩)
      dsimp only [Pt.U, Pt.locs, Pt.cells, Pt.slots] at X19 l19 y19 z19 st19 hQ19
      subst l19 y19 z19
      obtain ⟨rfl, Nq19, hh19⟩ := hQ19
      have N19 := Fr.app N18 Nq19
      refine Goes.go (fun _ k => st19.trans k) ?_
      show Goes _ _ _ _ _ _ _ (T19.setTop (mkF m 385 _ []))
      refine Goes.go (fun _ k => XS.iload X19.here hx rfl (hb hby at_385) rfl k) ?_
      show Goes _ _ _ _ _ _ _ (T19.setTop (mkF m 387 _ [(.int (1 : Int32))]))
      exact Goes.outZ X19 hx hlk hret rfl (hb hby at_387) hh19 ⟨rfl, N19⟩ (by decide) (by decide)
  · skip
    show Goes _ _ _ _ _ _ _ (s₁.setTop (mkF m 4 #[.val (.int p0), .val (.long p1), .second, .val (.int (3 : Int32)), .unset, .unset, .unset, .unset, .unset, .unset, .unset] []))
    refine Goes.go (fun _ k => XS.iloadN X0.here hx rfl (hb hby at_4) rfl k) ?_
    show Goes _ _ _ _ _ _ _ (s₁.setTop (mkF m 5 _ [(.int p0)]))
    refine Goes.go (fun _ k => XS.iconst X0.here hx rfl (hb hby at_5) k) ?_
    show Goes _ _ _ _ _ _ _ (s₁.setTop (mkF m 6 _ [(.int (2 : Int32)), (.int p0)]))
    refine Goes.go (fun _ k => XS.iushr X0.here hx rfl (hb hby at_6) rfl k) ?_
    show Goes _ _ _ _ _ _ _ (s₁.setTop (mkF m 7 _ [(.int ((p0).toUInt32 >>> ((2 : Int32) &&& 31).toUInt32).toInt32)]))
    refine Goes.go (fun _ k => XS.iconst X0.here hx rfl (hb hby at_7) k) ?_
    show Goes _ _ _ _ _ _ _ (s₁.setTop (mkF m 8 _ [(.int (1 : Int32)), (.int ((p0).toUInt32 >>> ((2 : Int32) &&& 31).toUInt32).toInt32)]))
    refine Goes.go (fun _ k => XS.iand X0.here hx rfl (hb hby at_8) rfl k) ?_
    show Goes _ _ _ _ _ _ _ (s₁.setTop (mkF m 9 _ [(.int (((p0).toUInt32 >>> ((2 : Int32) &&& 31).toUInt32).toInt32 &&& (1 : Int32)))]))
    by_cases c9 : (((p0).toUInt32 >>> ((2 : Int32) &&& 31).toUInt32).toInt32 &&& (1 : Int32)) = 0
    · skip
      refine Goes.go (fun _ k => XS.ifYes X0.here hx rfl (pc0 := 9) (pc' := 16) rfl (hb hby at_9) rfl (XT.i0_eq_t c9) (by decide) (by decide) k) ?_
      show Goes _ _ _ _ _ _ _ (s₁.setTop (mkF m 16 _ []))
      refine Goes.go (fun _ k => XS.iconst X0.here hx rfl (hb hby at_16) k) ?_
      show Goes _ _ _ _ _ _ _ (s₁.setTop (mkF m 17 _ [(.int (0 : Int32))]))
      refine Goes.go (fun _ k => XS.istore X0.here hx rfl (hb hby at_17) rfl (l' := #[.val (.int p0), .val (.long p1), .second, .val (.int (3 : Int32)), .val (.int (0 : Int32)), .unset, .unset, .unset, .unset, .unset, .unset]) rfl k) ?_
      show Goes _ _ _ _ _ _ _ (s₁.setTop (mkF m 19 #[.val (.int p0), .val (.long p1), .second, .val (.int (3 : Int32)), .val (.int (0 : Int32)), .unset, .unset, .unset, .unset, .unset, .unset] []))
      refine Goes.go (fun _ k => XS.bipush X0.here hx rfl (hb hby at_19) k) ?_
      show Goes _ _ _ _ _ _ _ (s₁.setTop (mkF m 21 _ [(.int (8 : Int32))]))
      obtain ⟨T1, h1, X1, e1, E1, A1, st1⟩ := own_newP X0 hx hZ (aty := .byte) (hw _ (List.mem_of_getElem? (i := 0) rfl)) e0 (g := (mkF m 21 #[.val (.int p0), .val (.long p1), .second, .val (.int (3 : Int32)), .val (.int (0 : Int32)), .unset, .unset, .unset, .unset, .unset, .unset] [(.int (8 : Int32))])) rfl (hb hby at_21) rfl (n := (8 : Int32)) (by decide) (cap := 8) (by decide) (by decide) (by decide) (by decide)
      obtain ⟨ar21, gar21⟩ : ∃ z, z = h0.size := ⟨_, rfl⟩
      rw [← gar21] at A1 st1
      have Z1 : n0 ≤ h1.size := Nat.le_trans Z0 E1.1
      have ge_ar21 : n0 ≤ ar21 := Nat.le_trans Z0 (Nat.le_of_eq gar21.symm)
      have f : Arl Z h1 ar21 .byte [(.int (0 : Int32)), (.int (0 : Int32)), (.int (0 : Int32)), (.int (0 : Int32)), (.int (0 : Int32)), (.int (0 : Int32)), (.int (0 : Int32)), (.int (0 : Int32))] := A1
      refine Goes.go (st1) ?_
      show Goes _ _ _ _ _ _ _ (T1.setTop (mkF m 23 _ [(.ref ar21)]))
      refine Goes.go (fun _ k => XS.astore X1.here hx rfl (hb hby at_23) rfl rfl (l' := #[.val (.int p0), .val (.long p1), .second, .val (.int (3 : Int32)), .val (.int (0 : Int32)), .val (.ref ar21), .unset, .unset, .unset, .unset, .unset]) rfl k) ?_
      show Goes _ _ _ _ _ _ _ (T1.setTop (mkF m 25 #[.val (.int p0), .val (.long p1), .second, .val (.int (3 : Int32)), .val (.int (0 : Int32)), .val (.ref ar21), .unset, .unset, .unset, .unset, .unset] []))
      refine Goes.go (fun _ k => XS.aload X1.here hx rfl (hb hby at_25) rfl rfl k) ?_
      show Goes _ _ _ _ _ _ _ (T1.setTop (mkF m 27 _ [(.ref ar21)]))
      refine Goes.go (fun _ k => XS.iconst X1.here hx rfl (hb hby at_27) k) ?_
      show Goes _ _ _ _ _ _ _ (T1.setTop (mkF m 28 _ [(.int (0 : Int32)), (.ref ar21)]))
      refine Goes.go (fun _ k => XS.lloadN X1.here hx rfl (hb hby at_28) rfl k) ?_
      show Goes _ _ _ _ _ _ _ (T1.setTop (mkF m 29 _ [(.long p1), (.int (0 : Int32)), (.ref ar21)]))
      refine Goes.go (fun _ k => XS.l2i X1.here hx rfl (hb hby at_29) rfl k) ?_
      show Goes _ _ _ _ _ _ _ (T1.setTop (mkF m 30 _ [(.int (p1).toInt32), (.int (0 : Int32)), (.ref ar21)]))
      refine Goes.go (fun _ k => XS.i2b X1.here hx rfl (hb hby at_30) rfl k) ?_
      show Goes _ _ _ _ _ _ _ (T1.setTop (mkF m 31 _ [(.int ((p1).toInt32).toInt8.toInt32), (.int (0 : Int32)), (.ref ar21)]))
      obtain ⟨T2, h2, X2, e2, W2, A2, st2⟩ := own_stB X1 hx hZ e1 f (j := (0 : Int32)) (x := ((p1).toInt32).toInt8.toInt32) (by decide) (show (0 : Nat) < 8 by decide) (g := (mkF m 31 #[.val (.int p0), .val (.long p1), .second, .val (.int (3 : Int32)), .val (.int (0 : Int32)), .val (.ref ar21), .unset, .unset, .unset, .unset, .unset] [(.int ((p1).toInt32).toInt8.toInt32), (.int (0 : Int32)), (.ref ar21)])) rfl rfl (hb hby at_31)
      rw [own_nar8] at A2
      have N2 := Fr.snoc X2 N0 ge_ar21
      have Z2 : n0 ≤ h2.size := by rw [W2.size]; exact Z1
      have f_1 : Arl Z h2 ar21 .byte [(.int ((p1).toInt32).toInt8.toInt32), (.int (0 : Int32)), (.int (0 : Int32)), (.int (0 : Int32)), (.int (0 : Int32)), (.int (0 : Int32)), (.int (0 : Int32)), (.int (0 : Int32))] := A2
      refine Goes.go (st2) ?_
      show Goes _ _ _ _ _ _ _ (T2.setTop (mkF m 32 _ []))
      refine Goes.go (fun _ k => XS.aload X2.here hx rfl (hb hby at_32) rfl rfl k) ?_
      show Goes _ _ _ _ _ _ _ (T2.setTop (mkF m 34 _ [(.ref ar21)]))
      refine Goes.go (fun _ k => XS.iconst X2.here hx rfl (hb hby at_34) k) ?_
      show Goes _ _ _ _ _ _ _ (T2.setTop (mkF m 35 _ [(.int (1 : Int32)), (.ref ar21)]))
      refine Goes.go (fun _ k => XS.lloadN X2.here hx rfl (hb hby at_35) rfl k) ?_
      show Goes _ _ _ _ _ _ _ (T2.setTop (mkF m 36 _ [(.long p1), (.int (1 : Int32)), (.ref ar21)]))
      refine Goes.go (fun _ k => XS.bipush X2.here hx rfl (hb hby at_36) k) ?_
      show Goes _ _ _ _ _ _ _ (T2.setTop (mkF m 38 _ [(.int (8 : Int32)), (.long p1), (.int (1 : Int32)), (.ref ar21)]))
      refine Goes.go (fun _ k => XS.lushr X2.here hx rfl (hb hby at_38) rfl k) ?_
      show Goes _ _ _ _ _ _ _ (T2.setTop (mkF m 39 _ [(.long ((p1).toUInt64 >>> ((8 : Int32) &&& 0x3f).toInt64.toUInt64).toInt64), (.int (1 : Int32)), (.ref ar21)]))
      refine Goes.go (fun _ k => XS.l2i X2.here hx rfl (hb hby at_39) rfl k) ?_
      show Goes _ _ _ _ _ _ _ (T2.setTop (mkF m 40 _ [(.int (((p1).toUInt64 >>> ((8 : Int32) &&& 0x3f).toInt64.toUInt64).toInt64).toInt32), (.int (1 : Int32)), (.ref ar21)]))
      refine Goes.go (fun _ k => XS.i2b X2.here hx rfl (hb hby at_40) rfl k) ?_
      show Goes _ _ _ _ _ _ _ (T2.setTop (mkF m 41 _ [(.int ((((p1).toUInt64 >>> ((8 : Int32) &&& 0x3f).toInt64.toUInt64).toInt64).toInt32).toInt8.toInt32), (.int (1 : Int32)), (.ref ar21)]))
      obtain ⟨T3, h3, X3, e3, W3, A3, st3⟩ := own_stB X2 hx hZ e2 f_1 (j := (1 : Int32)) (x := ((((p1).toUInt64 >>> ((8 : Int32) &&& 0x3f).toInt64.toUInt64).toInt64).toInt32).toInt8.toInt32) (by decide) (show (1 : Nat) < 8 by decide) (g := (mkF m 41 #[.val (.int p0), .val (.long p1), .second, .val (.int (3 : Int32)), .val (.int (0 : Int32)), .val (.ref ar21), .unset, .unset, .unset, .unset, .unset] [(.int ((((p1).toUInt64 >>> ((8 : Int32) &&& 0x3f).toInt64.toUInt64).toInt64).toInt32).toInt8.toInt32), (.int (1 : Int32)), (.ref ar21)])) rfl rfl (hb hby at_41)
      rw [own_nar8] at A3
      have N3 := Fr.snoc X3 N2 ge_ar21
      have Z3 : n0 ≤ h3.size := by rw [W3.size]; exact Z2
      have f_2 : Arl Z h3 ar21 .byte [(.int ((p1).toInt32).toInt8.toInt32), (.int ((((p1).toUInt64 >>> ((8 : Int32) &&& 0x3f).toInt64.toUInt64).toInt64).toInt32).toInt8.toInt32), (.int (0 : Int32)), (.int (0 : Int32)), (.int (0 : Int32)), (.int (0 : Int32)), (.int (0 : Int32)), (.int (0 : Int32))] := A3
      refine Goes.go (st3) ?_
      show Goes _ _ _ _ _ _ _ (T3.setTop (mkF m 42 _ []))
      refine Goes.go (fun _ k => XS.aload X3.here hx rfl (hb hby at_42) rfl rfl k) ?_
      show Goes _ _ _ _ _ _ _ (T3.setTop (mkF m 44 _ [(.ref ar21)]))
      refine Goes.go (fun _ k => XS.iconst X3.here hx rfl (hb hby at_44) k) ?_
      show Goes _ _ _ _ _ _ _ (T3.setTop (mkF m 45 _ [(.int (2 : Int32)), (.ref ar21)]))
      refine Goes.go (fun _ k => XS.lloadN X3.here hx rfl (hb hby at_45) rfl k) ?_
      show Goes _ _ _ _ _ _ _ (T3.setTop (mkF m 46 _ [(.long p1), (.int (2 : Int32)), (.ref ar21)]))
      refine Goes.go (fun _ k => XS.bipush X3.here hx rfl (hb hby at_46) k) ?_
      show Goes _ _ _ _ _ _ _ (T3.setTop (mkF m 48 _ [(.int (16 : Int32)), (.long p1), (.int (2 : Int32)), (.ref ar21)]))
      refine Goes.go (fun _ k => XS.lushr X3.here hx rfl (hb hby at_48) rfl k) ?_
      show Goes _ _ _ _ _ _ _ (T3.setTop (mkF m 49 _ [(.long ((p1).toUInt64 >>> ((16 : Int32) &&& 0x3f).toInt64.toUInt64).toInt64), (.int (2 : Int32)), (.ref ar21)]))
      refine Goes.go (fun _ k => XS.l2i X3.here hx rfl (hb hby at_49) rfl k) ?_
      show Goes _ _ _ _ _ _ _ (T3.setTop (mkF m 50 _ [(.int (((p1).toUInt64 >>> ((16 : Int32) &&& 0x3f).toInt64.toUInt64).toInt64).toInt32), (.int (2 : Int32)), (.ref ar21)]))
      refine Goes.go (fun _ k => XS.i2b X3.here hx rfl (hb hby at_50) rfl k) ?_
      show Goes _ _ _ _ _ _ _ (T3.setTop (mkF m 51 _ [(.int ((((p1).toUInt64 >>> ((16 : Int32) &&& 0x3f).toInt64.toUInt64).toInt64).toInt32).toInt8.toInt32), (.int (2 : Int32)), (.ref ar21)]))
      obtain ⟨T4, h4, X4, e4, W4, A4, st4⟩ := own_stB X3 hx hZ e3 f_2 (j := (2 : Int32)) (x := ((((p1).toUInt64 >>> ((16 : Int32) &&& 0x3f).toInt64.toUInt64).toInt64).toInt32).toInt8.toInt32) (by decide) (show (2 : Nat) < 8 by decide) (g := (mkF m 51 #[.val (.int p0), .val (.long p1), .second, .val (.int (3 : Int32)), .val (.int (0 : Int32)), .val (.ref ar21), .unset, .unset, .unset, .unset, .unset] [(.int ((((p1).toUInt64 >>> ((16 : Int32) &&& 0x3f).toInt64.toUInt64).toInt64).toInt32).toInt8.toInt32), (.int (2 : Int32)), (.ref ar21)])) rfl rfl (hb hby at_51)
      rw [own_nar8] at A4
      have N4 := Fr.snoc X4 N3 ge_ar21
      have Z4 : n0 ≤ h4.size := by rw [W4.size]; exact Z3
      have f_3 : Arl Z h4 ar21 .byte [(.int ((p1).toInt32).toInt8.toInt32), (.int ((((p1).toUInt64 >>> ((8 : Int32) &&& 0x3f).toInt64.toUInt64).toInt64).toInt32).toInt8.toInt32), (.int ((((p1).toUInt64 >>> ((16 : Int32) &&& 0x3f).toInt64.toUInt64).toInt64).toInt32).toInt8.toInt32), (.int (0 : Int32)), (.int (0 : Int32)), (.int (0 : Int32)), (.int (0 : Int32)), (.int (0 : Int32))] := A4
      refine Goes.go (st4) ?_
      show Goes _ _ _ _ _ _ _ (T4.setTop (mkF m 52 _ []))
      refine Goes.go (fun _ k => XS.aload X4.here hx rfl (hb hby at_52) rfl rfl k) ?_
      show Goes _ _ _ _ _ _ _ (T4.setTop (mkF m 54 _ [(.ref ar21)]))
      refine Goes.go (fun _ k => XS.iconst X4.here hx rfl (hb hby at_54) k) ?_
      show Goes _ _ _ _ _ _ _ (T4.setTop (mkF m 55 _ [(.int (3 : Int32)), (.ref ar21)]))
      refine Goes.go (fun _ k => XS.lloadN X4.here hx rfl (hb hby at_55) rfl k) ?_
      show Goes _ _ _ _ _ _ _ (T4.setTop (mkF m 56 _ [(.long p1), (.int (3 : Int32)), (.ref ar21)]))
      refine Goes.go (fun _ k => XS.bipush X4.here hx rfl (hb hby at_56) k) ?_
      show Goes _ _ _ _ _ _ _ (T4.setTop (mkF m 58 _ [(.int (24 : Int32)), (.long p1), (.int (3 : Int32)), (.ref ar21)]))
      refine Goes.go (fun _ k => XS.lushr X4.here hx rfl (hb hby at_58) rfl k) ?_
      show Goes _ _ _ _ _ _ _ (T4.setTop (mkF m 59 _ [(.long ((p1).toUInt64 >>> ((24 : Int32) &&& 0x3f).toInt64.toUInt64).toInt64), (.int (3 : Int32)), (.ref ar21)]))
      refine Goes.go (fun _ k => XS.l2i X4.here hx rfl (hb hby at_59) rfl k) ?_
      show Goes _ _ _ _ _ _ _ (T4.setTop (mkF m 60 _ [(.int (((p1).toUInt64 >>> ((24 : Int32) &&& 0x3f).toInt64.toUInt64).toInt64).toInt32), (.int (3 : Int32)), (.ref ar21)]))
      refine Goes.go (fun _ k => XS.i2b X4.here hx rfl (hb hby at_60) rfl k) ?_
      show Goes _ _ _ _ _ _ _ (T4.setTop (mkF m 61 _ [(.int ((((p1).toUInt64 >>> ((24 : Int32) &&& 0x3f).toInt64.toUInt64).toInt64).toInt32).toInt8.toInt32), (.int (3 : Int32)), (.ref ar21)]))
      obtain ⟨T5, h5, X5, e5, W5, A5, st5⟩ := own_stB X4 hx hZ e4 f_3 (j := (3 : Int32)) (x := ((((p1).toUInt64 >>> ((24 : Int32) &&& 0x3f).toInt64.toUInt64).toInt64).toInt32).toInt8.toInt32) (by decide) (show (3 : Nat) < 8 by decide) (g := (mkF m 61 #[.val (.int p0), .val (.long p1), .second, .val (.int (3 : Int32)), .val (.int (0 : Int32)), .val (.ref ar21), .unset, .unset, .unset, .unset, .unset] [(.int ((((p1).toUInt64 >>> ((24 : Int32) &&& 0x3f).toInt64.toUInt64).toInt64).toInt32).toInt8.toInt32), (.int (3 : Int32)), (.ref ar21)])) rfl rfl (hb hby at_61)
      rw [own_nar8] at A5
      have N5 := Fr.snoc X5 N4 ge_ar21
      have Z5 : n0 ≤ h5.size := by rw [W5.size]; exact Z4
      have f_4 : Arl Z h5 ar21 .byte [(.int ((p1).toInt32).toInt8.toInt32), (.int ((((p1).toUInt64 >>> ((8 : Int32) &&& 0x3f).toInt64.toUInt64).toInt64).toInt32).toInt8.toInt32), (.int ((((p1).toUInt64 >>> ((16 : Int32) &&& 0x3f).toInt64.toUInt64).toInt64).toInt32).toInt8.toInt32), (.int ((((p1).toUInt64 >>> ((24 : Int32) &&& 0x3f).toInt64.toUInt64).toInt64).toInt32).toInt8.toInt32), (.int (0 : Int32)), (.int (0 : Int32)), (.int (0 : Int32)), (.int (0 : Int32))] := A5
      refine Goes.go (st5) ?_
      show Goes _ _ _ _ _ _ _ (T5.setTop (mkF m 62 _ []))
      refine Goes.go (fun _ k => XS.aload X5.here hx rfl (hb hby at_62) rfl rfl k) ?_
      show Goes _ _ _ _ _ _ _ (T5.setTop (mkF m 64 _ [(.ref ar21)]))
      refine Goes.go (fun _ k => XS.iconst X5.here hx rfl (hb hby at_64) k) ?_
      show Goes _ _ _ _ _ _ _ (T5.setTop (mkF m 65 _ [(.int (4 : Int32)), (.ref ar21)]))
      refine Goes.go (fun _ k => XS.lloadN X5.here hx rfl (hb hby at_65) rfl k) ?_
      show Goes _ _ _ _ _ _ _ (T5.setTop (mkF m 66 _ [(.long p1), (.int (4 : Int32)), (.ref ar21)]))
      refine Goes.go (fun _ k => XS.bipush X5.here hx rfl (hb hby at_66) k) ?_
      show Goes _ _ _ _ _ _ _ (T5.setTop (mkF m 68 _ [(.int (32 : Int32)), (.long p1), (.int (4 : Int32)), (.ref ar21)]))
      refine Goes.go (fun _ k => XS.lushr X5.here hx rfl (hb hby at_68) rfl k) ?_
      show Goes _ _ _ _ _ _ _ (T5.setTop (mkF m 69 _ [(.long ((p1).toUInt64 >>> ((32 : Int32) &&& 0x3f).toInt64.toUInt64).toInt64), (.int (4 : Int32)), (.ref ar21)]))
      refine Goes.go (fun _ k => XS.l2i X5.here hx rfl (hb hby at_69) rfl k) ?_
      show Goes _ _ _ _ _ _ _ (T5.setTop (mkF m 70 _ [(.int (((p1).toUInt64 >>> ((32 : Int32) &&& 0x3f).toInt64.toUInt64).toInt64).toInt32), (.int (4 : Int32)), (.ref ar21)]))
      refine Goes.go (fun _ k => XS.i2b X5.here hx rfl (hb hby at_70) rfl k) ?_
      show Goes _ _ _ _ _ _ _ (T5.setTop (mkF m 71 _ [(.int ((((p1).toUInt64 >>> ((32 : Int32) &&& 0x3f).toInt64.toUInt64).toInt64).toInt32).toInt8.toInt32), (.int (4 : Int32)), (.ref ar21)]))
      obtain ⟨T6, h6, X6, e6, W6, A6, st6⟩ := own_stB X5 hx hZ e5 f_4 (j := (4 : Int32)) (x := ((((p1).toUInt64 >>> ((32 : Int32) &&& 0x3f).toInt64.toUInt64).toInt64).toInt32).toInt8.toInt32) (by decide) (show (4 : Nat) < 8 by decide) (g := (mkF m 71 #[.val (.int p0), .val (.long p1), .second, .val (.int (3 : Int32)), .val (.int (0 : Int32)), .val (.ref ar21), .unset, .unset, .unset, .unset, .unset] [(.int ((((p1).toUInt64 >>> ((32 : Int32) &&& 0x3f).toInt64.toUInt64).toInt64).toInt32).toInt8.toInt32), (.int (4 : Int32)), (.ref ar21)])) rfl rfl (hb hby at_71)
      rw [own_nar8] at A6
      have N6 := Fr.snoc X6 N5 ge_ar21
      have Z6 : n0 ≤ h6.size := by rw [W6.size]; exact Z5
      have f_5 : Arl Z h6 ar21 .byte [(.int ((p1).toInt32).toInt8.toInt32), (.int ((((p1).toUInt64 >>> ((8 : Int32) &&& 0x3f).toInt64.toUInt64).toInt64).toInt32).toInt8.toInt32), (.int ((((p1).toUInt64 >>> ((16 : Int32) &&& 0x3f).toInt64.toUInt64).toInt64).toInt32).toInt8.toInt32), (.int ((((p1).toUInt64 >>> ((24 : Int32) &&& 0x3f).toInt64.toUInt64).toInt64).toInt32).toInt8.toInt32), (.int ((((p1).toUInt64 >>> ((32 : Int32) &&& 0x3f).toInt64.toUInt64).toInt64).toInt32).toInt8.toInt32), (.int (0 : Int32)), (.int (0 : Int32)), (.int (0 : Int32))] := A6
      refine Goes.go (st6) ?_
      show Goes _ _ _ _ _ _ _ (T6.setTop (mkF m 72 _ []))
      refine Goes.go (fun _ k => XS.aload X6.here hx rfl (hb hby at_72) rfl rfl k) ?_
      show Goes _ _ _ _ _ _ _ (T6.setTop (mkF m 74 _ [(.ref ar21)]))
      refine Goes.go (fun _ k => XS.iconst X6.here hx rfl (hb hby at_74) k) ?_
      show Goes _ _ _ _ _ _ _ (T6.setTop (mkF m 75 _ [(.int (5 : Int32)), (.ref ar21)]))
      refine Goes.go (fun _ k => XS.lloadN X6.here hx rfl (hb hby at_75) rfl k) ?_
      show Goes _ _ _ _ _ _ _ (T6.setTop (mkF m 76 _ [(.long p1), (.int (5 : Int32)), (.ref ar21)]))
      refine Goes.go (fun _ k => XS.bipush X6.here hx rfl (hb hby at_76) k) ?_
      show Goes _ _ _ _ _ _ _ (T6.setTop (mkF m 78 _ [(.int (40 : Int32)), (.long p1), (.int (5 : Int32)), (.ref ar21)]))
      refine Goes.go (fun _ k => XS.lushr X6.here hx rfl (hb hby at_78) rfl k) ?_
      show Goes _ _ _ _ _ _ _ (T6.setTop (mkF m 79 _ [(.long ((p1).toUInt64 >>> ((40 : Int32) &&& 0x3f).toInt64.toUInt64).toInt64), (.int (5 : Int32)), (.ref ar21)]))
      refine Goes.go (fun _ k => XS.l2i X6.here hx rfl (hb hby at_79) rfl k) ?_
      show Goes _ _ _ _ _ _ _ (T6.setTop (mkF m 80 _ [(.int (((p1).toUInt64 >>> ((40 : Int32) &&& 0x3f).toInt64.toUInt64).toInt64).toInt32), (.int (5 : Int32)), (.ref ar21)]))
      refine Goes.go (fun _ k => XS.i2b X6.here hx rfl (hb hby at_80) rfl k) ?_
      show Goes _ _ _ _ _ _ _ (T6.setTop (mkF m 81 _ [(.int ((((p1).toUInt64 >>> ((40 : Int32) &&& 0x3f).toInt64.toUInt64).toInt64).toInt32).toInt8.toInt32), (.int (5 : Int32)), (.ref ar21)]))
      obtain ⟨T7, h7, X7, e7, W7, A7, st7⟩ := own_stB X6 hx hZ e6 f_5 (j := (5 : Int32)) (x := ((((p1).toUInt64 >>> ((40 : Int32) &&& 0x3f).toInt64.toUInt64).toInt64).toInt32).toInt8.toInt32) (by decide) (show (5 : Nat) < 8 by decide) (g := (mkF m 81 #[.val (.int p0), .val (.long p1), .second, .val (.int (3 : Int32)), .val (.int (0 : Int32)), .val (.ref ar21), .unset, .unset, .unset, .unset, .unset] [(.int ((((p1).toUInt64 >>> ((40 : Int32) &&& 0x3f).toInt64.toUInt64).toInt64).toInt32).toInt8.toInt32), (.int (5 : Int32)), (.ref ar21)])) rfl rfl (hb hby at_81)
      rw [own_nar8] at A7
      have N7 := Fr.snoc X7 N6 ge_ar21
      have Z7 : n0 ≤ h7.size := by rw [W7.size]; exact Z6
      have f_6 : Arl Z h7 ar21 .byte [(.int ((p1).toInt32).toInt8.toInt32), (.int ((((p1).toUInt64 >>> ((8 : Int32) &&& 0x3f).toInt64.toUInt64).toInt64).toInt32).toInt8.toInt32), (.int ((((p1).toUInt64 >>> ((16 : Int32) &&& 0x3f).toInt64.toUInt64).toInt64).toInt32).toInt8.toInt32), (.int ((((p1).toUInt64 >>> ((24 : Int32) &&& 0x3f).toInt64.toUInt64).toInt64).toInt32).toInt8.toInt32), (.int ((((p1).toUInt64 >>> ((32 : Int32) &&& 0x3f).toInt64.toUInt64).toInt64).toInt32).toInt8.toInt32), (.int ((((p1).toUInt64 >>> ((40 : Int32) &&& 0x3f).toInt64.toUInt64).toInt64).toInt32).toInt8.toInt32), (.int (0 : Int32)), (.int (0 : Int32))] := A7
      refine Goes.go (st7) ?_
      show Goes _ _ _ _ _ _ _ (T7.setTop (mkF m 82 _ []))
      refine Goes.go (fun _ k => XS.aload X7.here hx rfl (hb hby at_82) rfl rfl k) ?_
      show Goes _ _ _ _ _ _ _ (T7.setTop (mkF m 84 _ [(.ref ar21)]))
      refine Goes.go (fun _ k => XS.bipush X7.here hx rfl (hb hby at_84) k) ?_
      show Goes _ _ _ _ _ _ _ (T7.setTop (mkF m 86 _ [(.int (6 : Int32)), (.ref ar21)]))
      refine Goes.go (fun _ k => XS.lloadN X7.here hx rfl (hb hby at_86) rfl k) ?_
      show Goes _ _ _ _ _ _ _ (T7.setTop (mkF m 87 _ [(.long p1), (.int (6 : Int32)), (.ref ar21)]))
      refine Goes.go (fun _ k => XS.bipush X7.here hx rfl (hb hby at_87) k) ?_
      show Goes _ _ _ _ _ _ _ (T7.setTop (mkF m 89 _ [(.int (48 : Int32)), (.long p1), (.int (6 : Int32)), (.ref ar21)]))
      refine Goes.go (fun _ k => XS.lushr X7.here hx rfl (hb hby at_89) rfl k) ?_
      show Goes _ _ _ _ _ _ _ (T7.setTop (mkF m 90 _ [(.long ((p1).toUInt64 >>> ((48 : Int32) &&& 0x3f).toInt64.toUInt64).toInt64), (.int (6 : Int32)), (.ref ar21)]))
      refine Goes.go (fun _ k => XS.l2i X7.here hx rfl (hb hby at_90) rfl k) ?_
      show Goes _ _ _ _ _ _ _ (T7.setTop (mkF m 91 _ [(.int (((p1).toUInt64 >>> ((48 : Int32) &&& 0x3f).toInt64.toUInt64).toInt64).toInt32), (.int (6 : Int32)), (.ref ar21)]))
      refine Goes.go (fun _ k => XS.i2b X7.here hx rfl (hb hby at_91) rfl k) ?_
      show Goes _ _ _ _ _ _ _ (T7.setTop (mkF m 92 _ [(.int ((((p1).toUInt64 >>> ((48 : Int32) &&& 0x3f).toInt64.toUInt64).toInt64).toInt32).toInt8.toInt32), (.int (6 : Int32)), (.ref ar21)]))
      obtain ⟨T8, h8, X8, e8, W8, A8, st8⟩ := own_stB X7 hx hZ e7 f_6 (j := (6 : Int32)) (x := ((((p1).toUInt64 >>> ((48 : Int32) &&& 0x3f).toInt64.toUInt64).toInt64).toInt32).toInt8.toInt32) (by decide) (show (6 : Nat) < 8 by decide) (g := (mkF m 92 #[.val (.int p0), .val (.long p1), .second, .val (.int (3 : Int32)), .val (.int (0 : Int32)), .val (.ref ar21), .unset, .unset, .unset, .unset, .unset] [(.int ((((p1).toUInt64 >>> ((48 : Int32) &&& 0x3f).toInt64.toUInt64).toInt64).toInt32).toInt8.toInt32), (.int (6 : Int32)), (.ref ar21)])) rfl rfl (hb hby at_92)
      rw [own_nar8] at A8
      have N8 := Fr.snoc X8 N7 ge_ar21
      have Z8 : n0 ≤ h8.size := by rw [W8.size]; exact Z7
      have f_7 : Arl Z h8 ar21 .byte [(.int ((p1).toInt32).toInt8.toInt32), (.int ((((p1).toUInt64 >>> ((8 : Int32) &&& 0x3f).toInt64.toUInt64).toInt64).toInt32).toInt8.toInt32), (.int ((((p1).toUInt64 >>> ((16 : Int32) &&& 0x3f).toInt64.toUInt64).toInt64).toInt32).toInt8.toInt32), (.int ((((p1).toUInt64 >>> ((24 : Int32) &&& 0x3f).toInt64.toUInt64).toInt64).toInt32).toInt8.toInt32), (.int ((((p1).toUInt64 >>> ((32 : Int32) &&& 0x3f).toInt64.toUInt64).toInt64).toInt32).toInt8.toInt32), (.int ((((p1).toUInt64 >>> ((40 : Int32) &&& 0x3f).toInt64.toUInt64).toInt64).toInt32).toInt8.toInt32), (.int ((((p1).toUInt64 >>> ((48 : Int32) &&& 0x3f).toInt64.toUInt64).toInt64).toInt32).toInt8.toInt32), (.int (0 : Int32))] := A8
      refine Goes.go (st8) ?_
      show Goes _ _ _ _ _ _ _ (T8.setTop (mkF m 93 _ []))
      refine Goes.go (fun _ k => XS.aload X8.here hx rfl (hb hby at_93) rfl rfl k) ?_
      show Goes _ _ _ _ _ _ _ (T8.setTop (mkF m 95 _ [(.ref ar21)]))
      refine Goes.go (fun _ k => XS.bipush X8.here hx rfl (hb hby at_95) k) ?_
      show Goes _ _ _ _ _ _ _ (T8.setTop (mkF m 97 _ [(.int (7 : Int32)), (.ref ar21)]))
      refine Goes.go (fun _ k => XS.lloadN X8.here hx rfl (hb hby at_97) rfl k) ?_
      show Goes _ _ _ _ _ _ _ (T8.setTop (mkF m 98 _ [(.long p1), (.int (7 : Int32)), (.ref ar21)]))
      refine Goes.go (fun _ k => XS.bipush X8.here hx rfl (hb hby at_98) k) ?_
      show Goes _ _ _ _ _ _ _ (T8.setTop (mkF m 100 _ [(.int (56 : Int32)), (.long p1), (.int (7 : Int32)), (.ref ar21)]))
      refine Goes.go (fun _ k => XS.lushr X8.here hx rfl (hb hby at_100) rfl k) ?_
      show Goes _ _ _ _ _ _ _ (T8.setTop (mkF m 101 _ [(.long ((p1).toUInt64 >>> ((56 : Int32) &&& 0x3f).toInt64.toUInt64).toInt64), (.int (7 : Int32)), (.ref ar21)]))
      refine Goes.go (fun _ k => XS.l2i X8.here hx rfl (hb hby at_101) rfl k) ?_
      show Goes _ _ _ _ _ _ _ (T8.setTop (mkF m 102 _ [(.int (((p1).toUInt64 >>> ((56 : Int32) &&& 0x3f).toInt64.toUInt64).toInt64).toInt32), (.int (7 : Int32)), (.ref ar21)]))
      refine Goes.go (fun _ k => XS.i2b X8.here hx rfl (hb hby at_102) rfl k) ?_
      show Goes _ _ _ _ _ _ _ (T8.setTop (mkF m 103 _ [(.int ((((p1).toUInt64 >>> ((56 : Int32) &&& 0x3f).toInt64.toUInt64).toInt64).toInt32).toInt8.toInt32), (.int (7 : Int32)), (.ref ar21)]))
      obtain ⟨T9, h9, X9, e9, W9, A9, st9⟩ := own_stB X8 hx hZ e8 f_7 (j := (7 : Int32)) (x := ((((p1).toUInt64 >>> ((56 : Int32) &&& 0x3f).toInt64.toUInt64).toInt64).toInt32).toInt8.toInt32) (by decide) (show (7 : Nat) < 8 by decide) (g := (mkF m 103 #[.val (.int p0), .val (.long p1), .second, .val (.int (3 : Int32)), .val (.int (0 : Int32)), .val (.ref ar21), .unset, .unset, .unset, .unset, .unset] [(.int ((((p1).toUInt64 >>> ((56 : Int32) &&& 0x3f).toInt64.toUInt64).toInt64).toInt32).toInt8.toInt32), (.int (7 : Int32)), (.ref ar21)])) rfl rfl (hb hby at_103)
      rw [own_nar8] at A9
      have N9 := Fr.snoc X9 N8 ge_ar21
      have Z9 : n0 ≤ h9.size := by rw [W9.size]; exact Z8
      have f_8 : Arl Z h9 ar21 .byte [(.int ((p1).toInt32).toInt8.toInt32), (.int ((((p1).toUInt64 >>> ((8 : Int32) &&& 0x3f).toInt64.toUInt64).toInt64).toInt32).toInt8.toInt32), (.int ((((p1).toUInt64 >>> ((16 : Int32) &&& 0x3f).toInt64.toUInt64).toInt64).toInt32).toInt8.toInt32), (.int ((((p1).toUInt64 >>> ((24 : Int32) &&& 0x3f).toInt64.toUInt64).toInt64).toInt32).toInt8.toInt32), (.int ((((p1).toUInt64 >>> ((32 : Int32) &&& 0x3f).toInt64.toUInt64).toInt64).toInt32).toInt8.toInt32), (.int ((((p1).toUInt64 >>> ((40 : Int32) &&& 0x3f).toInt64.toUInt64).toInt64).toInt32).toInt8.toInt32), (.int ((((p1).toUInt64 >>> ((48 : Int32) &&& 0x3f).toInt64.toUInt64).toInt64).toInt32).toInt8.toInt32), (.int ((((p1).toUInt64 >>> ((56 : Int32) &&& 0x3f).toInt64.toUInt64).toInt64).toInt32).toInt8.toInt32)] := A9
      refine Goes.go (st9) ?_
      show Goes _ _ _ _ _ _ _ (T9.setTop (mkF m 104 _ []))
      refine Goes.go (fun _ k => XS.iload X9.here hx rfl (hb hby at_104) rfl k) ?_
      show Goes _ _ _ _ _ _ _ (T9.setTop (mkF m 106 _ [(.int (0 : Int32))]))
      refine Goes.go (fun _ k => XS.ifYes X9.here hx rfl (pc0 := 106) (pc' := 113) rfl (hb hby at_106) rfl (XT.i0_eq_t (by decide)) (by decide) (by decide) k) ?_
      show Goes _ _ _ _ _ _ _ (T9.setTop (mkF m 113 _ []))
      refine Goes.go (fun _ k => XS.iconst X9.here hx rfl (hb hby at_113) k) ?_
      show Goes _ _ _ _ _ _ _ (T9.setTop (mkF m 114 _ [(.int (0 : Int32))]))
      refine Goes.go (fun _ k => XS.istore X9.here hx rfl (hb hby at_114) rfl (l' := #[.val (.int p0), .val (.long p1), .second, .val (.int (3 : Int32)), .val (.int (0 : Int32)), .val (.ref ar21), .val (.int (0 : Int32)), .unset, .unset, .unset, .unset]) rfl k) ?_
      show Goes _ _ _ _ _ _ _ (T9.setTop (mkF m 116 #[.val (.int p0), .val (.long p1), .second, .val (.int (3 : Int32)), .val (.int (0 : Int32)), .val (.ref ar21), .val (.int (0 : Int32)), .unset, .unset, .unset, .unset] []))
      refine Goes.go (fun _ k => XS.bipush X9.here hx rfl (hb hby at_116) k) ?_
      show Goes _ _ _ _ _ _ _ (T9.setTop (mkF m 118 _ [(.int (8 : Int32))]))
      refine Goes.go (fun _ k => XS.iload X9.here hx rfl (hb hby at_118) rfl k) ?_
      show Goes _ _ _ _ _ _ _ (T9.setTop (mkF m 120 _ [(.int (0 : Int32)), (.int (8 : Int32))]))
      refine Goes.go (fun _ k => XS.isub X9.here hx rfl (hb hby at_120) rfl k) ?_
      show Goes _ _ _ _ _ _ _ (T9.setTop (mkF m 121 _ [(.int (8 : Int32))]))
      refine Goes.go (fun _ k => XS.iloadN X9.here hx rfl (hb hby at_121) rfl k) ?_
      show Goes _ _ _ _ _ _ _ (T9.setTop (mkF m 122 _ [(.int (3 : Int32)), (.int (8 : Int32))]))
      refine Goes.go (fun _ k => XS.isub X9.here hx rfl (hb hby at_122) rfl k) ?_
      show Goes _ _ _ _ _ _ _ (T9.setTop (mkF m 123 _ [(.int (5 : Int32))]))
      refine Goes.go (fun _ k => XS.istore X9.here hx rfl (hb hby at_123) rfl (l' := #[.val (.int p0), .val (.long p1), .second, .val (.int (3 : Int32)), .val (.int (0 : Int32)), .val (.ref ar21), .val (.int (0 : Int32)), .val (.int (5 : Int32)), .unset, .unset, .unset]) rfl k) ?_
      show Goes _ _ _ _ _ _ _ (T9.setTop (mkF m 125 #[.val (.int p0), .val (.long p1), .second, .val (.int (3 : Int32)), .val (.int (0 : Int32)), .val (.ref ar21), .val (.int (0 : Int32)), .val (.int (5 : Int32)), .unset, .unset, .unset] []))
      refine Goes.go (fun _ k => XS.iloadN X9.here hx rfl (hb hby at_125) rfl k) ?_
      show Goes _ _ _ _ _ _ _ (T9.setTop (mkF m 126 _ [(.int (3 : Int32))]))
      refine Goes.go (fun _ k => XS.iconst X9.here hx rfl (hb hby at_126) k) ?_
      show Goes _ _ _ _ _ _ _ (T9.setTop (mkF m 127 _ [(.int (1 : Int32)), (.int (3 : Int32))]))
      refine Goes.go (fun _ k => XS.icmpNo X9.here hx rfl (hb hby at_127) rfl (XT.ii_lt_f (by decide)) k) ?_
      show Goes _ _ _ _ _ _ _ (T9.setTop (mkF m 130 _ []))
      refine Goes.go (fun _ k => XS.aload X9.here hx rfl (hb hby at_130) rfl rfl k) ?_
      show Goes _ _ _ _ _ _ _ (T9.setTop (mkF m 132 _ [(.ref ar21)]))
      refine Goes.go (fun _ k => XS.iload X9.here hx rfl (hb hby at_132) rfl k) ?_
      show Goes _ _ _ _ _ _ _ (T9.setTop (mkF m 134 _ [(.int (5 : Int32)), (.ref ar21)]))
      refine Goes.go (fun _ k => XS.aload X9.here hx rfl (hb hby at_134) rfl rfl k) ?_
      show Goes _ _ _ _ _ _ _ (T9.setTop (mkF m 136 _ [(.ref ar21), (.int (5 : Int32)), (.ref ar21)]))
      refine Goes.go (fun _ k => XS.iload X9.here hx rfl (hb hby at_136) rfl k) ?_
      show Goes _ _ _ _ _ _ _ (T9.setTop (mkF m 138 _ [(.int (5 : Int32)), (.ref ar21), (.int (5 : Int32)), (.ref ar21)]))
      refine Goes.go (own_ldB X9 hx hZ e9 f_8 (j := (5 : Int32)) (v := (.int ((((p1).toUInt64 >>> ((40 : Int32) &&& 0x3f).toInt64.toUInt64).toInt64).toInt32).toInt8.toInt32)) (by decide) rfl rfl rfl (hb hby at_138)) ?_
      show Goes _ _ _ _ _ _ _ (T9.setTop (mkF m 139 _ [(.int ((((p1).toUInt64 >>> ((40 : Int32) &&& 0x3f).toInt64.toUInt64).toInt64).toInt32).toInt8.toInt32), (.int (5 : Int32)), (.ref ar21)]))
      refine Goes.go (fun _ k => XS.bipush X9.here hx rfl (hb hby at_139) k) ?_
      show Goes _ _ _ _ _ _ _ (T9.setTop (mkF m 141 _ [(.int (127 : Int32)), (.int ((((p1).toUInt64 >>> ((40 : Int32) &&& 0x3f).toInt64.toUInt64).toInt64).toInt32).toInt8.toInt32), (.int (5 : Int32)), (.ref ar21)]))
      refine Goes.go (fun _ k => XS.iand X9.here hx rfl (hb hby at_141) rfl k) ?_
      show Goes _ _ _ _ _ _ _ (T9.setTop (mkF m 142 _ [(.int (((((p1).toUInt64 >>> ((40 : Int32) &&& 0x3f).toInt64.toUInt64).toInt64).toInt32).toInt8.toInt32 &&& (127 : Int32))), (.int (5 : Int32)), (.ref ar21)]))
      refine Goes.go (fun _ k => XS.i2b X9.here hx rfl (hb hby at_142) rfl k) ?_
      show Goes _ _ _ _ _ _ _ (T9.setTop (mkF m 143 _ [(.int ((((((p1).toUInt64 >>> ((40 : Int32) &&& 0x3f).toInt64.toUInt64).toInt64).toInt32).toInt8.toInt32 &&& (127 : Int32))).toInt8.toInt32), (.int (5 : Int32)), (.ref ar21)]))
      obtain ⟨T10, h10, X10, e10, W10, A10, st10⟩ := own_stB X9 hx hZ e9 f_8 (j := (5 : Int32)) (x := ((((((p1).toUInt64 >>> ((40 : Int32) &&& 0x3f).toInt64.toUInt64).toInt64).toInt32).toInt8.toInt32 &&& (127 : Int32))).toInt8.toInt32) (by decide) (show (5 : Nat) < 8 by decide) (g := (mkF m 143 #[.val (.int p0), .val (.long p1), .second, .val (.int (3 : Int32)), .val (.int (0 : Int32)), .val (.ref ar21), .val (.int (0 : Int32)), .val (.int (5 : Int32)), .unset, .unset, .unset] [(.int ((((((p1).toUInt64 >>> ((40 : Int32) &&& 0x3f).toInt64.toUInt64).toInt64).toInt32).toInt8.toInt32 &&& (127 : Int32))).toInt8.toInt32), (.int (5 : Int32)), (.ref ar21)])) rfl rfl (hb hby at_143)
      rw [own_nar8] at A10
      have N10 := Fr.snoc X10 N9 ge_ar21
      have Z10 : n0 ≤ h10.size := by rw [W10.size]; exact Z9
      have f_9 : Arl Z h10 ar21 .byte [(.int ((p1).toInt32).toInt8.toInt32), (.int ((((p1).toUInt64 >>> ((8 : Int32) &&& 0x3f).toInt64.toUInt64).toInt64).toInt32).toInt8.toInt32), (.int ((((p1).toUInt64 >>> ((16 : Int32) &&& 0x3f).toInt64.toUInt64).toInt64).toInt32).toInt8.toInt32), (.int ((((p1).toUInt64 >>> ((24 : Int32) &&& 0x3f).toInt64.toUInt64).toInt64).toInt32).toInt8.toInt32), (.int ((((p1).toUInt64 >>> ((32 : Int32) &&& 0x3f).toInt64.toUInt64).toInt64).toInt32).toInt8.toInt32), (.int ((((((p1).toUInt64 >>> ((40 : Int32) &&& 0x3f).toInt64.toUInt64).toInt64).toInt32).toInt8.toInt32 &&& (127 : Int32))).toInt8.toInt32), (.int ((((p1).toUInt64 >>> ((48 : Int32) &&& 0x3f).toInt64.toUInt64).toInt64).toInt32).toInt8.toInt32), (.int ((((p1).toUInt64 >>> ((56 : Int32) &&& 0x3f).toInt64.toUInt64).toInt64).toInt32).toInt8.toInt32)] := A10
      refine Goes.go (st10) ?_
      show Goes _ _ _ _ _ _ _ (T10.setTop (mkF m 144 _ []))
      refine Goes.go (fun _ k => XS.iloadN X10.here hx rfl (hb hby at_144) rfl k) ?_
      show Goes _ _ _ _ _ _ _ (T10.setTop (mkF m 145 _ [(.int (3 : Int32))]))
      refine Goes.go (fun _ k => XS.iconst X10.here hx rfl (hb hby at_145) k) ?_
      show Goes _ _ _ _ _ _ _ (T10.setTop (mkF m 146 _ [(.int (2 : Int32)), (.int (3 : Int32))]))
      refine Goes.go (fun _ k => XS.icmpNo X10.here hx rfl (hb hby at_146) rfl (XT.ii_lt_f (by decide)) k) ?_
      show Goes _ _ _ _ _ _ _ (T10.setTop (mkF m 149 _ []))
      refine Goes.go (fun _ k => XS.aload X10.here hx rfl (hb hby at_149) rfl rfl k) ?_
      show Goes _ _ _ _ _ _ _ (T10.setTop (mkF m 151 _ [(.ref ar21)]))
      refine Goes.go (fun _ k => XS.iload X10.here hx rfl (hb hby at_151) rfl k) ?_
      show Goes _ _ _ _ _ _ _ (T10.setTop (mkF m 153 _ [(.int (5 : Int32)), (.ref ar21)]))
      refine Goes.go (fun _ k => XS.iconst X10.here hx rfl (hb hby at_153) k) ?_
      show Goes _ _ _ _ _ _ _ (T10.setTop (mkF m 154 _ [(.int (1 : Int32)), (.int (5 : Int32)), (.ref ar21)]))
      refine Goes.go (fun _ k => XS.iadd X10.here hx rfl (hb hby at_154) rfl k) ?_
      show Goes _ _ _ _ _ _ _ (T10.setTop (mkF m 155 _ [(.int (6 : Int32)), (.ref ar21)]))
      refine Goes.go (fun _ k => XS.aload X10.here hx rfl (hb hby at_155) rfl rfl k) ?_
      show Goes _ _ _ _ _ _ _ (T10.setTop (mkF m 157 _ [(.ref ar21), (.int (6 : Int32)), (.ref ar21)]))
      refine Goes.go (fun _ k => XS.iload X10.here hx rfl (hb hby at_157) rfl k) ?_
      show Goes _ _ _ _ _ _ _ (T10.setTop (mkF m 159 _ [(.int (5 : Int32)), (.ref ar21), (.int (6 : Int32)), (.ref ar21)]))
      refine Goes.go (fun _ k => XS.iconst X10.here hx rfl (hb hby at_159) k) ?_
      show Goes _ _ _ _ _ _ _ (T10.setTop (mkF m 160 _ [(.int (1 : Int32)), (.int (5 : Int32)), (.ref ar21), (.int (6 : Int32)), (.ref ar21)]))
      refine Goes.go (fun _ k => XS.iadd X10.here hx rfl (hb hby at_160) rfl k) ?_
      show Goes _ _ _ _ _ _ _ (T10.setTop (mkF m 161 _ [(.int (6 : Int32)), (.ref ar21), (.int (6 : Int32)), (.ref ar21)]))
      refine Goes.go (own_ldB X10 hx hZ e10 f_9 (j := (6 : Int32)) (v := (.int ((((p1).toUInt64 >>> ((48 : Int32) &&& 0x3f).toInt64.toUInt64).toInt64).toInt32).toInt8.toInt32)) (by decide) rfl rfl rfl (hb hby at_161)) ?_
      show Goes _ _ _ _ _ _ _ (T10.setTop (mkF m 162 _ [(.int ((((p1).toUInt64 >>> ((48 : Int32) &&& 0x3f).toInt64.toUInt64).toInt64).toInt32).toInt8.toInt32), (.int (6 : Int32)), (.ref ar21)]))
      refine Goes.go (fun _ k => XS.bipush X10.here hx rfl (hb hby at_162) k) ?_
      show Goes _ _ _ _ _ _ _ (T10.setTop (mkF m 164 _ [(.int (127 : Int32)), (.int ((((p1).toUInt64 >>> ((48 : Int32) &&& 0x3f).toInt64.toUInt64).toInt64).toInt32).toInt8.toInt32), (.int (6 : Int32)), (.ref ar21)]))
      refine Goes.go (fun _ k => XS.iand X10.here hx rfl (hb hby at_164) rfl k) ?_
      show Goes _ _ _ _ _ _ _ (T10.setTop (mkF m 165 _ [(.int (((((p1).toUInt64 >>> ((48 : Int32) &&& 0x3f).toInt64.toUInt64).toInt64).toInt32).toInt8.toInt32 &&& (127 : Int32))), (.int (6 : Int32)), (.ref ar21)]))
      refine Goes.go (fun _ k => XS.i2b X10.here hx rfl (hb hby at_165) rfl k) ?_
      show Goes _ _ _ _ _ _ _ (T10.setTop (mkF m 166 _ [(.int ((((((p1).toUInt64 >>> ((48 : Int32) &&& 0x3f).toInt64.toUInt64).toInt64).toInt32).toInt8.toInt32 &&& (127 : Int32))).toInt8.toInt32), (.int (6 : Int32)), (.ref ar21)]))
      obtain ⟨T11, h11, X11, e11, W11, A11, st11⟩ := own_stB X10 hx hZ e10 f_9 (j := (6 : Int32)) (x := ((((((p1).toUInt64 >>> ((48 : Int32) &&& 0x3f).toInt64.toUInt64).toInt64).toInt32).toInt8.toInt32 &&& (127 : Int32))).toInt8.toInt32) (by decide) (show (6 : Nat) < 8 by decide) (g := (mkF m 166 #[.val (.int p0), .val (.long p1), .second, .val (.int (3 : Int32)), .val (.int (0 : Int32)), .val (.ref ar21), .val (.int (0 : Int32)), .val (.int (5 : Int32)), .unset, .unset, .unset] [(.int ((((((p1).toUInt64 >>> ((48 : Int32) &&& 0x3f).toInt64.toUInt64).toInt64).toInt32).toInt8.toInt32 &&& (127 : Int32))).toInt8.toInt32), (.int (6 : Int32)), (.ref ar21)])) rfl rfl (hb hby at_166)
      rw [own_nar8] at A11
      have N11 := Fr.snoc X11 N10 ge_ar21
      have Z11 : n0 ≤ h11.size := by rw [W11.size]; exact Z10
      have f_10 : Arl Z h11 ar21 .byte [(.int ((p1).toInt32).toInt8.toInt32), (.int ((((p1).toUInt64 >>> ((8 : Int32) &&& 0x3f).toInt64.toUInt64).toInt64).toInt32).toInt8.toInt32), (.int ((((p1).toUInt64 >>> ((16 : Int32) &&& 0x3f).toInt64.toUInt64).toInt64).toInt32).toInt8.toInt32), (.int ((((p1).toUInt64 >>> ((24 : Int32) &&& 0x3f).toInt64.toUInt64).toInt64).toInt32).toInt8.toInt32), (.int ((((p1).toUInt64 >>> ((32 : Int32) &&& 0x3f).toInt64.toUInt64).toInt64).toInt32).toInt8.toInt32), (.int ((((((p1).toUInt64 >>> ((40 : Int32) &&& 0x3f).toInt64.toUInt64).toInt64).toInt32).toInt8.toInt32 &&& (127 : Int32))).toInt8.toInt32), (.int ((((((p1).toUInt64 >>> ((48 : Int32) &&& 0x3f).toInt64.toUInt64).toInt64).toInt32).toInt8.toInt32 &&& (127 : Int32))).toInt8.toInt32), (.int ((((p1).toUInt64 >>> ((56 : Int32) &&& 0x3f).toInt64.toUInt64).toInt64).toInt32).toInt8.toInt32)] := A11
      refine Goes.go (st11) ?_
      show Goes _ _ _ _ _ _ _ (T11.setTop (mkF m 167 _ []))
      refine Goes.go (fun _ k => XS.iloadN X11.here hx rfl (hb hby at_167) rfl k) ?_
      show Goes _ _ _ _ _ _ _ (T11.setTop (mkF m 168 _ [(.int (3 : Int32))]))
      refine Goes.go (fun _ k => XS.iconst X11.here hx rfl (hb hby at_168) k) ?_
      show Goes _ _ _ _ _ _ _ (T11.setTop (mkF m 169 _ [(.int (3 : Int32)), (.int (3 : Int32))]))
      refine Goes.go (fun _ k => XS.icmpNo X11.here hx rfl (hb hby at_169) rfl (XT.ii_lt_f (by decide)) k) ?_
      show Goes _ _ _ _ _ _ _ (T11.setTop (mkF m 172 _ []))
      refine Goes.go (fun _ k => XS.aload X11.here hx rfl (hb hby at_172) rfl rfl k) ?_
      show Goes _ _ _ _ _ _ _ (T11.setTop (mkF m 174 _ [(.ref ar21)]))
      refine Goes.go (fun _ k => XS.iload X11.here hx rfl (hb hby at_174) rfl k) ?_
      show Goes _ _ _ _ _ _ _ (T11.setTop (mkF m 176 _ [(.int (5 : Int32)), (.ref ar21)]))
      refine Goes.go (fun _ k => XS.iconst X11.here hx rfl (hb hby at_176) k) ?_
      show Goes _ _ _ _ _ _ _ (T11.setTop (mkF m 177 _ [(.int (2 : Int32)), (.int (5 : Int32)), (.ref ar21)]))
      refine Goes.go (fun _ k => XS.iadd X11.here hx rfl (hb hby at_177) rfl k) ?_
      show Goes _ _ _ _ _ _ _ (T11.setTop (mkF m 178 _ [(.int (7 : Int32)), (.ref ar21)]))
      refine Goes.go (fun _ k => XS.aload X11.here hx rfl (hb hby at_178) rfl rfl k) ?_
      show Goes _ _ _ _ _ _ _ (T11.setTop (mkF m 180 _ [(.ref ar21), (.int (7 : Int32)), (.ref ar21)]))
      refine Goes.go (fun _ k => XS.iload X11.here hx rfl (hb hby at_180) rfl k) ?_
      show Goes _ _ _ _ _ _ _ (T11.setTop (mkF m 182 _ [(.int (5 : Int32)), (.ref ar21), (.int (7 : Int32)), (.ref ar21)]))
      refine Goes.go (fun _ k => XS.iconst X11.here hx rfl (hb hby at_182) k) ?_
      show Goes _ _ _ _ _ _ _ (T11.setTop (mkF m 183 _ [(.int (2 : Int32)), (.int (5 : Int32)), (.ref ar21), (.int (7 : Int32)), (.ref ar21)]))
      refine Goes.go (fun _ k => XS.iadd X11.here hx rfl (hb hby at_183) rfl k) ?_
      show Goes _ _ _ _ _ _ _ (T11.setTop (mkF m 184 _ [(.int (7 : Int32)), (.ref ar21), (.int (7 : Int32)), (.ref ar21)]))
      refine Goes.go (own_ldB X11 hx hZ e11 f_10 (j := (7 : Int32)) (v := (.int ((((p1).toUInt64 >>> ((56 : Int32) &&& 0x3f).toInt64.toUInt64).toInt64).toInt32).toInt8.toInt32)) (by decide) rfl rfl rfl (hb hby at_184)) ?_
      show Goes _ _ _ _ _ _ _ (T11.setTop (mkF m 185 _ [(.int ((((p1).toUInt64 >>> ((56 : Int32) &&& 0x3f).toInt64.toUInt64).toInt64).toInt32).toInt8.toInt32), (.int (7 : Int32)), (.ref ar21)]))
      refine Goes.go (fun _ k => XS.bipush X11.here hx rfl (hb hby at_185) k) ?_
      show Goes _ _ _ _ _ _ _ (T11.setTop (mkF m 187 _ [(.int (127 : Int32)), (.int ((((p1).toUInt64 >>> ((56 : Int32) &&& 0x3f).toInt64.toUInt64).toInt64).toInt32).toInt8.toInt32), (.int (7 : Int32)), (.ref ar21)]))
      refine Goes.go (fun _ k => XS.iand X11.here hx rfl (hb hby at_187) rfl k) ?_
      show Goes _ _ _ _ _ _ _ (T11.setTop (mkF m 188 _ [(.int (((((p1).toUInt64 >>> ((56 : Int32) &&& 0x3f).toInt64.toUInt64).toInt64).toInt32).toInt8.toInt32 &&& (127 : Int32))), (.int (7 : Int32)), (.ref ar21)]))
      refine Goes.go (fun _ k => XS.i2b X11.here hx rfl (hb hby at_188) rfl k) ?_
      show Goes _ _ _ _ _ _ _ (T11.setTop (mkF m 189 _ [(.int ((((((p1).toUInt64 >>> ((56 : Int32) &&& 0x3f).toInt64.toUInt64).toInt64).toInt32).toInt8.toInt32 &&& (127 : Int32))).toInt8.toInt32), (.int (7 : Int32)), (.ref ar21)]))
      obtain ⟨T12, h12, X12, e12, W12, A12, st12⟩ := own_stB X11 hx hZ e11 f_10 (j := (7 : Int32)) (x := ((((((p1).toUInt64 >>> ((56 : Int32) &&& 0x3f).toInt64.toUInt64).toInt64).toInt32).toInt8.toInt32 &&& (127 : Int32))).toInt8.toInt32) (by decide) (show (7 : Nat) < 8 by decide) (g := (mkF m 189 #[.val (.int p0), .val (.long p1), .second, .val (.int (3 : Int32)), .val (.int (0 : Int32)), .val (.ref ar21), .val (.int (0 : Int32)), .val (.int (5 : Int32)), .unset, .unset, .unset] [(.int ((((((p1).toUInt64 >>> ((56 : Int32) &&& 0x3f).toInt64.toUInt64).toInt64).toInt32).toInt8.toInt32 &&& (127 : Int32))).toInt8.toInt32), (.int (7 : Int32)), (.ref ar21)])) rfl rfl (hb hby at_189)
      rw [own_nar8] at A12
      have N12 := Fr.snoc X12 N11 ge_ar21
      have Z12 : n0 ≤ h12.size := by rw [W12.size]; exact Z11
      have f_11 : Arl Z h12 ar21 .byte [(.int ((p1).toInt32).toInt8.toInt32), (.int ((((p1).toUInt64 >>> ((8 : Int32) &&& 0x3f).toInt64.toUInt64).toInt64).toInt32).toInt8.toInt32), (.int ((((p1).toUInt64 >>> ((16 : Int32) &&& 0x3f).toInt64.toUInt64).toInt64).toInt32).toInt8.toInt32), (.int ((((p1).toUInt64 >>> ((24 : Int32) &&& 0x3f).toInt64.toUInt64).toInt64).toInt32).toInt8.toInt32), (.int ((((p1).toUInt64 >>> ((32 : Int32) &&& 0x3f).toInt64.toUInt64).toInt64).toInt32).toInt8.toInt32), (.int ((((((p1).toUInt64 >>> ((40 : Int32) &&& 0x3f).toInt64.toUInt64).toInt64).toInt32).toInt8.toInt32 &&& (127 : Int32))).toInt8.toInt32), (.int ((((((p1).toUInt64 >>> ((48 : Int32) &&& 0x3f).toInt64.toUInt64).toInt64).toInt32).toInt8.toInt32 &&& (127 : Int32))).toInt8.toInt32), (.int ((((((p1).toUInt64 >>> ((56 : Int32) &&& 0x3f).toInt64.toUInt64).toInt64).toInt32).toInt8.toInt32 &&& (127 : Int32))).toInt8.toInt32)] := A12
      refine Goes.go (st12) ?_
      show Goes _ _ _ _ _ _ _ (T12.setTop (mkF m 190 _ []))
      refine Goes.go (fun _ k => XS.iload X12.here hx rfl (hb hby at_190) rfl k) ?_
      show Goes _ _ _ _ _ _ _ (T12.setTop (mkF m 192 _ [(.int (0 : Int32))]))
      refine Goes.go (fun _ k => XS.ifYes X12.here hx rfl (pc0 := 192) (pc' := 224) rfl (hb hby at_192) rfl (XT.i0_eq_t (by decide)) (by decide) (by decide) k) ?_
      show Goes _ _ _ _ _ _ _ (T12.setTop (mkF m 224 _ []))
      obtain ⟨T13, h13, X13, e13, E13, A13, D13, -, st13⟩ := newO X12 hx hZ hown (hw _ (List.mem_of_getElem? (i := 1) rfl)) (hw _ (List.mem_of_getElem? (i := 2) rfl)) (hw _ (List.mem_of_getElem? (i := 3) rfl)) e12 (g := (mkF m 224 #[.val (.int p0), .val (.long p1), .second, .val (.int (3 : Int32)), .val (.int (0 : Int32)), .val (.ref ar21), .val (.int (0 : Int32)), .val (.int (5 : Int32)), .unset, .unset, .unset] [])) rfl (hb hby at_224) (by decide) (by decide)
      obtain ⟨ob224, gob224⟩ : ∃ z, z = h12.size := ⟨_, rfl⟩
      rw [← gob224] at A13 D13 st13
      have ne_ar21_ob224 : ar21 ≠ ob224 := by rw [gob224]; exact Nat.ne_of_lt f_11.lt
      have f_12 := f_11.ext E13
      have Z13 : n0 ≤ h13.size := Nat.le_trans Z12 E13.1
      have ge_ob224 : n0 ≤ ob224 := Nat.le_trans Z12 (Nat.le_of_eq gob224.symm)
      have f_13 : Fld Z h13 ob224 "com/example/countermand/countermand/Packed$Reader" "in" "[B" .null := D13 (Or.inr (hw _ (List.mem_of_getElem? (i := 11) rfl))) (ty := (.array .byte)) (by decide)
      have f_14 : Fld Z h13 ob224 "com/example/countermand/countermand/Packed$Reader" "position" "I" (.int (0 : Int32)) := D13 (Or.inl (hw _ (List.mem_of_getElem? (i := 13) rfl))) (ty := .int) (by decide)
      refine Goes.go (st13) ?_
      show Goes _ _ _ _ _ _ _ (T13.setTop (mkF m 227 _ [(.ref ob224)]))
      refine Goes.go (fun _ k => XS.dup X13.here hx rfl (hb hby at_227) rfl rfl k) ?_
      show Goes _ _ _ _ _ _ _ (T13.setTop (mkF m 228 _ [(.ref ob224), (.ref ob224)]))
      refine Goes.go (fun _ k => XS.aload X13.here hx rfl (hb hby at_228) rfl rfl k) ?_
      show Goes _ _ _ _ _ _ _ (T13.setTop (mkF m 230 _ [(.ref ar21), (.ref ob224), (.ref ob224)]))
      refine Goes.go (fun _ k => XS.iload X13.here hx rfl (hb hby at_230) rfl k) ?_
      show Goes _ _ _ _ _ _ _ (T13.setTop (mkF m 232 _ [(.int (5 : Int32)), (.ref ar21), (.ref ob224), (.ref ob224)]))
      obtain ⟨_, _, ⟨T14, L14, k14, n14⟩, -, X14, ⟨Lc14, hQ14, l14, y14, z14⟩, st14⟩ := X13.specialBack hx (y := (⟨"com/example/countermand/countermand/Packed$Reader", "<init>", "([BI)V"⟩ : MethodName)) rfl hown (mvT hZ (hw _ (List.mem_of_getElem? (i := 4) rfl))) (mvT hZ (hw _ (List.mem_of_getElem? (i := 5) rfl))) (mvT hZ (hw _ (List.mem_of_getElem? (i := 6) rfl))) (by decide) (backOf (W := 1) (rm1 l Z a0 hw [] ob224 ar21 (5 : Int32) h13 n0 Z13 A13 f_13 f_14 ge_ob224) hZ (hw _ (List.mem_of_getElem? (i := 6) rfl)) (hw _ (List.mem_of_getElem? (i := 3) rfl)) (by decide) (by decide)) (g := (mkF m 232 #[.val (.int p0), .val (.long p1), .second, .val (.int (3 : Int32)), .val (.int (0 : Int32)), .val (.ref ar21), .val (.int (0 : Int32)), .val (.int (5 : Int32)), .unset, .unset, .unset] [(.int (5 : Int32)), (.ref ar21), (.ref ob224), (.ref ob224)])) rfl (by rw [hml]; rfl) (Steps.refl _) (a := ob224) (argsL := [(.ref ar21), (.int (5 : Int32))]) (rest := [(.ref ob224)]) (lenOf pd0 rfl) rfl (by show 2 * 0 + _ ≤ _; exact Nat.le_of_eq rfl) (hb hby at_232) (fun _ _ => ⟨rfl, e13, (by decide : 2 + 0 ≤ _), (by decide : 10 + 0 ≤ _)⟩)
      dsimp only [Pt.U, Pt.locs, Pt.cells, Pt.slots] at X14 l14 y14 z14 st14 hQ14
      subst l14 y14 z14
      obtain ⟨rfl, Nq14, Kq14, Eq14, Fq14_0, Fq14_1⟩ := hQ14
      have N14 := Fr.app N12 Nq14
      have Z14 : n0 ≤ T14.heap.size := Nat.le_trans Z13 Kq14.1
      have f_15 := Arl.keep f_12 Kq14 (ninS ne_ar21_ob224 nin0)
      refine Goes.go (fun _ k => st14.trans k) ?_
      show Goes _ _ _ _ _ _ _ (T14.setTop (mkF m 235 _ [(.ref ob224)]))
      refine Goes.go (fun _ k => XS.astore X14.here hx rfl (hb hby at_235) rfl rfl (l' := #[.val (.int p0), .val (.long p1), .second, .val (.int (3 : Int32)), .val (.int (0 : Int32)), .val (.ref ar21), .val (.int (0 : Int32)), .val (.int (5 : Int32)), .val (.ref ob224), .unset, .unset]) rfl k) ?_
      show Goes _ _ _ _ _ _ _ (T14.setTop (mkF m 237 #[.val (.int p0), .val (.long p1), .second, .val (.int (3 : Int32)), .val (.int (0 : Int32)), .val (.ref ar21), .val (.int (0 : Int32)), .val (.int (5 : Int32)), .val (.ref ob224), .unset, .unset] []))
      refine Goes.go (fun _ k => XS.iconst X14.here hx rfl (hb hby at_237) k) ?_
      show Goes _ _ _ _ _ _ _ (T14.setTop (mkF m 238 _ [(.int (1 : Int32))]))
      refine Goes.go (fun _ k => XS.istore X14.here hx rfl (hb hby at_238) rfl (l' := #[.val (.int p0), .val (.long p1), .second, .val (.int (3 : Int32)), .val (.int (0 : Int32)), .val (.ref ar21), .val (.int (0 : Int32)), .val (.int (5 : Int32)), .val (.ref ob224), .val (.int (1 : Int32)), .unset]) rfl k) ?_
      show Goes _ _ _ _ _ _ _ (T14.setTop (mkF m 240 #[.val (.int p0), .val (.long p1), .second, .val (.int (3 : Int32)), .val (.int (0 : Int32)), .val (.ref ar21), .val (.int (0 : Int32)), .val (.int (5 : Int32)), .val (.ref ob224), .val (.int (1 : Int32)), .unset] []))
      refine Goes.go (fun _ k => XS.iloadN X14.here hx rfl (hb hby at_240) rfl k) ?_
      show Goes _ _ _ _ _ _ _ (T14.setTop (mkF m 241 _ [(.int (3 : Int32))]))
      refine Goes.go (fun _ k => XS.iconst X14.here hx rfl (hb hby at_241) k) ?_
      show Goes _ _ _ _ _ _ _ (T14.setTop (mkF m 242 _ [(.int (1 : Int32)), (.int (3 : Int32))]))
      refine Goes.go (fun _ k => XS.icmpNo X14.here hx rfl (hb hby at_242) rfl (XT.ii_lt_f (by decide)) k) ?_
      show Goes _ _ _ _ _ _ _ (T14.setTop (mkF m 245 _ []))
      refine Goes.go (fun _ k => XS.iload X14.here hx rfl (hb hby at_245) rfl k) ?_
      show Goes _ _ _ _ _ _ _ (T14.setTop (mkF m 247 _ [(.int (1 : Int32))]))
      refine Goes.go (fun _ k => XS.ifNo X14.here hx rfl (hb hby at_247) rfl (XT.i0_eq_f (by decide)) k) ?_
      show Goes _ _ _ _ _ _ _ (T14.setTop (mkF m 250 _ []))
      refine Goes.go (fun _ k => XS.aload X14.here hx rfl (hb hby at_250) rfl rfl k) ?_
      show Goes _ _ _ _ _ _ _ (T14.setTop (mkF m 252 _ [(.ref ob224)]))
      obtain ⟨cq15, kq15, qa15, qb15, qc15⟩ := isOf hZ rfl Eq14
      obtain ⟨_, _, ⟨T15, L15, k15, n15⟩, -, X15, ⟨Lc15, hQ15, l15, y15, z15⟩, st15⟩ := X14.virtualBack hx (y := (⟨"com/example/countermand/countermand/Packed$Reader", "count", "()I"⟩ : MethodName)) (z := (⟨"com/example/countermand/countermand/Packed$Reader", "count", "()I"⟩ : MethodName)) hown (mvT hZ (hw _ (List.mem_of_getElem? (i := 19) rfl))) (mvT hZ (hw _ (List.mem_of_getElem? (i := 20) rfl))) (notFace_of_selects (args := #[]) (mvT hZ (hw _ (List.mem_of_getElem? (i := 22) rfl)))) (mvT hZ (hw _ (List.mem_of_getElem? (i := 22) rfl))) (mvT hZ (hw _ (List.mem_of_getElem? (i := 21) rfl))) (by decide) (backOf (W := 0) (rm4 l Z a0 hw [] ob224 ar21 _ (5 : Int32) [((((((p1).toUInt64 >>> ((40 : Int32) &&& 0x3f).toInt64.toUInt64).toInt64).toInt32).toInt8.toInt32 &&& (127 : Int32))).toInt8.toInt32] T14.heap n0 Z14 Eq14 Fq14_0 Fq14_1 ge_ob224 f_15 ⟨by decide, rfl, own_lo8 (((((p1).toUInt64 >>> ((40 : Int32) &&& 0x3f).toInt64.toUInt64).toInt64).toInt32).toInt8)⟩ (fit_1 (((((p1).toUInt64 >>> ((40 : Int32) &&& 0x3f).toInt64.toUInt64).toInt64).toInt32).toInt8))) hZ (hw _ (List.mem_of_getElem? (i := 23) rfl)) (hw _ (List.mem_of_getElem? (i := 3) rfl)) (by decide) (by decide)) qa15 qc15 (g := (mkF m 252 #[.val (.int p0), .val (.long p1), .second, .val (.int (3 : Int32)), .val (.int (0 : Int32)), .val (.ref ar21), .val (.int (0 : Int32)), .val (.int (5 : Int32)), .val (.ref ob224), .val (.int (1 : Int32)), .unset] [(.ref ob224)])) rfl (by rw [hml]; rfl) (Steps.refl _) (argsL := []) (rest := []) (lenOf pd2 rfl) rfl (by show 2 * 0 + _ ≤ _; exact Nat.le_of_eq rfl) (hb hby at_252) (fun _ _ => ⟨rfl, rfl, (by decide : 2 + 0 ≤ _), (by decide : 10 + 0 ≤ _)⟩)
      dsimp only [Pt.U, Pt.locs, Pt.cells, Pt.slots] at X15 l15 y15 z15 st15 hQ15
      subst l15 y15 z15
      obtain ⟨rfl, Nq15, Kq15, Eq15, Fq15_0, Fq15_1⟩ := hQ15
      have N15 := Fr.app N14 Nq15
      have Z15 : n0 ≤ T15.heap.size := Nat.le_trans Z14 Kq15.1
      have f_16 := Arl.keep f_15 Kq15 (ninS ne_ar21_ob224 nin0)
      refine Goes.go (fun _ k => st15.trans k) ?_
      show Goes _ _ _ _ _ _ _ (T15.setTop (mkF m 255 _ [(.int (svb [((((((p1).toUInt64 >>> ((40 : Int32) &&& 0x3f).toInt64.toUInt64).toInt64).toInt32).toInt8.toInt32 &&& (127 : Int32))).toInt8.toInt32] 0 0).toInt32)]))
      refine Goes.go (fun _ k => XS.aload X15.here hx rfl (hb hby at_255) rfl rfl k) ?_
      show Goes _ _ _ _ _ _ _ (T15.setTop (mkF m 257 _ [(.ref ar21), (.int (svb [((((((p1).toUInt64 >>> ((40 : Int32) &&& 0x3f).toInt64.toUInt64).toInt64).toInt32).toInt8.toInt32 &&& (127 : Int32))).toInt8.toInt32] 0 0).toInt32)]))
      refine Goes.go (fun _ k => XS.iload X15.here hx rfl (hb hby at_257) rfl k) ?_
      show Goes _ _ _ _ _ _ _ (T15.setTop (mkF m 259 _ [(.int (5 : Int32)), (.ref ar21), (.int (svb [((((((p1).toUInt64 >>> ((40 : Int32) &&& 0x3f).toInt64.toUInt64).toInt64).toInt32).toInt8.toInt32 &&& (127 : Int32))).toInt8.toInt32] 0 0).toInt32)]))
      refine Goes.go (own_ldB X15 hx hZ rfl f_16 (j := (5 : Int32)) (v := (.int ((((((p1).toUInt64 >>> ((40 : Int32) &&& 0x3f).toInt64.toUInt64).toInt64).toInt32).toInt8.toInt32 &&& (127 : Int32))).toInt8.toInt32)) (by decide) rfl rfl rfl (hb hby at_259)) ?_
      show Goes _ _ _ _ _ _ _ (T15.setTop (mkF m 260 _ [(.int ((((((p1).toUInt64 >>> ((40 : Int32) &&& 0x3f).toInt64.toUInt64).toInt64).toInt32).toInt8.toInt32 &&& (127 : Int32))).toInt8.toInt32), (.int (svb [((((((p1).toUInt64 >>> ((40 : Int32) &&& 0x3f).toInt64.toUInt64).toInt64).toInt32).toInt8.toInt32 &&& (127 : Int32))).toInt8.toInt32] 0 0).toInt32)]))
      refine Goes.go (fun _ k => XS.icmpNo X15.here hx rfl (hb hby at_260) rfl (XT.ii_ne_f (val_1 (((((p1).toUInt64 >>> ((40 : Int32) &&& 0x3f).toInt64.toUInt64).toInt64).toInt32).toInt8))) k) ?_
      show Goes _ _ _ _ _ _ _ (T15.setTop (mkF m 263 _ []))
      refine Goes.go (fun _ k => XS.iconst X15.here hx rfl (hb hby at_263) k) ?_
      show Goes _ _ _ _ _ _ _ (T15.setTop (mkF m 264 _ [(.int (1 : Int32))]))
      refine Goes.go (fun _ k => XS.goto X15.here hx rfl (pc0 := 264) (pc' := 268) rfl (hb hby at_264) (by decide) (by decide) k) ?_
      show Goes _ _ _ _ _ _ _ (T15.setTop (mkF m 268 _ [(.int (1 : Int32))]))
      refine Goes.go (fun _ k => XS.istore X15.here hx rfl (hb hby at_268) rfl (l' := #[.val (.int p0), .val (.long p1), .second, .val (.int (3 : Int32)), .val (.int (0 : Int32)), .val (.ref ar21), .val (.int (0 : Int32)), .val (.int (5 : Int32)), .val (.ref ob224), .val (.int (1 : Int32)), .unset]) rfl k) ?_
      show Goes _ _ _ _ _ _ _ (T15.setTop (mkF m 270 _ []))
      refine Goes.go (fun _ k => XS.iloadN X15.here hx rfl (hb hby at_270) rfl k) ?_
      show Goes _ _ _ _ _ _ _ (T15.setTop (mkF m 271 _ [(.int (3 : Int32))]))
      refine Goes.go (fun _ k => XS.iconst X15.here hx rfl (hb hby at_271) k) ?_
      show Goes _ _ _ _ _ _ _ (T15.setTop (mkF m 272 _ [(.int (2 : Int32)), (.int (3 : Int32))]))
      refine Goes.go (fun _ k => XS.icmpNo X15.here hx rfl (hb hby at_272) rfl (XT.ii_lt_f (by decide)) k) ?_
      show Goes _ _ _ _ _ _ _ (T15.setTop (mkF m 275 _ []))
      refine Goes.go (fun _ k => XS.iload X15.here hx rfl (hb hby at_275) rfl k) ?_
      show Goes _ _ _ _ _ _ _ (T15.setTop (mkF m 277 _ [(.int (1 : Int32))]))
      refine Goes.go (fun _ k => XS.ifNo X15.here hx rfl (hb hby at_277) rfl (XT.i0_eq_f (by decide)) k) ?_
      show Goes _ _ _ _ _ _ _ (T15.setTop (mkF m 280 _ []))
      refine Goes.go (fun _ k => XS.aload X15.here hx rfl (hb hby at_280) rfl rfl k) ?_
      show Goes _ _ _ _ _ _ _ (T15.setTop (mkF m 282 _ [(.ref ob224)]))
      obtain ⟨cq16, kq16, qa16, qb16, qc16⟩ := isOf hZ rfl Eq15
      obtain ⟨_, _, ⟨T16, L16, k16, n16⟩, -, X16, ⟨Lc16, hQ16, l16, y16, z16⟩, st16⟩ := X15.virtualBack hx (y := (⟨"com/example/countermand/countermand/Packed$Reader", "count", "()I"⟩ : MethodName)) (z := (⟨"com/example/countermand/countermand/Packed$Reader", "count", "()I"⟩ : MethodName)) hown (mvT hZ (hw _ (List.mem_of_getElem? (i := 19) rfl))) (mvT hZ (hw _ (List.mem_of_getElem? (i := 20) rfl))) (notFace_of_selects (args := #[]) (mvT hZ (hw _ (List.mem_of_getElem? (i := 22) rfl)))) (mvT hZ (hw _ (List.mem_of_getElem? (i := 22) rfl))) (mvT hZ (hw _ (List.mem_of_getElem? (i := 21) rfl))) (by decide) (backOf (W := 0) (rm4 l Z a0 hw [] ob224 ar21 _ (6 : Int32) [((((((p1).toUInt64 >>> ((48 : Int32) &&& 0x3f).toInt64.toUInt64).toInt64).toInt32).toInt8.toInt32 &&& (127 : Int32))).toInt8.toInt32] T15.heap n0 Z15 Eq15 Fq15_0 Fq15_1 ge_ob224 f_16 ⟨by decide, rfl, own_lo8 (((((p1).toUInt64 >>> ((48 : Int32) &&& 0x3f).toInt64.toUInt64).toInt64).toInt32).toInt8)⟩ (fit_1 (((((p1).toUInt64 >>> ((48 : Int32) &&& 0x3f).toInt64.toUInt64).toInt64).toInt32).toInt8))) hZ (hw _ (List.mem_of_getElem? (i := 23) rfl)) (hw _ (List.mem_of_getElem? (i := 3) rfl)) (by decide) (by decide)) qa16 qc16 (g := (mkF m 282 #[.val (.int p0), .val (.long p1), .second, .val (.int (3 : Int32)), .val (.int (0 : Int32)), .val (.ref ar21), .val (.int (0 : Int32)), .val (.int (5 : Int32)), .val (.ref ob224), .val (.int (1 : Int32)), .unset] [(.ref ob224)])) rfl (by rw [hml]; rfl) (Steps.refl _) (argsL := []) (rest := []) (lenOf pd2 rfl) rfl (by show 2 * 0 + _ ≤ _; exact Nat.le_of_eq rfl) (hb hby at_282) (fun _ _ => ⟨rfl, rfl, (by decide : 2 + 0 ≤ _), (by decide : 10 + 0 ≤ _)⟩)
      dsimp only [Pt.U, Pt.locs, Pt.cells, Pt.slots] at X16 l16 y16 z16 st16 hQ16
      subst l16 y16 z16
      obtain ⟨rfl, Nq16, Kq16, Eq16, Fq16_0, Fq16_1⟩ := hQ16
      have N16 := Fr.app N15 Nq16
      have Z16 : n0 ≤ T16.heap.size := Nat.le_trans Z15 Kq16.1
      have f_17 := Arl.keep f_16 Kq16 (ninS ne_ar21_ob224 nin0)
      refine Goes.go (fun _ k => st16.trans k) ?_
      show Goes _ _ _ _ _ _ _ (T16.setTop (mkF m 285 _ [(.int (svb [((((((p1).toUInt64 >>> ((48 : Int32) &&& 0x3f).toInt64.toUInt64).toInt64).toInt32).toInt8.toInt32 &&& (127 : Int32))).toInt8.toInt32] 0 0).toInt32)]))
      refine Goes.go (fun _ k => XS.aload X16.here hx rfl (hb hby at_285) rfl rfl k) ?_
      show Goes _ _ _ _ _ _ _ (T16.setTop (mkF m 287 _ [(.ref ar21), (.int (svb [((((((p1).toUInt64 >>> ((48 : Int32) &&& 0x3f).toInt64.toUInt64).toInt64).toInt32).toInt8.toInt32 &&& (127 : Int32))).toInt8.toInt32] 0 0).toInt32)]))
      refine Goes.go (fun _ k => XS.iload X16.here hx rfl (hb hby at_287) rfl k) ?_
      show Goes _ _ _ _ _ _ _ (T16.setTop (mkF m 289 _ [(.int (5 : Int32)), (.ref ar21), (.int (svb [((((((p1).toUInt64 >>> ((48 : Int32) &&& 0x3f).toInt64.toUInt64).toInt64).toInt32).toInt8.toInt32 &&& (127 : Int32))).toInt8.toInt32] 0 0).toInt32)]))
      refine Goes.go (fun _ k => XS.iconst X16.here hx rfl (hb hby at_289) k) ?_
      show Goes _ _ _ _ _ _ _ (T16.setTop (mkF m 290 _ [(.int (1 : Int32)), (.int (5 : Int32)), (.ref ar21), (.int (svb [((((((p1).toUInt64 >>> ((48 : Int32) &&& 0x3f).toInt64.toUInt64).toInt64).toInt32).toInt8.toInt32 &&& (127 : Int32))).toInt8.toInt32] 0 0).toInt32)]))
      refine Goes.go (fun _ k => XS.iadd X16.here hx rfl (hb hby at_290) rfl k) ?_
      show Goes _ _ _ _ _ _ _ (T16.setTop (mkF m 291 _ [(.int (6 : Int32)), (.ref ar21), (.int (svb [((((((p1).toUInt64 >>> ((48 : Int32) &&& 0x3f).toInt64.toUInt64).toInt64).toInt32).toInt8.toInt32 &&& (127 : Int32))).toInt8.toInt32] 0 0).toInt32)]))
      refine Goes.go (own_ldB X16 hx hZ rfl f_17 (j := (6 : Int32)) (v := (.int ((((((p1).toUInt64 >>> ((48 : Int32) &&& 0x3f).toInt64.toUInt64).toInt64).toInt32).toInt8.toInt32 &&& (127 : Int32))).toInt8.toInt32)) (by decide) rfl rfl rfl (hb hby at_291)) ?_
      show Goes _ _ _ _ _ _ _ (T16.setTop (mkF m 292 _ [(.int ((((((p1).toUInt64 >>> ((48 : Int32) &&& 0x3f).toInt64.toUInt64).toInt64).toInt32).toInt8.toInt32 &&& (127 : Int32))).toInt8.toInt32), (.int (svb [((((((p1).toUInt64 >>> ((48 : Int32) &&& 0x3f).toInt64.toUInt64).toInt64).toInt32).toInt8.toInt32 &&& (127 : Int32))).toInt8.toInt32] 0 0).toInt32)]))
      refine Goes.go (fun _ k => XS.icmpNo X16.here hx rfl (hb hby at_292) rfl (XT.ii_ne_f (val_1 (((((p1).toUInt64 >>> ((48 : Int32) &&& 0x3f).toInt64.toUInt64).toInt64).toInt32).toInt8))) k) ?_
      show Goes _ _ _ _ _ _ _ (T16.setTop (mkF m 295 _ []))
      refine Goes.go (fun _ k => XS.iconst X16.here hx rfl (hb hby at_295) k) ?_
      show Goes _ _ _ _ _ _ _ (T16.setTop (mkF m 296 _ [(.int (1 : Int32))]))
      refine Goes.go (fun _ k => XS.goto X16.here hx rfl (pc0 := 296) (pc' := 300) rfl (hb hby at_296) (by decide) (by decide) k) ?_
      show Goes _ _ _ _ _ _ _ (T16.setTop (mkF m 300 _ [(.int (1 : Int32))]))
      refine Goes.go (fun _ k => XS.istore X16.here hx rfl (hb hby at_300) rfl (l' := #[.val (.int p0), .val (.long p1), .second, .val (.int (3 : Int32)), .val (.int (0 : Int32)), .val (.ref ar21), .val (.int (0 : Int32)), .val (.int (5 : Int32)), .val (.ref ob224), .val (.int (1 : Int32)), .unset]) rfl k) ?_
      show Goes _ _ _ _ _ _ _ (T16.setTop (mkF m 302 _ []))
      refine Goes.go (fun _ k => XS.iloadN X16.here hx rfl (hb hby at_302) rfl k) ?_
      show Goes _ _ _ _ _ _ _ (T16.setTop (mkF m 303 _ [(.int (3 : Int32))]))
      refine Goes.go (fun _ k => XS.iconst X16.here hx rfl (hb hby at_303) k) ?_
      show Goes _ _ _ _ _ _ _ (T16.setTop (mkF m 304 _ [(.int (3 : Int32)), (.int (3 : Int32))]))
      refine Goes.go (fun _ k => XS.icmpNo X16.here hx rfl (hb hby at_304) rfl (XT.ii_lt_f (by decide)) k) ?_
      show Goes _ _ _ _ _ _ _ (T16.setTop (mkF m 307 _ []))
      refine Goes.go (fun _ k => XS.iload X16.here hx rfl (hb hby at_307) rfl k) ?_
      show Goes _ _ _ _ _ _ _ (T16.setTop (mkF m 309 _ [(.int (1 : Int32))]))
      refine Goes.go (fun _ k => XS.ifNo X16.here hx rfl (hb hby at_309) rfl (XT.i0_eq_f (by decide)) k) ?_
      show Goes _ _ _ _ _ _ _ (T16.setTop (mkF m 312 _ []))
      refine Goes.go (fun _ k => XS.aload X16.here hx rfl (hb hby at_312) rfl rfl k) ?_
      show Goes _ _ _ _ _ _ _ (T16.setTop (mkF m 314 _ [(.ref ob224)]))
      obtain ⟨cq17, kq17, qa17, qb17, qc17⟩ := isOf hZ rfl Eq16
      obtain ⟨_, _, ⟨T17, L17, k17, n17⟩, -, X17, ⟨Lc17, hQ17, l17, y17, z17⟩, st17⟩ := X16.virtualBack hx (y := (⟨"com/example/countermand/countermand/Packed$Reader", "count", "()I"⟩ : MethodName)) (z := (⟨"com/example/countermand/countermand/Packed$Reader", "count", "()I"⟩ : MethodName)) hown (mvT hZ (hw _ (List.mem_of_getElem? (i := 19) rfl))) (mvT hZ (hw _ (List.mem_of_getElem? (i := 20) rfl))) (notFace_of_selects (args := #[]) (mvT hZ (hw _ (List.mem_of_getElem? (i := 22) rfl)))) (mvT hZ (hw _ (List.mem_of_getElem? (i := 22) rfl))) (mvT hZ (hw _ (List.mem_of_getElem? (i := 21) rfl))) (by decide) (backOf (W := 0) (rm4 l Z a0 hw [] ob224 ar21 _ (7 : Int32) [((((((p1).toUInt64 >>> ((56 : Int32) &&& 0x3f).toInt64.toUInt64).toInt64).toInt32).toInt8.toInt32 &&& (127 : Int32))).toInt8.toInt32] T16.heap n0 Z16 Eq16 Fq16_0 Fq16_1 ge_ob224 f_17 ⟨by decide, rfl, own_lo8 (((((p1).toUInt64 >>> ((56 : Int32) &&& 0x3f).toInt64.toUInt64).toInt64).toInt32).toInt8)⟩ (fit_1 (((((p1).toUInt64 >>> ((56 : Int32) &&& 0x3f).toInt64.toUInt64).toInt64).toInt32).toInt8))) hZ (hw _ (List.mem_of_getElem? (i := 23) rfl)) (hw _ (List.mem_of_getElem? (i := 3) rfl)) (by decide) (by decide)) qa17 qc17 (g := (mkF m 314 #[.val (.int p0), .val (.long p1), .second, .val (.int (3 : Int32)), .val (.int (0 : Int32)), .val (.ref ar21), .val (.int (0 : Int32)), .val (.int (5 : Int32)), .val (.ref ob224), .val (.int (1 : Int32)), .unset] [(.ref ob224)])) rfl (by rw [hml]; rfl) (Steps.refl _) (argsL := []) (rest := []) (lenOf pd2 rfl) rfl (by show 2 * 0 + _ ≤ _; exact Nat.le_of_eq rfl) (hb hby at_314) (fun _ _ => ⟨rfl, rfl, (by decide : 2 + 0 ≤ _), (by decide : 10 + 0 ≤ _)⟩)
      dsimp only [Pt.U, Pt.locs, Pt.cells, Pt.slots] at X17 l17 y17 z17 st17 hQ17
      subst l17 y17 z17
      obtain ⟨rfl, Nq17, Kq17, Eq17, Fq17_0, Fq17_1⟩ := hQ17
      have N17 := Fr.app N16 Nq17
      have Z17 : n0 ≤ T17.heap.size := Nat.le_trans Z16 Kq17.1
      have f_18 := Arl.keep f_17 Kq17 (ninS ne_ar21_ob224 nin0)
      refine Goes.go (fun _ k => st17.trans k) ?_
      show Goes _ _ _ _ _ _ _ (T17.setTop (mkF m 317 _ [(.int (svb [((((((p1).toUInt64 >>> ((56 : Int32) &&& 0x3f).toInt64.toUInt64).toInt64).toInt32).toInt8.toInt32 &&& (127 : Int32))).toInt8.toInt32] 0 0).toInt32)]))
      refine Goes.go (fun _ k => XS.aload X17.here hx rfl (hb hby at_317) rfl rfl k) ?_
      show Goes _ _ _ _ _ _ _ (T17.setTop (mkF m 319 _ [(.ref ar21), (.int (svb [((((((p1).toUInt64 >>> ((56 : Int32) &&& 0x3f).toInt64.toUInt64).toInt64).toInt32).toInt8.toInt32 &&& (127 : Int32))).toInt8.toInt32] 0 0).toInt32)]))
      refine Goes.go (fun _ k => XS.iload X17.here hx rfl (hb hby at_319) rfl k) ?_
      show Goes _ _ _ _ _ _ _ (T17.setTop (mkF m 321 _ [(.int (5 : Int32)), (.ref ar21), (.int (svb [((((((p1).toUInt64 >>> ((56 : Int32) &&& 0x3f).toInt64.toUInt64).toInt64).toInt32).toInt8.toInt32 &&& (127 : Int32))).toInt8.toInt32] 0 0).toInt32)]))
      refine Goes.go (fun _ k => XS.iconst X17.here hx rfl (hb hby at_321) k) ?_
      show Goes _ _ _ _ _ _ _ (T17.setTop (mkF m 322 _ [(.int (2 : Int32)), (.int (5 : Int32)), (.ref ar21), (.int (svb [((((((p1).toUInt64 >>> ((56 : Int32) &&& 0x3f).toInt64.toUInt64).toInt64).toInt32).toInt8.toInt32 &&& (127 : Int32))).toInt8.toInt32] 0 0).toInt32)]))
      refine Goes.go (fun _ k => XS.iadd X17.here hx rfl (hb hby at_322) rfl k) ?_
      show Goes _ _ _ _ _ _ _ (T17.setTop (mkF m 323 _ [(.int (7 : Int32)), (.ref ar21), (.int (svb [((((((p1).toUInt64 >>> ((56 : Int32) &&& 0x3f).toInt64.toUInt64).toInt64).toInt32).toInt8.toInt32 &&& (127 : Int32))).toInt8.toInt32] 0 0).toInt32)]))
      refine Goes.go (own_ldB X17 hx hZ rfl f_18 (j := (7 : Int32)) (v := (.int ((((((p1).toUInt64 >>> ((56 : Int32) &&& 0x3f).toInt64.toUInt64).toInt64).toInt32).toInt8.toInt32 &&& (127 : Int32))).toInt8.toInt32)) (by decide) rfl rfl rfl (hb hby at_323)) ?_
      show Goes _ _ _ _ _ _ _ (T17.setTop (mkF m 324 _ [(.int ((((((p1).toUInt64 >>> ((56 : Int32) &&& 0x3f).toInt64.toUInt64).toInt64).toInt32).toInt8.toInt32 &&& (127 : Int32))).toInt8.toInt32), (.int (svb [((((((p1).toUInt64 >>> ((56 : Int32) &&& 0x3f).toInt64.toUInt64).toInt64).toInt32).toInt8.toInt32 &&& (127 : Int32))).toInt8.toInt32] 0 0).toInt32)]))
      refine Goes.go (fun _ k => XS.icmpNo X17.here hx rfl (hb hby at_324) rfl (XT.ii_ne_f (val_1 (((((p1).toUInt64 >>> ((56 : Int32) &&& 0x3f).toInt64.toUInt64).toInt64).toInt32).toInt8))) k) ?_
      show Goes _ _ _ _ _ _ _ (T17.setTop (mkF m 327 _ []))
      refine Goes.go (fun _ k => XS.iconst X17.here hx rfl (hb hby at_327) k) ?_
      show Goes _ _ _ _ _ _ _ (T17.setTop (mkF m 328 _ [(.int (1 : Int32))]))
      refine Goes.go (fun _ k => XS.goto X17.here hx rfl (pc0 := 328) (pc' := 332) rfl (hb hby at_328) (by decide) (by decide) k) ?_
      show Goes _ _ _ _ _ _ _ (T17.setTop (mkF m 332 _ [(.int (1 : Int32))]))
      refine Goes.go (fun _ k => XS.istore X17.here hx rfl (hb hby at_332) rfl (l' := #[.val (.int p0), .val (.long p1), .second, .val (.int (3 : Int32)), .val (.int (0 : Int32)), .val (.ref ar21), .val (.int (0 : Int32)), .val (.int (5 : Int32)), .val (.ref ob224), .val (.int (1 : Int32)), .unset]) rfl k) ?_
      show Goes _ _ _ _ _ _ _ (T17.setTop (mkF m 334 _ []))
      refine Goes.go (fun _ k => XS.iload X17.here hx rfl (hb hby at_334) rfl k) ?_
      show Goes _ _ _ _ _ _ _ (T17.setTop (mkF m 336 _ [(.int (0 : Int32))]))
      refine Goes.go (fun _ k => XS.ifYes X17.here hx rfl (pc0 := 336) (pc' := 380) rfl (hb hby at_336) rfl (XT.i0_eq_t (by decide)) (by decide) (by decide) k) ?_
      show Goes _ _ _ _ _ _ _ (T17.setTop (mkF m 380 _ []))
      refine Goes.go (fun _ k => XS.aload X17.here hx rfl (hb hby at_380) rfl rfl k) ?_
      show Goes _ _ _ _ _ _ _ (T17.setTop (mkF m 382 _ [(.ref ob224)]))
      obtain ⟨cq18, kq18, qa18, qb18, qc18⟩ := isOf hZ rfl Eq17
      obtain ⟨_, _, ⟨T18, L18, k18, n18⟩, -, X18, ⟨Lc18, hQ18, l18, y18, z18⟩, st18⟩ := X17.virtualBack hx (y := (⟨"com/example/countermand/countermand/Packed$Reader", "end", "()V"⟩ : MethodName)) (z := (⟨"com/example/countermand/countermand/Packed$Reader", "end", "()V"⟩ : MethodName)) hown (mvT hZ (hw _ (List.mem_of_getElem? (i := 14) rfl))) (mvT hZ (hw _ (List.mem_of_getElem? (i := 15) rfl))) (notFace_of_selects (args := #[]) (mvT hZ (hw _ (List.mem_of_getElem? (i := 17) rfl)))) (mvT hZ (hw _ (List.mem_of_getElem? (i := 17) rfl))) (mvT hZ (hw _ (List.mem_of_getElem? (i := 16) rfl))) (by decide) (backOf (W := 0) (rm3 l Z a0 hw [] ob224 ar21 _ (8 : Int32) T17.heap n0 Z17 Fq17_0 Fq17_1 f_18 rfl) hZ (hw _ (List.mem_of_getElem? (i := 18) rfl)) (hw _ (List.mem_of_getElem? (i := 3) rfl)) (by decide) (by decide)) qa18 qc18 (g := (mkF m 382 #[.val (.int p0), .val (.long p1), .second, .val (.int (3 : Int32)), .val (.int (0 : Int32)), .val (.ref ar21), .val (.int (0 : Int32)), .val (.int (5 : Int32)), .val (.ref ob224), .val (.int (1 : Int32)), .unset] [(.ref ob224)])) rfl (by rw [hml]; rfl) (Steps.refl _) (argsL := []) (rest := []) (lenOf pd1 rfl) rfl (by show 2 * 0 + _ ≤ _; exact Nat.le_of_eq rfl) (hb hby at_382) (fun _ _ => ⟨rfl, rfl, (by decide : 2 + 0 ≤ _), (by decide : 10 + 0 ≤ _)⟩)
      dsimp only [Pt.U, Pt.locs, Pt.cells, Pt.slots] at X18 l18 y18 z18 st18 hQ18
      subst l18 y18 z18
      obtain ⟨rfl, Nq18, hh18⟩ := hQ18
      have N18 := Fr.app N17 Nq18
      refine Goes.go (fun _ k => st18.trans k) ?_
      show Goes _ _ _ _ _ _ _ (T18.setTop (mkF m 385 _ []))
      refine Goes.go (fun _ k => XS.iload X18.here hx rfl (hb hby at_385) rfl k) ?_
      show Goes _ _ _ _ _ _ _ (T18.setTop (mkF m 387 _ [(.int (1 : Int32))]))
      exact Goes.outZ X18 hx hlk hret rfl (hb hby at_387) hh18 ⟨rfl, N18⟩ (by decide) (by decide)
    · skip
      refine Goes.go (fun _ k => XS.ifNo X0.here hx rfl (hb hby at_9) rfl (XT.i0_eq_f c9) k) ?_
      show Goes _ _ _ _ _ _ _ (s₁.setTop (mkF m 12 _ []))
      refine Goes.go (fun _ k => XS.iconst X0.here hx rfl (hb hby at_12) k) ?_
      show Goes _ _ _ _ _ _ _ (s₁.setTop (mkF m 13 _ [(.int (1 : Int32))]))
      refine Goes.go (fun _ k => XS.goto X0.here hx rfl (pc0 := 13) (pc' := 17) rfl (hb hby at_13) (by decide) (by decide) k) ?_
      show Goes _ _ _ _ _ _ _ (s₁.setTop (mkF m 17 _ [(.int (1 : Int32))]))
      refine Goes.go (fun _ k => XS.istore X0.here hx rfl (hb hby at_17) rfl (l' := #[.val (.int p0), .val (.long p1), .second, .val (.int (3 : Int32)), .val (.int (1 : Int32)), .unset, .unset, .unset, .unset, .unset, .unset]) rfl k) ?_
      show Goes _ _ _ _ _ _ _ (s₁.setTop (mkF m 19 #[.val (.int p0), .val (.long p1), .second, .val (.int (3 : Int32)), .val (.int (1 : Int32)), .unset, .unset, .unset, .unset, .unset, .unset] []))
      refine Goes.go (fun _ k => XS.bipush X0.here hx rfl (hb hby at_19) k) ?_
      show Goes _ _ _ _ _ _ _ (s₁.setTop (mkF m 21 _ [(.int (8 : Int32))]))
      obtain ⟨T1, h1, X1, e1, E1, A1, st1⟩ := own_newP X0 hx hZ (aty := .byte) (hw _ (List.mem_of_getElem? (i := 0) rfl)) e0 (g := (mkF m 21 #[.val (.int p0), .val (.long p1), .second, .val (.int (3 : Int32)), .val (.int (1 : Int32)), .unset, .unset, .unset, .unset, .unset, .unset] [(.int (8 : Int32))])) rfl (hb hby at_21) rfl (n := (8 : Int32)) (by decide) (cap := 8) (by decide) (by decide) (by decide) (by decide)
      obtain ⟨ar21, gar21⟩ : ∃ z, z = h0.size := ⟨_, rfl⟩
      rw [← gar21] at A1 st1
      have Z1 : n0 ≤ h1.size := Nat.le_trans Z0 E1.1
      have ge_ar21 : n0 ≤ ar21 := Nat.le_trans Z0 (Nat.le_of_eq gar21.symm)
      have f : Arl Z h1 ar21 .byte [(.int (0 : Int32)), (.int (0 : Int32)), (.int (0 : Int32)), (.int (0 : Int32)), (.int (0 : Int32)), (.int (0 : Int32)), (.int (0 : Int32)), (.int (0 : Int32))] := A1
      refine Goes.go (st1) ?_
      show Goes _ _ _ _ _ _ _ (T1.setTop (mkF m 23 _ [(.ref ar21)]))
      refine Goes.go (fun _ k => XS.astore X1.here hx rfl (hb hby at_23) rfl rfl (l' := #[.val (.int p0), .val (.long p1), .second, .val (.int (3 : Int32)), .val (.int (1 : Int32)), .val (.ref ar21), .unset, .unset, .unset, .unset, .unset]) rfl k) ?_
      show Goes _ _ _ _ _ _ _ (T1.setTop (mkF m 25 #[.val (.int p0), .val (.long p1), .second, .val (.int (3 : Int32)), .val (.int (1 : Int32)), .val (.ref ar21), .unset, .unset, .unset, .unset, .unset] []))
      refine Goes.go (fun _ k => XS.aload X1.here hx rfl (hb hby at_25) rfl rfl k) ?_
      show Goes _ _ _ _ _ _ _ (T1.setTop (mkF m 27 _ [(.ref ar21)]))
      refine Goes.go (fun _ k => XS.iconst X1.here hx rfl (hb hby at_27) k) ?_
      show Goes _ _ _ _ _ _ _ (T1.setTop (mkF m 28 _ [(.int (0 : Int32)), (.ref ar21)]))
      refine Goes.go (fun _ k => XS.lloadN X1.here hx rfl (hb hby at_28) rfl k) ?_
      show Goes _ _ _ _ _ _ _ (T1.setTop (mkF m 29 _ [(.long p1), (.int (0 : Int32)), (.ref ar21)]))
      refine Goes.go (fun _ k => XS.l2i X1.here hx rfl (hb hby at_29) rfl k) ?_
      show Goes _ _ _ _ _ _ _ (T1.setTop (mkF m 30 _ [(.int (p1).toInt32), (.int (0 : Int32)), (.ref ar21)]))
      refine Goes.go (fun _ k => XS.i2b X1.here hx rfl (hb hby at_30) rfl k) ?_
      show Goes _ _ _ _ _ _ _ (T1.setTop (mkF m 31 _ [(.int ((p1).toInt32).toInt8.toInt32), (.int (0 : Int32)), (.ref ar21)]))
      obtain ⟨T2, h2, X2, e2, W2, A2, st2⟩ := own_stB X1 hx hZ e1 f (j := (0 : Int32)) (x := ((p1).toInt32).toInt8.toInt32) (by decide) (show (0 : Nat) < 8 by decide) (g := (mkF m 31 #[.val (.int p0), .val (.long p1), .second, .val (.int (3 : Int32)), .val (.int (1 : Int32)), .val (.ref ar21), .unset, .unset, .unset, .unset, .unset] [(.int ((p1).toInt32).toInt8.toInt32), (.int (0 : Int32)), (.ref ar21)])) rfl rfl (hb hby at_31)
      rw [own_nar8] at A2
      have N2 := Fr.snoc X2 N0 ge_ar21
      have Z2 : n0 ≤ h2.size := by rw [W2.size]; exact Z1
      have f_1 : Arl Z h2 ar21 .byte [(.int ((p1).toInt32).toInt8.toInt32), (.int (0 : Int32)), (.int (0 : Int32)), (.int (0 : Int32)), (.int (0 : Int32)), (.int (0 : Int32)), (.int (0 : Int32)), (.int (0 : Int32))] := A2
      refine Goes.go (st2) ?_
      show Goes _ _ _ _ _ _ _ (T2.setTop (mkF m 32 _ []))
      refine Goes.go (fun _ k => XS.aload X2.here hx rfl (hb hby at_32) rfl rfl k) ?_
      show Goes _ _ _ _ _ _ _ (T2.setTop (mkF m 34 _ [(.ref ar21)]))
      refine Goes.go (fun _ k => XS.iconst X2.here hx rfl (hb hby at_34) k) ?_
      show Goes _ _ _ _ _ _ _ (T2.setTop (mkF m 35 _ [(.int (1 : Int32)), (.ref ar21)]))
      refine Goes.go (fun _ k => XS.lloadN X2.here hx rfl (hb hby at_35) rfl k) ?_
      show Goes _ _ _ _ _ _ _ (T2.setTop (mkF m 36 _ [(.long p1), (.int (1 : Int32)), (.ref ar21)]))
      refine Goes.go (fun _ k => XS.bipush X2.here hx rfl (hb hby at_36) k) ?_
      show Goes _ _ _ _ _ _ _ (T2.setTop (mkF m 38 _ [(.int (8 : Int32)), (.long p1), (.int (1 : Int32)), (.ref ar21)]))
      refine Goes.go (fun _ k => XS.lushr X2.here hx rfl (hb hby at_38) rfl k) ?_
      show Goes _ _ _ _ _ _ _ (T2.setTop (mkF m 39 _ [(.long ((p1).toUInt64 >>> ((8 : Int32) &&& 0x3f).toInt64.toUInt64).toInt64), (.int (1 : Int32)), (.ref ar21)]))
      refine Goes.go (fun _ k => XS.l2i X2.here hx rfl (hb hby at_39) rfl k) ?_
      show Goes _ _ _ _ _ _ _ (T2.setTop (mkF m 40 _ [(.int (((p1).toUInt64 >>> ((8 : Int32) &&& 0x3f).toInt64.toUInt64).toInt64).toInt32), (.int (1 : Int32)), (.ref ar21)]))
      refine Goes.go (fun _ k => XS.i2b X2.here hx rfl (hb hby at_40) rfl k) ?_
      show Goes _ _ _ _ _ _ _ (T2.setTop (mkF m 41 _ [(.int ((((p1).toUInt64 >>> ((8 : Int32) &&& 0x3f).toInt64.toUInt64).toInt64).toInt32).toInt8.toInt32), (.int (1 : Int32)), (.ref ar21)]))
      obtain ⟨T3, h3, X3, e3, W3, A3, st3⟩ := own_stB X2 hx hZ e2 f_1 (j := (1 : Int32)) (x := ((((p1).toUInt64 >>> ((8 : Int32) &&& 0x3f).toInt64.toUInt64).toInt64).toInt32).toInt8.toInt32) (by decide) (show (1 : Nat) < 8 by decide) (g := (mkF m 41 #[.val (.int p0), .val (.long p1), .second, .val (.int (3 : Int32)), .val (.int (1 : Int32)), .val (.ref ar21), .unset, .unset, .unset, .unset, .unset] [(.int ((((p1).toUInt64 >>> ((8 : Int32) &&& 0x3f).toInt64.toUInt64).toInt64).toInt32).toInt8.toInt32), (.int (1 : Int32)), (.ref ar21)])) rfl rfl (hb hby at_41)
      rw [own_nar8] at A3
      have N3 := Fr.snoc X3 N2 ge_ar21
      have Z3 : n0 ≤ h3.size := by rw [W3.size]; exact Z2
      have f_2 : Arl Z h3 ar21 .byte [(.int ((p1).toInt32).toInt8.toInt32), (.int ((((p1).toUInt64 >>> ((8 : Int32) &&& 0x3f).toInt64.toUInt64).toInt64).toInt32).toInt8.toInt32), (.int (0 : Int32)), (.int (0 : Int32)), (.int (0 : Int32)), (.int (0 : Int32)), (.int (0 : Int32)), (.int (0 : Int32))] := A3
      refine Goes.go (st3) ?_
      show Goes _ _ _ _ _ _ _ (T3.setTop (mkF m 42 _ []))
      refine Goes.go (fun _ k => XS.aload X3.here hx rfl (hb hby at_42) rfl rfl k) ?_
      show Goes _ _ _ _ _ _ _ (T3.setTop (mkF m 44 _ [(.ref ar21)]))
      refine Goes.go (fun _ k => XS.iconst X3.here hx rfl (hb hby at_44) k) ?_
      show Goes _ _ _ _ _ _ _ (T3.setTop (mkF m 45 _ [(.int (2 : Int32)), (.ref ar21)]))
      refine Goes.go (fun _ k => XS.lloadN X3.here hx rfl (hb hby at_45) rfl k) ?_
      show Goes _ _ _ _ _ _ _ (T3.setTop (mkF m 46 _ [(.long p1), (.int (2 : Int32)), (.ref ar21)]))
      refine Goes.go (fun _ k => XS.bipush X3.here hx rfl (hb hby at_46) k) ?_
      show Goes _ _ _ _ _ _ _ (T3.setTop (mkF m 48 _ [(.int (16 : Int32)), (.long p1), (.int (2 : Int32)), (.ref ar21)]))
      refine Goes.go (fun _ k => XS.lushr X3.here hx rfl (hb hby at_48) rfl k) ?_
      show Goes _ _ _ _ _ _ _ (T3.setTop (mkF m 49 _ [(.long ((p1).toUInt64 >>> ((16 : Int32) &&& 0x3f).toInt64.toUInt64).toInt64), (.int (2 : Int32)), (.ref ar21)]))
      refine Goes.go (fun _ k => XS.l2i X3.here hx rfl (hb hby at_49) rfl k) ?_
      show Goes _ _ _ _ _ _ _ (T3.setTop (mkF m 50 _ [(.int (((p1).toUInt64 >>> ((16 : Int32) &&& 0x3f).toInt64.toUInt64).toInt64).toInt32), (.int (2 : Int32)), (.ref ar21)]))
      refine Goes.go (fun _ k => XS.i2b X3.here hx rfl (hb hby at_50) rfl k) ?_
      show Goes _ _ _ _ _ _ _ (T3.setTop (mkF m 51 _ [(.int ((((p1).toUInt64 >>> ((16 : Int32) &&& 0x3f).toInt64.toUInt64).toInt64).toInt32).toInt8.toInt32), (.int (2 : Int32)), (.ref ar21)]))
      obtain ⟨T4, h4, X4, e4, W4, A4, st4⟩ := own_stB X3 hx hZ e3 f_2 (j := (2 : Int32)) (x := ((((p1).toUInt64 >>> ((16 : Int32) &&& 0x3f).toInt64.toUInt64).toInt64).toInt32).toInt8.toInt32) (by decide) (show (2 : Nat) < 8 by decide) (g := (mkF m 51 #[.val (.int p0), .val (.long p1), .second, .val (.int (3 : Int32)), .val (.int (1 : Int32)), .val (.ref ar21), .unset, .unset, .unset, .unset, .unset] [(.int ((((p1).toUInt64 >>> ((16 : Int32) &&& 0x3f).toInt64.toUInt64).toInt64).toInt32).toInt8.toInt32), (.int (2 : Int32)), (.ref ar21)])) rfl rfl (hb hby at_51)
      rw [own_nar8] at A4
      have N4 := Fr.snoc X4 N3 ge_ar21
      have Z4 : n0 ≤ h4.size := by rw [W4.size]; exact Z3
      have f_3 : Arl Z h4 ar21 .byte [(.int ((p1).toInt32).toInt8.toInt32), (.int ((((p1).toUInt64 >>> ((8 : Int32) &&& 0x3f).toInt64.toUInt64).toInt64).toInt32).toInt8.toInt32), (.int ((((p1).toUInt64 >>> ((16 : Int32) &&& 0x3f).toInt64.toUInt64).toInt64).toInt32).toInt8.toInt32), (.int (0 : Int32)), (.int (0 : Int32)), (.int (0 : Int32)), (.int (0 : Int32)), (.int (0 : Int32))] := A4
      refine Goes.go (st4) ?_
      show Goes _ _ _ _ _ _ _ (T4.setTop (mkF m 52 _ []))
      refine Goes.go (fun _ k => XS.aload X4.here hx rfl (hb hby at_52) rfl rfl k) ?_
      show Goes _ _ _ _ _ _ _ (T4.setTop (mkF m 54 _ [(.ref ar21)]))
      refine Goes.go (fun _ k => XS.iconst X4.here hx rfl (hb hby at_54) k) ?_
      show Goes _ _ _ _ _ _ _ (T4.setTop (mkF m 55 _ [(.int (3 : Int32)), (.ref ar21)]))
      refine Goes.go (fun _ k => XS.lloadN X4.here hx rfl (hb hby at_55) rfl k) ?_
      show Goes _ _ _ _ _ _ _ (T4.setTop (mkF m 56 _ [(.long p1), (.int (3 : Int32)), (.ref ar21)]))
      refine Goes.go (fun _ k => XS.bipush X4.here hx rfl (hb hby at_56) k) ?_
      show Goes _ _ _ _ _ _ _ (T4.setTop (mkF m 58 _ [(.int (24 : Int32)), (.long p1), (.int (3 : Int32)), (.ref ar21)]))
      refine Goes.go (fun _ k => XS.lushr X4.here hx rfl (hb hby at_58) rfl k) ?_
      show Goes _ _ _ _ _ _ _ (T4.setTop (mkF m 59 _ [(.long ((p1).toUInt64 >>> ((24 : Int32) &&& 0x3f).toInt64.toUInt64).toInt64), (.int (3 : Int32)), (.ref ar21)]))
      refine Goes.go (fun _ k => XS.l2i X4.here hx rfl (hb hby at_59) rfl k) ?_
      show Goes _ _ _ _ _ _ _ (T4.setTop (mkF m 60 _ [(.int (((p1).toUInt64 >>> ((24 : Int32) &&& 0x3f).toInt64.toUInt64).toInt64).toInt32), (.int (3 : Int32)), (.ref ar21)]))
      refine Goes.go (fun _ k => XS.i2b X4.here hx rfl (hb hby at_60) rfl k) ?_
      show Goes _ _ _ _ _ _ _ (T4.setTop (mkF m 61 _ [(.int ((((p1).toUInt64 >>> ((24 : Int32) &&& 0x3f).toInt64.toUInt64).toInt64).toInt32).toInt8.toInt32), (.int (3 : Int32)), (.ref ar21)]))
      obtain ⟨T5, h5, X5, e5, W5, A5, st5⟩ := own_stB X4 hx hZ e4 f_3 (j := (3 : Int32)) (x := ((((p1).toUInt64 >>> ((24 : Int32) &&& 0x3f).toInt64.toUInt64).toInt64).toInt32).toInt8.toInt32) (by decide) (show (3 : Nat) < 8 by decide) (g := (mkF m 61 #[.val (.int p0), .val (.long p1), .second, .val (.int (3 : Int32)), .val (.int (1 : Int32)), .val (.ref ar21), .unset, .unset, .unset, .unset, .unset] [(.int ((((p1).toUInt64 >>> ((24 : Int32) &&& 0x3f).toInt64.toUInt64).toInt64).toInt32).toInt8.toInt32), (.int (3 : Int32)), (.ref ar21)])) rfl rfl (hb hby at_61)
      rw [own_nar8] at A5
      have N5 := Fr.snoc X5 N4 ge_ar21
      have Z5 : n0 ≤ h5.size := by rw [W5.size]; exact Z4
      have f_4 : Arl Z h5 ar21 .byte [(.int ((p1).toInt32).toInt8.toInt32), (.int ((((p1).toUInt64 >>> ((8 : Int32) &&& 0x3f).toInt64.toUInt64).toInt64).toInt32).toInt8.toInt32), (.int ((((p1).toUInt64 >>> ((16 : Int32) &&& 0x3f).toInt64.toUInt64).toInt64).toInt32).toInt8.toInt32), (.int ((((p1).toUInt64 >>> ((24 : Int32) &&& 0x3f).toInt64.toUInt64).toInt64).toInt32).toInt8.toInt32), (.int (0 : Int32)), (.int (0 : Int32)), (.int (0 : Int32)), (.int (0 : Int32))] := A5
      refine Goes.go (st5) ?_
      show Goes _ _ _ _ _ _ _ (T5.setTop (mkF m 62 _ []))
      refine Goes.go (fun _ k => XS.aload X5.here hx rfl (hb hby at_62) rfl rfl k) ?_
      show Goes _ _ _ _ _ _ _ (T5.setTop (mkF m 64 _ [(.ref ar21)]))
      refine Goes.go (fun _ k => XS.iconst X5.here hx rfl (hb hby at_64) k) ?_
      show Goes _ _ _ _ _ _ _ (T5.setTop (mkF m 65 _ [(.int (4 : Int32)), (.ref ar21)]))
      refine Goes.go (fun _ k => XS.lloadN X5.here hx rfl (hb hby at_65) rfl k) ?_
      show Goes _ _ _ _ _ _ _ (T5.setTop (mkF m 66 _ [(.long p1), (.int (4 : Int32)), (.ref ar21)]))
      refine Goes.go (fun _ k => XS.bipush X5.here hx rfl (hb hby at_66) k) ?_
      show Goes _ _ _ _ _ _ _ (T5.setTop (mkF m 68 _ [(.int (32 : Int32)), (.long p1), (.int (4 : Int32)), (.ref ar21)]))
      refine Goes.go (fun _ k => XS.lushr X5.here hx rfl (hb hby at_68) rfl k) ?_
      show Goes _ _ _ _ _ _ _ (T5.setTop (mkF m 69 _ [(.long ((p1).toUInt64 >>> ((32 : Int32) &&& 0x3f).toInt64.toUInt64).toInt64), (.int (4 : Int32)), (.ref ar21)]))
      refine Goes.go (fun _ k => XS.l2i X5.here hx rfl (hb hby at_69) rfl k) ?_
      show Goes _ _ _ _ _ _ _ (T5.setTop (mkF m 70 _ [(.int (((p1).toUInt64 >>> ((32 : Int32) &&& 0x3f).toInt64.toUInt64).toInt64).toInt32), (.int (4 : Int32)), (.ref ar21)]))
      refine Goes.go (fun _ k => XS.i2b X5.here hx rfl (hb hby at_70) rfl k) ?_
      show Goes _ _ _ _ _ _ _ (T5.setTop (mkF m 71 _ [(.int ((((p1).toUInt64 >>> ((32 : Int32) &&& 0x3f).toInt64.toUInt64).toInt64).toInt32).toInt8.toInt32), (.int (4 : Int32)), (.ref ar21)]))
      obtain ⟨T6, h6, X6, e6, W6, A6, st6⟩ := own_stB X5 hx hZ e5 f_4 (j := (4 : Int32)) (x := ((((p1).toUInt64 >>> ((32 : Int32) &&& 0x3f).toInt64.toUInt64).toInt64).toInt32).toInt8.toInt32) (by decide) (show (4 : Nat) < 8 by decide) (g := (mkF m 71 #[.val (.int p0), .val (.long p1), .second, .val (.int (3 : Int32)), .val (.int (1 : Int32)), .val (.ref ar21), .unset, .unset, .unset, .unset, .unset] [(.int ((((p1).toUInt64 >>> ((32 : Int32) &&& 0x3f).toInt64.toUInt64).toInt64).toInt32).toInt8.toInt32), (.int (4 : Int32)), (.ref ar21)])) rfl rfl (hb hby at_71)
      rw [own_nar8] at A6
      have N6 := Fr.snoc X6 N5 ge_ar21
      have Z6 : n0 ≤ h6.size := by rw [W6.size]; exact Z5
      have f_5 : Arl Z h6 ar21 .byte [(.int ((p1).toInt32).toInt8.toInt32), (.int ((((p1).toUInt64 >>> ((8 : Int32) &&& 0x3f).toInt64.toUInt64).toInt64).toInt32).toInt8.toInt32), (.int ((((p1).toUInt64 >>> ((16 : Int32) &&& 0x3f).toInt64.toUInt64).toInt64).toInt32).toInt8.toInt32), (.int ((((p1).toUInt64 >>> ((24 : Int32) &&& 0x3f).toInt64.toUInt64).toInt64).toInt32).toInt8.toInt32), (.int ((((p1).toUInt64 >>> ((32 : Int32) &&& 0x3f).toInt64.toUInt64).toInt64).toInt32).toInt8.toInt32), (.int (0 : Int32)), (.int (0 : Int32)), (.int (0 : Int32))] := A6
      refine Goes.go (st6) ?_
      show Goes _ _ _ _ _ _ _ (T6.setTop (mkF m 72 _ []))
      refine Goes.go (fun _ k => XS.aload X6.here hx rfl (hb hby at_72) rfl rfl k) ?_
      show Goes _ _ _ _ _ _ _ (T6.setTop (mkF m 74 _ [(.ref ar21)]))
      refine Goes.go (fun _ k => XS.iconst X6.here hx rfl (hb hby at_74) k) ?_
      show Goes _ _ _ _ _ _ _ (T6.setTop (mkF m 75 _ [(.int (5 : Int32)), (.ref ar21)]))
      refine Goes.go (fun _ k => XS.lloadN X6.here hx rfl (hb hby at_75) rfl k) ?_
      show Goes _ _ _ _ _ _ _ (T6.setTop (mkF m 76 _ [(.long p1), (.int (5 : Int32)), (.ref ar21)]))
      refine Goes.go (fun _ k => XS.bipush X6.here hx rfl (hb hby at_76) k) ?_
      show Goes _ _ _ _ _ _ _ (T6.setTop (mkF m 78 _ [(.int (40 : Int32)), (.long p1), (.int (5 : Int32)), (.ref ar21)]))
      refine Goes.go (fun _ k => XS.lushr X6.here hx rfl (hb hby at_78) rfl k) ?_
      show Goes _ _ _ _ _ _ _ (T6.setTop (mkF m 79 _ [(.long ((p1).toUInt64 >>> ((40 : Int32) &&& 0x3f).toInt64.toUInt64).toInt64), (.int (5 : Int32)), (.ref ar21)]))
      refine Goes.go (fun _ k => XS.l2i X6.here hx rfl (hb hby at_79) rfl k) ?_
      show Goes _ _ _ _ _ _ _ (T6.setTop (mkF m 80 _ [(.int (((p1).toUInt64 >>> ((40 : Int32) &&& 0x3f).toInt64.toUInt64).toInt64).toInt32), (.int (5 : Int32)), (.ref ar21)]))
      refine Goes.go (fun _ k => XS.i2b X6.here hx rfl (hb hby at_80) rfl k) ?_
      show Goes _ _ _ _ _ _ _ (T6.setTop (mkF m 81 _ [(.int ((((p1).toUInt64 >>> ((40 : Int32) &&& 0x3f).toInt64.toUInt64).toInt64).toInt32).toInt8.toInt32), (.int (5 : Int32)), (.ref ar21)]))
      obtain ⟨T7, h7, X7, e7, W7, A7, st7⟩ := own_stB X6 hx hZ e6 f_5 (j := (5 : Int32)) (x := ((((p1).toUInt64 >>> ((40 : Int32) &&& 0x3f).toInt64.toUInt64).toInt64).toInt32).toInt8.toInt32) (by decide) (show (5 : Nat) < 8 by decide) (g := (mkF m 81 #[.val (.int p0), .val (.long p1), .second, .val (.int (3 : Int32)), .val (.int (1 : Int32)), .val (.ref ar21), .unset, .unset, .unset, .unset, .unset] [(.int ((((p1).toUInt64 >>> ((40 : Int32) &&& 0x3f).toInt64.toUInt64).toInt64).toInt32).toInt8.toInt32), (.int (5 : Int32)), (.ref ar21)])) rfl rfl (hb hby at_81)
      rw [own_nar8] at A7
      have N7 := Fr.snoc X7 N6 ge_ar21
      have Z7 : n0 ≤ h7.size := by rw [W7.size]; exact Z6
      have f_6 : Arl Z h7 ar21 .byte [(.int ((p1).toInt32).toInt8.toInt32), (.int ((((p1).toUInt64 >>> ((8 : Int32) &&& 0x3f).toInt64.toUInt64).toInt64).toInt32).toInt8.toInt32), (.int ((((p1).toUInt64 >>> ((16 : Int32) &&& 0x3f).toInt64.toUInt64).toInt64).toInt32).toInt8.toInt32), (.int ((((p1).toUInt64 >>> ((24 : Int32) &&& 0x3f).toInt64.toUInt64).toInt64).toInt32).toInt8.toInt32), (.int ((((p1).toUInt64 >>> ((32 : Int32) &&& 0x3f).toInt64.toUInt64).toInt64).toInt32).toInt8.toInt32), (.int ((((p1).toUInt64 >>> ((40 : Int32) &&& 0x3f).toInt64.toUInt64).toInt64).toInt32).toInt8.toInt32), (.int (0 : Int32)), (.int (0 : Int32))] := A7
      refine Goes.go (st7) ?_
      show Goes _ _ _ _ _ _ _ (T7.setTop (mkF m 82 _ []))
      refine Goes.go (fun _ k => XS.aload X7.here hx rfl (hb hby at_82) rfl rfl k) ?_
      show Goes _ _ _ _ _ _ _ (T7.setTop (mkF m 84 _ [(.ref ar21)]))
      refine Goes.go (fun _ k => XS.bipush X7.here hx rfl (hb hby at_84) k) ?_
      show Goes _ _ _ _ _ _ _ (T7.setTop (mkF m 86 _ [(.int (6 : Int32)), (.ref ar21)]))
      refine Goes.go (fun _ k => XS.lloadN X7.here hx rfl (hb hby at_86) rfl k) ?_
      show Goes _ _ _ _ _ _ _ (T7.setTop (mkF m 87 _ [(.long p1), (.int (6 : Int32)), (.ref ar21)]))
      refine Goes.go (fun _ k => XS.bipush X7.here hx rfl (hb hby at_87) k) ?_
      show Goes _ _ _ _ _ _ _ (T7.setTop (mkF m 89 _ [(.int (48 : Int32)), (.long p1), (.int (6 : Int32)), (.ref ar21)]))
      refine Goes.go (fun _ k => XS.lushr X7.here hx rfl (hb hby at_89) rfl k) ?_
      show Goes _ _ _ _ _ _ _ (T7.setTop (mkF m 90 _ [(.long ((p1).toUInt64 >>> ((48 : Int32) &&& 0x3f).toInt64.toUInt64).toInt64), (.int (6 : Int32)), (.ref ar21)]))
      refine Goes.go (fun _ k => XS.l2i X7.here hx rfl (hb hby at_90) rfl k) ?_
      show Goes _ _ _ _ _ _ _ (T7.setTop (mkF m 91 _ [(.int (((p1).toUInt64 >>> ((48 : Int32) &&& 0x3f).toInt64.toUInt64).toInt64).toInt32), (.int (6 : Int32)), (.ref ar21)]))
      refine Goes.go (fun _ k => XS.i2b X7.here hx rfl (hb hby at_91) rfl k) ?_
      show Goes _ _ _ _ _ _ _ (T7.setTop (mkF m 92 _ [(.int ((((p1).toUInt64 >>> ((48 : Int32) &&& 0x3f).toInt64.toUInt64).toInt64).toInt32).toInt8.toInt32), (.int (6 : Int32)), (.ref ar21)]))
      obtain ⟨T8, h8, X8, e8, W8, A8, st8⟩ := own_stB X7 hx hZ e7 f_6 (j := (6 : Int32)) (x := ((((p1).toUInt64 >>> ((48 : Int32) &&& 0x3f).toInt64.toUInt64).toInt64).toInt32).toInt8.toInt32) (by decide) (show (6 : Nat) < 8 by decide) (g := (mkF m 92 #[.val (.int p0), .val (.long p1), .second, .val (.int (3 : Int32)), .val (.int (1 : Int32)), .val (.ref ar21), .unset, .unset, .unset, .unset, .unset] [(.int ((((p1).toUInt64 >>> ((48 : Int32) &&& 0x3f).toInt64.toUInt64).toInt64).toInt32).toInt8.toInt32), (.int (6 : Int32)), (.ref ar21)])) rfl rfl (hb hby at_92)
      rw [own_nar8] at A8
      have N8 := Fr.snoc X8 N7 ge_ar21
      have Z8 : n0 ≤ h8.size := by rw [W8.size]; exact Z7
      have f_7 : Arl Z h8 ar21 .byte [(.int ((p1).toInt32).toInt8.toInt32), (.int ((((p1).toUInt64 >>> ((8 : Int32) &&& 0x3f).toInt64.toUInt64).toInt64).toInt32).toInt8.toInt32), (.int ((((p1).toUInt64 >>> ((16 : Int32) &&& 0x3f).toInt64.toUInt64).toInt64).toInt32).toInt8.toInt32), (.int ((((p1).toUInt64 >>> ((24 : Int32) &&& 0x3f).toInt64.toUInt64).toInt64).toInt32).toInt8.toInt32), (.int ((((p1).toUInt64 >>> ((32 : Int32) &&& 0x3f).toInt64.toUInt64).toInt64).toInt32).toInt8.toInt32), (.int ((((p1).toUInt64 >>> ((40 : Int32) &&& 0x3f).toInt64.toUInt64).toInt64).toInt32).toInt8.toInt32), (.int ((((p1).toUInt64 >>> ((48 : Int32) &&& 0x3f).toInt64.toUInt64).toInt64).toInt32).toInt8.toInt32), (.int (0 : Int32))] := A8
      refine Goes.go (st8) ?_
      show Goes _ _ _ _ _ _ _ (T8.setTop (mkF m 93 _ []))
      refine Goes.go (fun _ k => XS.aload X8.here hx rfl (hb hby at_93) rfl rfl k) ?_
      show Goes _ _ _ _ _ _ _ (T8.setTop (mkF m 95 _ [(.ref ar21)]))
      refine Goes.go (fun _ k => XS.bipush X8.here hx rfl (hb hby at_95) k) ?_
      show Goes _ _ _ _ _ _ _ (T8.setTop (mkF m 97 _ [(.int (7 : Int32)), (.ref ar21)]))
      refine Goes.go (fun _ k => XS.lloadN X8.here hx rfl (hb hby at_97) rfl k) ?_
      show Goes _ _ _ _ _ _ _ (T8.setTop (mkF m 98 _ [(.long p1), (.int (7 : Int32)), (.ref ar21)]))
      refine Goes.go (fun _ k => XS.bipush X8.here hx rfl (hb hby at_98) k) ?_
      show Goes _ _ _ _ _ _ _ (T8.setTop (mkF m 100 _ [(.int (56 : Int32)), (.long p1), (.int (7 : Int32)), (.ref ar21)]))
      refine Goes.go (fun _ k => XS.lushr X8.here hx rfl (hb hby at_100) rfl k) ?_
      show Goes _ _ _ _ _ _ _ (T8.setTop (mkF m 101 _ [(.long ((p1).toUInt64 >>> ((56 : Int32) &&& 0x3f).toInt64.toUInt64).toInt64), (.int (7 : Int32)), (.ref ar21)]))
      refine Goes.go (fun _ k => XS.l2i X8.here hx rfl (hb hby at_101) rfl k) ?_
      show Goes _ _ _ _ _ _ _ (T8.setTop (mkF m 102 _ [(.int (((p1).toUInt64 >>> ((56 : Int32) &&& 0x3f).toInt64.toUInt64).toInt64).toInt32), (.int (7 : Int32)), (.ref ar21)]))
      refine Goes.go (fun _ k => XS.i2b X8.here hx rfl (hb hby at_102) rfl k) ?_
      show Goes _ _ _ _ _ _ _ (T8.setTop (mkF m 103 _ [(.int ((((p1).toUInt64 >>> ((56 : Int32) &&& 0x3f).toInt64.toUInt64).toInt64).toInt32).toInt8.toInt32), (.int (7 : Int32)), (.ref ar21)]))
      obtain ⟨T9, h9, X9, e9, W9, A9, st9⟩ := own_stB X8 hx hZ e8 f_7 (j := (7 : Int32)) (x := ((((p1).toUInt64 >>> ((56 : Int32) &&& 0x3f).toInt64.toUInt64).toInt64).toInt32).toInt8.toInt32) (by decide) (show (7 : Nat) < 8 by decide) (g := (mkF m 103 #[.val (.int p0), .val (.long p1), .second, .val (.int (3 : Int32)), .val (.int (1 : Int32)), .val (.ref ar21), .unset, .unset, .unset, .unset, .unset] [(.int ((((p1).toUInt64 >>> ((56 : Int32) &&& 0x3f).toInt64.toUInt64).toInt64).toInt32).toInt8.toInt32), (.int (7 : Int32)), (.ref ar21)])) rfl rfl (hb hby at_103)
      rw [own_nar8] at A9
      have N9 := Fr.snoc X9 N8 ge_ar21
      have Z9 : n0 ≤ h9.size := by rw [W9.size]; exact Z8
      have f_8 : Arl Z h9 ar21 .byte [(.int ((p1).toInt32).toInt8.toInt32), (.int ((((p1).toUInt64 >>> ((8 : Int32) &&& 0x3f).toInt64.toUInt64).toInt64).toInt32).toInt8.toInt32), (.int ((((p1).toUInt64 >>> ((16 : Int32) &&& 0x3f).toInt64.toUInt64).toInt64).toInt32).toInt8.toInt32), (.int ((((p1).toUInt64 >>> ((24 : Int32) &&& 0x3f).toInt64.toUInt64).toInt64).toInt32).toInt8.toInt32), (.int ((((p1).toUInt64 >>> ((32 : Int32) &&& 0x3f).toInt64.toUInt64).toInt64).toInt32).toInt8.toInt32), (.int ((((p1).toUInt64 >>> ((40 : Int32) &&& 0x3f).toInt64.toUInt64).toInt64).toInt32).toInt8.toInt32), (.int ((((p1).toUInt64 >>> ((48 : Int32) &&& 0x3f).toInt64.toUInt64).toInt64).toInt32).toInt8.toInt32), (.int ((((p1).toUInt64 >>> ((56 : Int32) &&& 0x3f).toInt64.toUInt64).toInt64).toInt32).toInt8.toInt32)] := A9
      refine Goes.go (st9) ?_
      show Goes _ _ _ _ _ _ _ (T9.setTop (mkF m 104 _ []))
      refine Goes.go (fun _ k => XS.iload X9.here hx rfl (hb hby at_104) rfl k) ?_
      show Goes _ _ _ _ _ _ _ (T9.setTop (mkF m 106 _ [(.int (1 : Int32))]))
      refine Goes.go (fun _ k => XS.ifNo X9.here hx rfl (hb hby at_106) rfl (XT.i0_eq_f (by decide)) k) ?_
      show Goes _ _ _ _ _ _ _ (T9.setTop (mkF m 109 _ []))
      refine Goes.go (fun _ k => XS.iconst X9.here hx rfl (hb hby at_109) k) ?_
      show Goes _ _ _ _ _ _ _ (T9.setTop (mkF m 110 _ [(.int (2 : Int32))]))
      refine Goes.go (fun _ k => XS.goto X9.here hx rfl (pc0 := 110) (pc' := 114) rfl (hb hby at_110) (by decide) (by decide) k) ?_
      show Goes _ _ _ _ _ _ _ (T9.setTop (mkF m 114 _ [(.int (2 : Int32))]))
      refine Goes.go (fun _ k => XS.istore X9.here hx rfl (hb hby at_114) rfl (l' := #[.val (.int p0), .val (.long p1), .second, .val (.int (3 : Int32)), .val (.int (1 : Int32)), .val (.ref ar21), .val (.int (2 : Int32)), .unset, .unset, .unset, .unset]) rfl k) ?_
      show Goes _ _ _ _ _ _ _ (T9.setTop (mkF m 116 #[.val (.int p0), .val (.long p1), .second, .val (.int (3 : Int32)), .val (.int (1 : Int32)), .val (.ref ar21), .val (.int (2 : Int32)), .unset, .unset, .unset, .unset] []))
      refine Goes.go (fun _ k => XS.bipush X9.here hx rfl (hb hby at_116) k) ?_
      show Goes _ _ _ _ _ _ _ (T9.setTop (mkF m 118 _ [(.int (8 : Int32))]))
      refine Goes.go (fun _ k => XS.iload X9.here hx rfl (hb hby at_118) rfl k) ?_
      show Goes _ _ _ _ _ _ _ (T9.setTop (mkF m 120 _ [(.int (2 : Int32)), (.int (8 : Int32))]))
      refine Goes.go (fun _ k => XS.isub X9.here hx rfl (hb hby at_120) rfl k) ?_
      show Goes _ _ _ _ _ _ _ (T9.setTop (mkF m 121 _ [(.int (6 : Int32))]))
      refine Goes.go (fun _ k => XS.iloadN X9.here hx rfl (hb hby at_121) rfl k) ?_
      show Goes _ _ _ _ _ _ _ (T9.setTop (mkF m 122 _ [(.int (3 : Int32)), (.int (6 : Int32))]))
      refine Goes.go (fun _ k => XS.isub X9.here hx rfl (hb hby at_122) rfl k) ?_
      show Goes _ _ _ _ _ _ _ (T9.setTop (mkF m 123 _ [(.int (3 : Int32))]))
      refine Goes.go (fun _ k => XS.istore X9.here hx rfl (hb hby at_123) rfl (l' := #[.val (.int p0), .val (.long p1), .second, .val (.int (3 : Int32)), .val (.int (1 : Int32)), .val (.ref ar21), .val (.int (2 : Int32)), .val (.int (3 : Int32)), .unset, .unset, .unset]) rfl k) ?_
      show Goes _ _ _ _ _ _ _ (T9.setTop (mkF m 125 #[.val (.int p0), .val (.long p1), .second, .val (.int (3 : Int32)), .val (.int (1 : Int32)), .val (.ref ar21), .val (.int (2 : Int32)), .val (.int (3 : Int32)), .unset, .unset, .unset] []))
      refine Goes.go (fun _ k => XS.iloadN X9.here hx rfl (hb hby at_125) rfl k) ?_
      show Goes _ _ _ _ _ _ _ (T9.setTop (mkF m 126 _ [(.int (3 : Int32))]))
      refine Goes.go (fun _ k => XS.iconst X9.here hx rfl (hb hby at_126) k) ?_
      show Goes _ _ _ _ _ _ _ (T9.setTop (mkF m 127 _ [(.int (1 : Int32)), (.int (3 : Int32))]))
      refine Goes.go (fun _ k => XS.icmpNo X9.here hx rfl (hb hby at_127) rfl (XT.ii_lt_f (by decide)) k) ?_
      show Goes _ _ _ _ _ _ _ (T9.setTop (mkF m 130 _ []))
      refine Goes.go (fun _ k => XS.aload X9.here hx rfl (hb hby at_130) rfl rfl k) ?_
      show Goes _ _ _ _ _ _ _ (T9.setTop (mkF m 132 _ [(.ref ar21)]))
      refine Goes.go (fun _ k => XS.iload X9.here hx rfl (hb hby at_132) rfl k) ?_
      show Goes _ _ _ _ _ _ _ (T9.setTop (mkF m 134 _ [(.int (3 : Int32)), (.ref ar21)]))
      refine Goes.go (fun _ k => XS.aload X9.here hx rfl (hb hby at_134) rfl rfl k) ?_
      show Goes _ _ _ _ _ _ _ (T9.setTop (mkF m 136 _ [(.ref ar21), (.int (3 : Int32)), (.ref ar21)]))
      refine Goes.go (fun _ k => XS.iload X9.here hx rfl (hb hby at_136) rfl k) ?_
      show Goes _ _ _ _ _ _ _ (T9.setTop (mkF m 138 _ [(.int (3 : Int32)), (.ref ar21), (.int (3 : Int32)), (.ref ar21)]))
      refine Goes.go (own_ldB X9 hx hZ e9 f_8 (j := (3 : Int32)) (v := (.int ((((p1).toUInt64 >>> ((24 : Int32) &&& 0x3f).toInt64.toUInt64).toInt64).toInt32).toInt8.toInt32)) (by decide) rfl rfl rfl (hb hby at_138)) ?_
      show Goes _ _ _ _ _ _ _ (T9.setTop (mkF m 139 _ [(.int ((((p1).toUInt64 >>> ((24 : Int32) &&& 0x3f).toInt64.toUInt64).toInt64).toInt32).toInt8.toInt32), (.int (3 : Int32)), (.ref ar21)]))
      refine Goes.go (fun _ k => XS.bipush X9.here hx rfl (hb hby at_139) k) ?_
      show Goes _ _ _ _ _ _ _ (T9.setTop (mkF m 141 _ [(.int (127 : Int32)), (.int ((((p1).toUInt64 >>> ((24 : Int32) &&& 0x3f).toInt64.toUInt64).toInt64).toInt32).toInt8.toInt32), (.int (3 : Int32)), (.ref ar21)]))
      refine Goes.go (fun _ k => XS.iand X9.here hx rfl (hb hby at_141) rfl k) ?_
      show Goes _ _ _ _ _ _ _ (T9.setTop (mkF m 142 _ [(.int (((((p1).toUInt64 >>> ((24 : Int32) &&& 0x3f).toInt64.toUInt64).toInt64).toInt32).toInt8.toInt32 &&& (127 : Int32))), (.int (3 : Int32)), (.ref ar21)]))
      refine Goes.go (fun _ k => XS.i2b X9.here hx rfl (hb hby at_142) rfl k) ?_
      show Goes _ _ _ _ _ _ _ (T9.setTop (mkF m 143 _ [(.int ((((((p1).toUInt64 >>> ((24 : Int32) &&& 0x3f).toInt64.toUInt64).toInt64).toInt32).toInt8.toInt32 &&& (127 : Int32))).toInt8.toInt32), (.int (3 : Int32)), (.ref ar21)]))
      obtain ⟨T10, h10, X10, e10, W10, A10, st10⟩ := own_stB X9 hx hZ e9 f_8 (j := (3 : Int32)) (x := ((((((p1).toUInt64 >>> ((24 : Int32) &&& 0x3f).toInt64.toUInt64).toInt64).toInt32).toInt8.toInt32 &&& (127 : Int32))).toInt8.toInt32) (by decide) (show (3 : Nat) < 8 by decide) (g := (mkF m 143 #[.val (.int p0), .val (.long p1), .second, .val (.int (3 : Int32)), .val (.int (1 : Int32)), .val (.ref ar21), .val (.int (2 : Int32)), .val (.int (3 : Int32)), .unset, .unset, .unset] [(.int ((((((p1).toUInt64 >>> ((24 : Int32) &&& 0x3f).toInt64.toUInt64).toInt64).toInt32).toInt8.toInt32 &&& (127 : Int32))).toInt8.toInt32), (.int (3 : Int32)), (.ref ar21)])) rfl rfl (hb hby at_143)
      rw [own_nar8] at A10
      have N10 := Fr.snoc X10 N9 ge_ar21
      have Z10 : n0 ≤ h10.size := by rw [W10.size]; exact Z9
      have f_9 : Arl Z h10 ar21 .byte [(.int ((p1).toInt32).toInt8.toInt32), (.int ((((p1).toUInt64 >>> ((8 : Int32) &&& 0x3f).toInt64.toUInt64).toInt64).toInt32).toInt8.toInt32), (.int ((((p1).toUInt64 >>> ((16 : Int32) &&& 0x3f).toInt64.toUInt64).toInt64).toInt32).toInt8.toInt32), (.int ((((((p1).toUInt64 >>> ((24 : Int32) &&& 0x3f).toInt64.toUInt64).toInt64).toInt32).toInt8.toInt32 &&& (127 : Int32))).toInt8.toInt32), (.int ((((p1).toUInt64 >>> ((32 : Int32) &&& 0x3f).toInt64.toUInt64).toInt64).toInt32).toInt8.toInt32), (.int ((((p1).toUInt64 >>> ((40 : Int32) &&& 0x3f).toInt64.toUInt64).toInt64).toInt32).toInt8.toInt32), (.int ((((p1).toUInt64 >>> ((48 : Int32) &&& 0x3f).toInt64.toUInt64).toInt64).toInt32).toInt8.toInt32), (.int ((((p1).toUInt64 >>> ((56 : Int32) &&& 0x3f).toInt64.toUInt64).toInt64).toInt32).toInt8.toInt32)] := A10
      refine Goes.go (st10) ?_
      show Goes _ _ _ _ _ _ _ (T10.setTop (mkF m 144 _ []))
      refine Goes.go (fun _ k => XS.iloadN X10.here hx rfl (hb hby at_144) rfl k) ?_
      show Goes _ _ _ _ _ _ _ (T10.setTop (mkF m 145 _ [(.int (3 : Int32))]))
      refine Goes.go (fun _ k => XS.iconst X10.here hx rfl (hb hby at_145) k) ?_
      show Goes _ _ _ _ _ _ _ (T10.setTop (mkF m 146 _ [(.int (2 : Int32)), (.int (3 : Int32))]))
      refine Goes.go (fun _ k => XS.icmpNo X10.here hx rfl (hb hby at_146) rfl (XT.ii_lt_f (by decide)) k) ?_
      show Goes _ _ _ _ _ _ _ (T10.setTop (mkF m 149 _ []))
      refine Goes.go (fun _ k => XS.aload X10.here hx rfl (hb hby at_149) rfl rfl k) ?_
      show Goes _ _ _ _ _ _ _ (T10.setTop (mkF m 151 _ [(.ref ar21)]))
      refine Goes.go (fun _ k => XS.iload X10.here hx rfl (hb hby at_151) rfl k) ?_
      show Goes _ _ _ _ _ _ _ (T10.setTop (mkF m 153 _ [(.int (3 : Int32)), (.ref ar21)]))
      refine Goes.go (fun _ k => XS.iconst X10.here hx rfl (hb hby at_153) k) ?_
      show Goes _ _ _ _ _ _ _ (T10.setTop (mkF m 154 _ [(.int (1 : Int32)), (.int (3 : Int32)), (.ref ar21)]))
      refine Goes.go (fun _ k => XS.iadd X10.here hx rfl (hb hby at_154) rfl k) ?_
      show Goes _ _ _ _ _ _ _ (T10.setTop (mkF m 155 _ [(.int (4 : Int32)), (.ref ar21)]))
      refine Goes.go (fun _ k => XS.aload X10.here hx rfl (hb hby at_155) rfl rfl k) ?_
      show Goes _ _ _ _ _ _ _ (T10.setTop (mkF m 157 _ [(.ref ar21), (.int (4 : Int32)), (.ref ar21)]))
      refine Goes.go (fun _ k => XS.iload X10.here hx rfl (hb hby at_157) rfl k) ?_
      show Goes _ _ _ _ _ _ _ (T10.setTop (mkF m 159 _ [(.int (3 : Int32)), (.ref ar21), (.int (4 : Int32)), (.ref ar21)]))
      refine Goes.go (fun _ k => XS.iconst X10.here hx rfl (hb hby at_159) k) ?_
      show Goes _ _ _ _ _ _ _ (T10.setTop (mkF m 160 _ [(.int (1 : Int32)), (.int (3 : Int32)), (.ref ar21), (.int (4 : Int32)), (.ref ar21)]))
      refine Goes.go (fun _ k => XS.iadd X10.here hx rfl (hb hby at_160) rfl k) ?_
      show Goes _ _ _ _ _ _ _ (T10.setTop (mkF m 161 _ [(.int (4 : Int32)), (.ref ar21), (.int (4 : Int32)), (.ref ar21)]))
      refine Goes.go (own_ldB X10 hx hZ e10 f_9 (j := (4 : Int32)) (v := (.int ((((p1).toUInt64 >>> ((32 : Int32) &&& 0x3f).toInt64.toUInt64).toInt64).toInt32).toInt8.toInt32)) (by decide) rfl rfl rfl (hb hby at_161)) ?_
      show Goes _ _ _ _ _ _ _ (T10.setTop (mkF m 162 _ [(.int ((((p1).toUInt64 >>> ((32 : Int32) &&& 0x3f).toInt64.toUInt64).toInt64).toInt32).toInt8.toInt32), (.int (4 : Int32)), (.ref ar21)]))
      refine Goes.go (fun _ k => XS.bipush X10.here hx rfl (hb hby at_162) k) ?_
      show Goes _ _ _ _ _ _ _ (T10.setTop (mkF m 164 _ [(.int (127 : Int32)), (.int ((((p1).toUInt64 >>> ((32 : Int32) &&& 0x3f).toInt64.toUInt64).toInt64).toInt32).toInt8.toInt32), (.int (4 : Int32)), (.ref ar21)]))
      refine Goes.go (fun _ k => XS.iand X10.here hx rfl (hb hby at_164) rfl k) ?_
      show Goes _ _ _ _ _ _ _ (T10.setTop (mkF m 165 _ [(.int (((((p1).toUInt64 >>> ((32 : Int32) &&& 0x3f).toInt64.toUInt64).toInt64).toInt32).toInt8.toInt32 &&& (127 : Int32))), (.int (4 : Int32)), (.ref ar21)]))
      refine Goes.go (fun _ k => XS.i2b X10.here hx rfl (hb hby at_165) rfl k) ?_
      show Goes _ _ _ _ _ _ _ (T10.setTop (mkF m 166 _ [(.int ((((((p1).toUInt64 >>> ((32 : Int32) &&& 0x3f).toInt64.toUInt64).toInt64).toInt32).toInt8.toInt32 &&& (127 : Int32))).toInt8.toInt32), (.int (4 : Int32)), (.ref ar21)]))
      obtain ⟨T11, h11, X11, e11, W11, A11, st11⟩ := own_stB X10 hx hZ e10 f_9 (j := (4 : Int32)) (x := ((((((p1).toUInt64 >>> ((32 : Int32) &&& 0x3f).toInt64.toUInt64).toInt64).toInt32).toInt8.toInt32 &&& (127 : Int32))).toInt8.toInt32) (by decide) (show (4 : Nat) < 8 by decide) (g := (mkF m 166 #[.val (.int p0), .val (.long p1), .second, .val (.int (3 : Int32)), .val (.int (1 : Int32)), .val (.ref ar21), .val (.int (2 : Int32)), .val (.int (3 : Int32)), .unset, .unset, .unset] [(.int ((((((p1).toUInt64 >>> ((32 : Int32) &&& 0x3f).toInt64.toUInt64).toInt64).toInt32).toInt8.toInt32 &&& (127 : Int32))).toInt8.toInt32), (.int (4 : Int32)), (.ref ar21)])) rfl rfl (hb hby at_166)
      rw [own_nar8] at A11
      have N11 := Fr.snoc X11 N10 ge_ar21
      have Z11 : n0 ≤ h11.size := by rw [W11.size]; exact Z10
      have f_10 : Arl Z h11 ar21 .byte [(.int ((p1).toInt32).toInt8.toInt32), (.int ((((p1).toUInt64 >>> ((8 : Int32) &&& 0x3f).toInt64.toUInt64).toInt64).toInt32).toInt8.toInt32), (.int ((((p1).toUInt64 >>> ((16 : Int32) &&& 0x3f).toInt64.toUInt64).toInt64).toInt32).toInt8.toInt32), (.int ((((((p1).toUInt64 >>> ((24 : Int32) &&& 0x3f).toInt64.toUInt64).toInt64).toInt32).toInt8.toInt32 &&& (127 : Int32))).toInt8.toInt32), (.int ((((((p1).toUInt64 >>> ((32 : Int32) &&& 0x3f).toInt64.toUInt64).toInt64).toInt32).toInt8.toInt32 &&& (127 : Int32))).toInt8.toInt32), (.int ((((p1).toUInt64 >>> ((40 : Int32) &&& 0x3f).toInt64.toUInt64).toInt64).toInt32).toInt8.toInt32), (.int ((((p1).toUInt64 >>> ((48 : Int32) &&& 0x3f).toInt64.toUInt64).toInt64).toInt32).toInt8.toInt32), (.int ((((p1).toUInt64 >>> ((56 : Int32) &&& 0x3f).toInt64.toUInt64).toInt64).toInt32).toInt8.toInt32)] := A11
      refine Goes.go (st11) ?_
      show Goes _ _ _ _ _ _ _ (T11.setTop (mkF m 167 _ []))
      refine Goes.go (fun _ k => XS.iloadN X11.here hx rfl (hb hby at_167) rfl k) ?_
      show Goes _ _ _ _ _ _ _ (T11.setTop (mkF m 168 _ [(.int (3 : Int32))]))
      refine Goes.go (fun _ k => XS.iconst X11.here hx rfl (hb hby at_168) k) ?_
      show Goes _ _ _ _ _ _ _ (T11.setTop (mkF m 169 _ [(.int (3 : Int32)), (.int (3 : Int32))]))
      refine Goes.go (fun _ k => XS.icmpNo X11.here hx rfl (hb hby at_169) rfl (XT.ii_lt_f (by decide)) k) ?_
      show Goes _ _ _ _ _ _ _ (T11.setTop (mkF m 172 _ []))
      refine Goes.go (fun _ k => XS.aload X11.here hx rfl (hb hby at_172) rfl rfl k) ?_
      show Goes _ _ _ _ _ _ _ (T11.setTop (mkF m 174 _ [(.ref ar21)]))
      refine Goes.go (fun _ k => XS.iload X11.here hx rfl (hb hby at_174) rfl k) ?_
      show Goes _ _ _ _ _ _ _ (T11.setTop (mkF m 176 _ [(.int (3 : Int32)), (.ref ar21)]))
      refine Goes.go (fun _ k => XS.iconst X11.here hx rfl (hb hby at_176) k) ?_
      show Goes _ _ _ _ _ _ _ (T11.setTop (mkF m 177 _ [(.int (2 : Int32)), (.int (3 : Int32)), (.ref ar21)]))
      refine Goes.go (fun _ k => XS.iadd X11.here hx rfl (hb hby at_177) rfl k) ?_
      show Goes _ _ _ _ _ _ _ (T11.setTop (mkF m 178 _ [(.int (5 : Int32)), (.ref ar21)]))
      refine Goes.go (fun _ k => XS.aload X11.here hx rfl (hb hby at_178) rfl rfl k) ?_
      show Goes _ _ _ _ _ _ _ (T11.setTop (mkF m 180 _ [(.ref ar21), (.int (5 : Int32)), (.ref ar21)]))
      refine Goes.go (fun _ k => XS.iload X11.here hx rfl (hb hby at_180) rfl k) ?_
      show Goes _ _ _ _ _ _ _ (T11.setTop (mkF m 182 _ [(.int (3 : Int32)), (.ref ar21), (.int (5 : Int32)), (.ref ar21)]))
      refine Goes.go (fun _ k => XS.iconst X11.here hx rfl (hb hby at_182) k) ?_
      show Goes _ _ _ _ _ _ _ (T11.setTop (mkF m 183 _ [(.int (2 : Int32)), (.int (3 : Int32)), (.ref ar21), (.int (5 : Int32)), (.ref ar21)]))
      refine Goes.go (fun _ k => XS.iadd X11.here hx rfl (hb hby at_183) rfl k) ?_
      show Goes _ _ _ _ _ _ _ (T11.setTop (mkF m 184 _ [(.int (5 : Int32)), (.ref ar21), (.int (5 : Int32)), (.ref ar21)]))
      refine Goes.go (own_ldB X11 hx hZ e11 f_10 (j := (5 : Int32)) (v := (.int ((((p1).toUInt64 >>> ((40 : Int32) &&& 0x3f).toInt64.toUInt64).toInt64).toInt32).toInt8.toInt32)) (by decide) rfl rfl rfl (hb hby at_184)) ?_
      show Goes _ _ _ _ _ _ _ (T11.setTop (mkF m 185 _ [(.int ((((p1).toUInt64 >>> ((40 : Int32) &&& 0x3f).toInt64.toUInt64).toInt64).toInt32).toInt8.toInt32), (.int (5 : Int32)), (.ref ar21)]))
      refine Goes.go (fun _ k => XS.bipush X11.here hx rfl (hb hby at_185) k) ?_
      show Goes _ _ _ _ _ _ _ (T11.setTop (mkF m 187 _ [(.int (127 : Int32)), (.int ((((p1).toUInt64 >>> ((40 : Int32) &&& 0x3f).toInt64.toUInt64).toInt64).toInt32).toInt8.toInt32), (.int (5 : Int32)), (.ref ar21)]))
      refine Goes.go (fun _ k => XS.iand X11.here hx rfl (hb hby at_187) rfl k) ?_
      show Goes _ _ _ _ _ _ _ (T11.setTop (mkF m 188 _ [(.int (((((p1).toUInt64 >>> ((40 : Int32) &&& 0x3f).toInt64.toUInt64).toInt64).toInt32).toInt8.toInt32 &&& (127 : Int32))), (.int (5 : Int32)), (.ref ar21)]))
      refine Goes.go (fun _ k => XS.i2b X11.here hx rfl (hb hby at_188) rfl k) ?_
      show Goes _ _ _ _ _ _ _ (T11.setTop (mkF m 189 _ [(.int ((((((p1).toUInt64 >>> ((40 : Int32) &&& 0x3f).toInt64.toUInt64).toInt64).toInt32).toInt8.toInt32 &&& (127 : Int32))).toInt8.toInt32), (.int (5 : Int32)), (.ref ar21)]))
      obtain ⟨T12, h12, X12, e12, W12, A12, st12⟩ := own_stB X11 hx hZ e11 f_10 (j := (5 : Int32)) (x := ((((((p1).toUInt64 >>> ((40 : Int32) &&& 0x3f).toInt64.toUInt64).toInt64).toInt32).toInt8.toInt32 &&& (127 : Int32))).toInt8.toInt32) (by decide) (show (5 : Nat) < 8 by decide) (g := (mkF m 189 #[.val (.int p0), .val (.long p1), .second, .val (.int (3 : Int32)), .val (.int (1 : Int32)), .val (.ref ar21), .val (.int (2 : Int32)), .val (.int (3 : Int32)), .unset, .unset, .unset] [(.int ((((((p1).toUInt64 >>> ((40 : Int32) &&& 0x3f).toInt64.toUInt64).toInt64).toInt32).toInt8.toInt32 &&& (127 : Int32))).toInt8.toInt32), (.int (5 : Int32)), (.ref ar21)])) rfl rfl (hb hby at_189)
      rw [own_nar8] at A12
      have N12 := Fr.snoc X12 N11 ge_ar21
      have Z12 : n0 ≤ h12.size := by rw [W12.size]; exact Z11
      have f_11 : Arl Z h12 ar21 .byte [(.int ((p1).toInt32).toInt8.toInt32), (.int ((((p1).toUInt64 >>> ((8 : Int32) &&& 0x3f).toInt64.toUInt64).toInt64).toInt32).toInt8.toInt32), (.int ((((p1).toUInt64 >>> ((16 : Int32) &&& 0x3f).toInt64.toUInt64).toInt64).toInt32).toInt8.toInt32), (.int ((((((p1).toUInt64 >>> ((24 : Int32) &&& 0x3f).toInt64.toUInt64).toInt64).toInt32).toInt8.toInt32 &&& (127 : Int32))).toInt8.toInt32), (.int ((((((p1).toUInt64 >>> ((32 : Int32) &&& 0x3f).toInt64.toUInt64).toInt64).toInt32).toInt8.toInt32 &&& (127 : Int32))).toInt8.toInt32), (.int ((((((p1).toUInt64 >>> ((40 : Int32) &&& 0x3f).toInt64.toUInt64).toInt64).toInt32).toInt8.toInt32 &&& (127 : Int32))).toInt8.toInt32), (.int ((((p1).toUInt64 >>> ((48 : Int32) &&& 0x3f).toInt64.toUInt64).toInt64).toInt32).toInt8.toInt32), (.int ((((p1).toUInt64 >>> ((56 : Int32) &&& 0x3f).toInt64.toUInt64).toInt64).toInt32).toInt8.toInt32)] := A12
      refine Goes.go (st12) ?_
      show Goes _ _ _ _ _ _ _ (T12.setTop (mkF m 190 _ []))
      refine Goes.go (fun _ k => XS.iload X12.here hx rfl (hb hby at_190) rfl k) ?_
      show Goes _ _ _ _ _ _ _ (T12.setTop (mkF m 192 _ [(.int (1 : Int32))]))
      refine Goes.go (fun _ k => XS.ifNo X12.here hx rfl (hb hby at_192) rfl (XT.i0_eq_f (by decide)) k) ?_
      show Goes _ _ _ _ _ _ _ (T12.setTop (mkF m 195 _ []))
      refine Goes.go (fun _ k => XS.aload X12.here hx rfl (hb hby at_195) rfl rfl k) ?_
      show Goes _ _ _ _ _ _ _ (T12.setTop (mkF m 197 _ [(.ref ar21)]))
      refine Goes.go (fun _ k => XS.bipush X12.here hx rfl (hb hby at_197) k) ?_
      show Goes _ _ _ _ _ _ _ (T12.setTop (mkF m 199 _ [(.int (6 : Int32)), (.ref ar21)]))
      refine Goes.go (fun _ k => XS.aload X12.here hx rfl (hb hby at_199) rfl rfl k) ?_
      show Goes _ _ _ _ _ _ _ (T12.setTop (mkF m 201 _ [(.ref ar21), (.int (6 : Int32)), (.ref ar21)]))
      refine Goes.go (fun _ k => XS.bipush X12.here hx rfl (hb hby at_201) k) ?_
      show Goes _ _ _ _ _ _ _ (T12.setTop (mkF m 203 _ [(.int (6 : Int32)), (.ref ar21), (.int (6 : Int32)), (.ref ar21)]))
      refine Goes.go (own_ldB X12 hx hZ e12 f_11 (j := (6 : Int32)) (v := (.int ((((p1).toUInt64 >>> ((48 : Int32) &&& 0x3f).toInt64.toUInt64).toInt64).toInt32).toInt8.toInt32)) (by decide) rfl rfl rfl (hb hby at_203)) ?_
      show Goes _ _ _ _ _ _ _ (T12.setTop (mkF m 204 _ [(.int ((((p1).toUInt64 >>> ((48 : Int32) &&& 0x3f).toInt64.toUInt64).toInt64).toInt32).toInt8.toInt32), (.int (6 : Int32)), (.ref ar21)]))
      refine Goes.go (fun _ k => XS.sipush X12.here hx rfl (hb hby at_204) k) ?_
      show Goes _ _ _ _ _ _ _ (T12.setTop (mkF m 207 _ [(.int (128 : Int32)), (.int ((((p1).toUInt64 >>> ((48 : Int32) &&& 0x3f).toInt64.toUInt64).toInt64).toInt32).toInt8.toInt32), (.int (6 : Int32)), (.ref ar21)]))
      refine Goes.go (fun _ k => XS.ior X12.here hx rfl (hb hby at_207) rfl k) ?_
      show Goes _ _ _ _ _ _ _ (T12.setTop (mkF m 208 _ [(.int (((((p1).toUInt64 >>> ((48 : Int32) &&& 0x3f).toInt64.toUInt64).toInt64).toInt32).toInt8.toInt32 ||| (128 : Int32))), (.int (6 : Int32)), (.ref ar21)]))
      refine Goes.go (fun _ k => XS.i2b X12.here hx rfl (hb hby at_208) rfl k) ?_
      show Goes _ _ _ _ _ _ _ (T12.setTop (mkF m 209 _ [(.int ((((((p1).toUInt64 >>> ((48 : Int32) &&& 0x3f).toInt64.toUInt64).toInt64).toInt32).toInt8.toInt32 ||| (128 : Int32))).toInt8.toInt32), (.int (6 : Int32)), (.ref ar21)]))
      obtain ⟨T13, h13, X13, e13, W13, A13, st13⟩ := own_stB X12 hx hZ e12 f_11 (j := (6 : Int32)) (x := ((((((p1).toUInt64 >>> ((48 : Int32) &&& 0x3f).toInt64.toUInt64).toInt64).toInt32).toInt8.toInt32 ||| (128 : Int32))).toInt8.toInt32) (by decide) (show (6 : Nat) < 8 by decide) (g := (mkF m 209 #[.val (.int p0), .val (.long p1), .second, .val (.int (3 : Int32)), .val (.int (1 : Int32)), .val (.ref ar21), .val (.int (2 : Int32)), .val (.int (3 : Int32)), .unset, .unset, .unset] [(.int ((((((p1).toUInt64 >>> ((48 : Int32) &&& 0x3f).toInt64.toUInt64).toInt64).toInt32).toInt8.toInt32 ||| (128 : Int32))).toInt8.toInt32), (.int (6 : Int32)), (.ref ar21)])) rfl rfl (hb hby at_209)
      rw [own_nar8] at A13
      have N13 := Fr.snoc X13 N12 ge_ar21
      have Z13 : n0 ≤ h13.size := by rw [W13.size]; exact Z12
      have f_12 : Arl Z h13 ar21 .byte [(.int ((p1).toInt32).toInt8.toInt32), (.int ((((p1).toUInt64 >>> ((8 : Int32) &&& 0x3f).toInt64.toUInt64).toInt64).toInt32).toInt8.toInt32), (.int ((((p1).toUInt64 >>> ((16 : Int32) &&& 0x3f).toInt64.toUInt64).toInt64).toInt32).toInt8.toInt32), (.int ((((((p1).toUInt64 >>> ((24 : Int32) &&& 0x3f).toInt64.toUInt64).toInt64).toInt32).toInt8.toInt32 &&& (127 : Int32))).toInt8.toInt32), (.int ((((((p1).toUInt64 >>> ((32 : Int32) &&& 0x3f).toInt64.toUInt64).toInt64).toInt32).toInt8.toInt32 &&& (127 : Int32))).toInt8.toInt32), (.int ((((((p1).toUInt64 >>> ((40 : Int32) &&& 0x3f).toInt64.toUInt64).toInt64).toInt32).toInt8.toInt32 &&& (127 : Int32))).toInt8.toInt32), (.int ((((((p1).toUInt64 >>> ((48 : Int32) &&& 0x3f).toInt64.toUInt64).toInt64).toInt32).toInt8.toInt32 ||| (128 : Int32))).toInt8.toInt32), (.int ((((p1).toUInt64 >>> ((56 : Int32) &&& 0x3f).toInt64.toUInt64).toInt64).toInt32).toInt8.toInt32)] := A13
      refine Goes.go (st13) ?_
      show Goes _ _ _ _ _ _ _ (T13.setTop (mkF m 210 _ []))
      refine Goes.go (fun _ k => XS.aload X13.here hx rfl (hb hby at_210) rfl rfl k) ?_
      show Goes _ _ _ _ _ _ _ (T13.setTop (mkF m 212 _ [(.ref ar21)]))
      refine Goes.go (fun _ k => XS.bipush X13.here hx rfl (hb hby at_212) k) ?_
      show Goes _ _ _ _ _ _ _ (T13.setTop (mkF m 214 _ [(.int (7 : Int32)), (.ref ar21)]))
      refine Goes.go (fun _ k => XS.aload X13.here hx rfl (hb hby at_214) rfl rfl k) ?_
      show Goes _ _ _ _ _ _ _ (T13.setTop (mkF m 216 _ [(.ref ar21), (.int (7 : Int32)), (.ref ar21)]))
      refine Goes.go (fun _ k => XS.bipush X13.here hx rfl (hb hby at_216) k) ?_
      show Goes _ _ _ _ _ _ _ (T13.setTop (mkF m 218 _ [(.int (7 : Int32)), (.ref ar21), (.int (7 : Int32)), (.ref ar21)]))
      refine Goes.go (own_ldB X13 hx hZ e13 f_12 (j := (7 : Int32)) (v := (.int ((((p1).toUInt64 >>> ((56 : Int32) &&& 0x3f).toInt64.toUInt64).toInt64).toInt32).toInt8.toInt32)) (by decide) rfl rfl rfl (hb hby at_218)) ?_
      show Goes _ _ _ _ _ _ _ (T13.setTop (mkF m 219 _ [(.int ((((p1).toUInt64 >>> ((56 : Int32) &&& 0x3f).toInt64.toUInt64).toInt64).toInt32).toInt8.toInt32), (.int (7 : Int32)), (.ref ar21)]))
      refine Goes.go (fun _ k => XS.bipush X13.here hx rfl (hb hby at_219) k) ?_
      show Goes _ _ _ _ _ _ _ (T13.setTop (mkF m 221 _ [(.int (127 : Int32)), (.int ((((p1).toUInt64 >>> ((56 : Int32) &&& 0x3f).toInt64.toUInt64).toInt64).toInt32).toInt8.toInt32), (.int (7 : Int32)), (.ref ar21)]))
      refine Goes.go (fun _ k => XS.iand X13.here hx rfl (hb hby at_221) rfl k) ?_
      show Goes _ _ _ _ _ _ _ (T13.setTop (mkF m 222 _ [(.int (((((p1).toUInt64 >>> ((56 : Int32) &&& 0x3f).toInt64.toUInt64).toInt64).toInt32).toInt8.toInt32 &&& (127 : Int32))), (.int (7 : Int32)), (.ref ar21)]))
      refine Goes.go (fun _ k => XS.i2b X13.here hx rfl (hb hby at_222) rfl k) ?_
      show Goes _ _ _ _ _ _ _ (T13.setTop (mkF m 223 _ [(.int ((((((p1).toUInt64 >>> ((56 : Int32) &&& 0x3f).toInt64.toUInt64).toInt64).toInt32).toInt8.toInt32 &&& (127 : Int32))).toInt8.toInt32), (.int (7 : Int32)), (.ref ar21)]))
      obtain ⟨T14, h14, X14, e14, W14, A14, st14⟩ := own_stB X13 hx hZ e13 f_12 (j := (7 : Int32)) (x := ((((((p1).toUInt64 >>> ((56 : Int32) &&& 0x3f).toInt64.toUInt64).toInt64).toInt32).toInt8.toInt32 &&& (127 : Int32))).toInt8.toInt32) (by decide) (show (7 : Nat) < 8 by decide) (g := (mkF m 223 #[.val (.int p0), .val (.long p1), .second, .val (.int (3 : Int32)), .val (.int (1 : Int32)), .val (.ref ar21), .val (.int (2 : Int32)), .val (.int (3 : Int32)), .unset, .unset, .unset] [(.int ((((((p1).toUInt64 >>> ((56 : Int32) &&& 0x3f).toInt64.toUInt64).toInt64).toInt32).toInt8.toInt32 &&& (127 : Int32))).toInt8.toInt32), (.int (7 : Int32)), (.ref ar21)])) rfl rfl (hb hby at_223)
      rw [own_nar8] at A14
      have N14 := Fr.snoc X14 N13 ge_ar21
      have Z14 : n0 ≤ h14.size := by rw [W14.size]; exact Z13
      have f_13 : Arl Z h14 ar21 .byte [(.int ((p1).toInt32).toInt8.toInt32), (.int ((((p1).toUInt64 >>> ((8 : Int32) &&& 0x3f).toInt64.toUInt64).toInt64).toInt32).toInt8.toInt32), (.int ((((p1).toUInt64 >>> ((16 : Int32) &&& 0x3f).toInt64.toUInt64).toInt64).toInt32).toInt8.toInt32), (.int ((((((p1).toUInt64 >>> ((24 : Int32) &&& 0x3f).toInt64.toUInt64).toInt64).toInt32).toInt8.toInt32 &&& (127 : Int32))).toInt8.toInt32), (.int ((((((p1).toUInt64 >>> ((32 : Int32) &&& 0x3f).toInt64.toUInt64).toInt64).toInt32).toInt8.toInt32 &&& (127 : Int32))).toInt8.toInt32), (.int ((((((p1).toUInt64 >>> ((40 : Int32) &&& 0x3f).toInt64.toUInt64).toInt64).toInt32).toInt8.toInt32 &&& (127 : Int32))).toInt8.toInt32), (.int ((((((p1).toUInt64 >>> ((48 : Int32) &&& 0x3f).toInt64.toUInt64).toInt64).toInt32).toInt8.toInt32 ||| (128 : Int32))).toInt8.toInt32), (.int ((((((p1).toUInt64 >>> ((56 : Int32) &&& 0x3f).toInt64.toUInt64).toInt64).toInt32).toInt8.toInt32 &&& (127 : Int32))).toInt8.toInt32)] := A14
      refine Goes.go (st14) ?_
      show Goes _ _ _ _ _ _ _ (T14.setTop (mkF m 224 _ []))
      obtain ⟨T15, h15, X15, e15, E15, A15, D15, -, st15⟩ := newO X14 hx hZ hown (hw _ (List.mem_of_getElem? (i := 1) rfl)) (hw _ (List.mem_of_getElem? (i := 2) rfl)) (hw _ (List.mem_of_getElem? (i := 3) rfl)) e14 (g := (mkF m 224 #[.val (.int p0), .val (.long p1), .second, .val (.int (3 : Int32)), .val (.int (1 : Int32)), .val (.ref ar21), .val (.int (2 : Int32)), .val (.int (3 : Int32)), .unset, .unset, .unset] [])) rfl (hb hby at_224) (by decide) (by decide)
      obtain ⟨ob224, gob224⟩ : ∃ z, z = h14.size := ⟨_, rfl⟩
      rw [← gob224] at A15 D15 st15
      have ne_ar21_ob224 : ar21 ≠ ob224 := by rw [gob224]; exact Nat.ne_of_lt f_13.lt
      have f_14 := f_13.ext E15
      have Z15 : n0 ≤ h15.size := Nat.le_trans Z14 E15.1
      have ge_ob224 : n0 ≤ ob224 := Nat.le_trans Z14 (Nat.le_of_eq gob224.symm)
      have f_15 : Fld Z h15 ob224 "com/example/countermand/countermand/Packed$Reader" "in" "[B" .null := D15 (Or.inr (hw _ (List.mem_of_getElem? (i := 11) rfl))) (ty := (.array .byte)) (by decide)
      have f_16 : Fld Z h15 ob224 "com/example/countermand/countermand/Packed$Reader" "position" "I" (.int (0 : Int32)) := D15 (Or.inl (hw _ (List.mem_of_getElem? (i := 13) rfl))) (ty := .int) (by decide)
      refine Goes.go (st15) ?_
      show Goes _ _ _ _ _ _ _ (T15.setTop (mkF m 227 _ [(.ref ob224)]))
      refine Goes.go (fun _ k => XS.dup X15.here hx rfl (hb hby at_227) rfl rfl k) ?_
      show Goes _ _ _ _ _ _ _ (T15.setTop (mkF m 228 _ [(.ref ob224), (.ref ob224)]))
      refine Goes.go (fun _ k => XS.aload X15.here hx rfl (hb hby at_228) rfl rfl k) ?_
      show Goes _ _ _ _ _ _ _ (T15.setTop (mkF m 230 _ [(.ref ar21), (.ref ob224), (.ref ob224)]))
      refine Goes.go (fun _ k => XS.iload X15.here hx rfl (hb hby at_230) rfl k) ?_
      show Goes _ _ _ _ _ _ _ (T15.setTop (mkF m 232 _ [(.int (3 : Int32)), (.ref ar21), (.ref ob224), (.ref ob224)]))
      obtain ⟨_, _, ⟨T16, L16, k16, n16⟩, -, X16, ⟨Lc16, hQ16, l16, y16, z16⟩, st16⟩ := X15.specialBack hx (y := (⟨"com/example/countermand/countermand/Packed$Reader", "<init>", "([BI)V"⟩ : MethodName)) rfl hown (mvT hZ (hw _ (List.mem_of_getElem? (i := 4) rfl))) (mvT hZ (hw _ (List.mem_of_getElem? (i := 5) rfl))) (mvT hZ (hw _ (List.mem_of_getElem? (i := 6) rfl))) (by decide) (backOf (W := 1) (rm1 l Z a0 hw [] ob224 ar21 (3 : Int32) h15 n0 Z15 A15 f_15 f_16 ge_ob224) hZ (hw _ (List.mem_of_getElem? (i := 6) rfl)) (hw _ (List.mem_of_getElem? (i := 3) rfl)) (by decide) (by decide)) (g := (mkF m 232 #[.val (.int p0), .val (.long p1), .second, .val (.int (3 : Int32)), .val (.int (1 : Int32)), .val (.ref ar21), .val (.int (2 : Int32)), .val (.int (3 : Int32)), .unset, .unset, .unset] [(.int (3 : Int32)), (.ref ar21), (.ref ob224), (.ref ob224)])) rfl (by rw [hml]; rfl) (Steps.refl _) (a := ob224) (argsL := [(.ref ar21), (.int (3 : Int32))]) (rest := [(.ref ob224)]) (lenOf pd0 rfl) rfl (by show 2 * 0 + _ ≤ _; exact Nat.le_of_eq rfl) (hb hby at_232) (fun _ _ => ⟨rfl, e15, (by decide : 2 + 0 ≤ _), (by decide : 10 + 0 ≤ _)⟩)
      dsimp only [Pt.U, Pt.locs, Pt.cells, Pt.slots] at X16 l16 y16 z16 st16 hQ16
      subst l16 y16 z16
      obtain ⟨rfl, Nq16, Kq16, Eq16, Fq16_0, Fq16_1⟩ := hQ16
      have N16 := Fr.app N14 Nq16
      have Z16 : n0 ≤ T16.heap.size := Nat.le_trans Z15 Kq16.1
      have f_17 := Arl.keep f_14 Kq16 (ninS ne_ar21_ob224 nin0)
      refine Goes.go (fun _ k => st16.trans k) ?_
      show Goes _ _ _ _ _ _ _ (T16.setTop (mkF m 235 _ [(.ref ob224)]))
      refine Goes.go (fun _ k => XS.astore X16.here hx rfl (hb hby at_235) rfl rfl (l' := #[.val (.int p0), .val (.long p1), .second, .val (.int (3 : Int32)), .val (.int (1 : Int32)), .val (.ref ar21), .val (.int (2 : Int32)), .val (.int (3 : Int32)), .val (.ref ob224), .unset, .unset]) rfl k) ?_
      show Goes _ _ _ _ _ _ _ (T16.setTop (mkF m 237 #[.val (.int p0), .val (.long p1), .second, .val (.int (3 : Int32)), .val (.int (1 : Int32)), .val (.ref ar21), .val (.int (2 : Int32)), .val (.int (3 : Int32)), .val (.ref ob224), .unset, .unset] []))
      refine Goes.go (fun _ k => XS.iconst X16.here hx rfl (hb hby at_237) k) ?_
      show Goes _ _ _ _ _ _ _ (T16.setTop (mkF m 238 _ [(.int (1 : Int32))]))
      refine Goes.go (fun _ k => XS.istore X16.here hx rfl (hb hby at_238) rfl (l' := #[.val (.int p0), .val (.long p1), .second, .val (.int (3 : Int32)), .val (.int (1 : Int32)), .val (.ref ar21), .val (.int (2 : Int32)), .val (.int (3 : Int32)), .val (.ref ob224), .val (.int (1 : Int32)), .unset]) rfl k) ?_
      show Goes _ _ _ _ _ _ _ (T16.setTop (mkF m 240 #[.val (.int p0), .val (.long p1), .second, .val (.int (3 : Int32)), .val (.int (1 : Int32)), .val (.ref ar21), .val (.int (2 : Int32)), .val (.int (3 : Int32)), .val (.ref ob224), .val (.int (1 : Int32)), .unset] []))
      refine Goes.go (fun _ k => XS.iloadN X16.here hx rfl (hb hby at_240) rfl k) ?_
      show Goes _ _ _ _ _ _ _ (T16.setTop (mkF m 241 _ [(.int (3 : Int32))]))
      refine Goes.go (fun _ k => XS.iconst X16.here hx rfl (hb hby at_241) k) ?_
      show Goes _ _ _ _ _ _ _ (T16.setTop (mkF m 242 _ [(.int (1 : Int32)), (.int (3 : Int32))]))
      refine Goes.go (fun _ k => XS.icmpNo X16.here hx rfl (hb hby at_242) rfl (XT.ii_lt_f (by decide)) k) ?_
      show Goes _ _ _ _ _ _ _ (T16.setTop (mkF m 245 _ []))
      refine Goes.go (fun _ k => XS.iload X16.here hx rfl (hb hby at_245) rfl k) ?_
      show Goes _ _ _ _ _ _ _ (T16.setTop (mkF m 247 _ [(.int (1 : Int32))]))
      refine Goes.go (fun _ k => XS.ifNo X16.here hx rfl (hb hby at_247) rfl (XT.i0_eq_f (by decide)) k) ?_
      show Goes _ _ _ _ _ _ _ (T16.setTop (mkF m 250 _ []))
      refine Goes.go (fun _ k => XS.aload X16.here hx rfl (hb hby at_250) rfl rfl k) ?_
      show Goes _ _ _ _ _ _ _ (T16.setTop (mkF m 252 _ [(.ref ob224)]))
      obtain ⟨cq17, kq17, qa17, qb17, qc17⟩ := isOf hZ rfl Eq16
      obtain ⟨_, _, ⟨T17, L17, k17, n17⟩, -, X17, ⟨Lc17, hQ17, l17, y17, z17⟩, st17⟩ := X16.virtualBack hx (y := (⟨"com/example/countermand/countermand/Packed$Reader", "count", "()I"⟩ : MethodName)) (z := (⟨"com/example/countermand/countermand/Packed$Reader", "count", "()I"⟩ : MethodName)) hown (mvT hZ (hw _ (List.mem_of_getElem? (i := 19) rfl))) (mvT hZ (hw _ (List.mem_of_getElem? (i := 20) rfl))) (notFace_of_selects (args := #[]) (mvT hZ (hw _ (List.mem_of_getElem? (i := 22) rfl)))) (mvT hZ (hw _ (List.mem_of_getElem? (i := 22) rfl))) (mvT hZ (hw _ (List.mem_of_getElem? (i := 21) rfl))) (by decide) (backOf (W := 0) (rm4 l Z a0 hw [] ob224 ar21 _ (3 : Int32) [((((((p1).toUInt64 >>> ((24 : Int32) &&& 0x3f).toInt64.toUInt64).toInt64).toInt32).toInt8.toInt32 &&& (127 : Int32))).toInt8.toInt32] T16.heap n0 Z16 Eq16 Fq16_0 Fq16_1 ge_ob224 f_17 ⟨by decide, rfl, own_lo8 (((((p1).toUInt64 >>> ((24 : Int32) &&& 0x3f).toInt64.toUInt64).toInt64).toInt32).toInt8)⟩ (fit_1 (((((p1).toUInt64 >>> ((24 : Int32) &&& 0x3f).toInt64.toUInt64).toInt64).toInt32).toInt8))) hZ (hw _ (List.mem_of_getElem? (i := 23) rfl)) (hw _ (List.mem_of_getElem? (i := 3) rfl)) (by decide) (by decide)) qa17 qc17 (g := (mkF m 252 #[.val (.int p0), .val (.long p1), .second, .val (.int (3 : Int32)), .val (.int (1 : Int32)), .val (.ref ar21), .val (.int (2 : Int32)), .val (.int (3 : Int32)), .val (.ref ob224), .val (.int (1 : Int32)), .unset] [(.ref ob224)])) rfl (by rw [hml]; rfl) (Steps.refl _) (argsL := []) (rest := []) (lenOf pd2 rfl) rfl (by show 2 * 0 + _ ≤ _; exact Nat.le_of_eq rfl) (hb hby at_252) (fun _ _ => ⟨rfl, rfl, (by decide : 2 + 0 ≤ _), (by decide : 10 + 0 ≤ _)⟩)
      dsimp only [Pt.U, Pt.locs, Pt.cells, Pt.slots] at X17 l17 y17 z17 st17 hQ17
      subst l17 y17 z17
      obtain ⟨rfl, Nq17, Kq17, Eq17, Fq17_0, Fq17_1⟩ := hQ17
      have N17 := Fr.app N16 Nq17
      have Z17 : n0 ≤ T17.heap.size := Nat.le_trans Z16 Kq17.1
      have f_18 := Arl.keep f_17 Kq17 (ninS ne_ar21_ob224 nin0)
      refine Goes.go (fun _ k => st17.trans k) ?_
      show Goes _ _ _ _ _ _ _ (T17.setTop (mkF m 255 _ [(.int (svb [((((((p1).toUInt64 >>> ((24 : Int32) &&& 0x3f).toInt64.toUInt64).toInt64).toInt32).toInt8.toInt32 &&& (127 : Int32))).toInt8.toInt32] 0 0).toInt32)]))
      refine Goes.go (fun _ k => XS.aload X17.here hx rfl (hb hby at_255) rfl rfl k) ?_
      show Goes _ _ _ _ _ _ _ (T17.setTop (mkF m 257 _ [(.ref ar21), (.int (svb [((((((p1).toUInt64 >>> ((24 : Int32) &&& 0x3f).toInt64.toUInt64).toInt64).toInt32).toInt8.toInt32 &&& (127 : Int32))).toInt8.toInt32] 0 0).toInt32)]))
      refine Goes.go (fun _ k => XS.iload X17.here hx rfl (hb hby at_257) rfl k) ?_
      show Goes _ _ _ _ _ _ _ (T17.setTop (mkF m 259 _ [(.int (3 : Int32)), (.ref ar21), (.int (svb [((((((p1).toUInt64 >>> ((24 : Int32) &&& 0x3f).toInt64.toUInt64).toInt64).toInt32).toInt8.toInt32 &&& (127 : Int32))).toInt8.toInt32] 0 0).toInt32)]))
      refine Goes.go (own_ldB X17 hx hZ rfl f_18 (j := (3 : Int32)) (v := (.int ((((((p1).toUInt64 >>> ((24 : Int32) &&& 0x3f).toInt64.toUInt64).toInt64).toInt32).toInt8.toInt32 &&& (127 : Int32))).toInt8.toInt32)) (by decide) rfl rfl rfl (hb hby at_259)) ?_
      show Goes _ _ _ _ _ _ _ (T17.setTop (mkF m 260 _ [(.int ((((((p1).toUInt64 >>> ((24 : Int32) &&& 0x3f).toInt64.toUInt64).toInt64).toInt32).toInt8.toInt32 &&& (127 : Int32))).toInt8.toInt32), (.int (svb [((((((p1).toUInt64 >>> ((24 : Int32) &&& 0x3f).toInt64.toUInt64).toInt64).toInt32).toInt8.toInt32 &&& (127 : Int32))).toInt8.toInt32] 0 0).toInt32)]))
      refine Goes.go (fun _ k => XS.icmpNo X17.here hx rfl (hb hby at_260) rfl (XT.ii_ne_f (val_1 (((((p1).toUInt64 >>> ((24 : Int32) &&& 0x3f).toInt64.toUInt64).toInt64).toInt32).toInt8))) k) ?_
      show Goes _ _ _ _ _ _ _ (T17.setTop (mkF m 263 _ []))
      refine Goes.go (fun _ k => XS.iconst X17.here hx rfl (hb hby at_263) k) ?_
      show Goes _ _ _ _ _ _ _ (T17.setTop (mkF m 264 _ [(.int (1 : Int32))]))
      refine Goes.go (fun _ k => XS.goto X17.here hx rfl (pc0 := 264) (pc' := 268) rfl (hb hby at_264) (by decide) (by decide) k) ?_
      show Goes _ _ _ _ _ _ _ (T17.setTop (mkF m 268 _ [(.int (1 : Int32))]))
      refine Goes.go (fun _ k => XS.istore X17.here hx rfl (hb hby at_268) rfl (l' := #[.val (.int p0), .val (.long p1), .second, .val (.int (3 : Int32)), .val (.int (1 : Int32)), .val (.ref ar21), .val (.int (2 : Int32)), .val (.int (3 : Int32)), .val (.ref ob224), .val (.int (1 : Int32)), .unset]) rfl k) ?_
      show Goes _ _ _ _ _ _ _ (T17.setTop (mkF m 270 _ []))
      refine Goes.go (fun _ k => XS.iloadN X17.here hx rfl (hb hby at_270) rfl k) ?_
      show Goes _ _ _ _ _ _ _ (T17.setTop (mkF m 271 _ [(.int (3 : Int32))]))
      refine Goes.go (fun _ k => XS.iconst X17.here hx rfl (hb hby at_271) k) ?_
      show Goes _ _ _ _ _ _ _ (T17.setTop (mkF m 272 _ [(.int (2 : Int32)), (.int (3 : Int32))]))
      refine Goes.go (fun _ k => XS.icmpNo X17.here hx rfl (hb hby at_272) rfl (XT.ii_lt_f (by decide)) k) ?_
      show Goes _ _ _ _ _ _ _ (T17.setTop (mkF m 275 _ []))
      refine Goes.go (fun _ k => XS.iload X17.here hx rfl (hb hby at_275) rfl k) ?_
      show Goes _ _ _ _ _ _ _ (T17.setTop (mkF m 277 _ [(.int (1 : Int32))]))
      refine Goes.go (fun _ k => XS.ifNo X17.here hx rfl (hb hby at_277) rfl (XT.i0_eq_f (by decide)) k) ?_
      show Goes _ _ _ _ _ _ _ (T17.setTop (mkF m 280 _ []))
      refine Goes.go (fun _ k => XS.aload X17.here hx rfl (hb hby at_280) rfl rfl k) ?_
      show Goes _ _ _ _ _ _ _ (T17.setTop (mkF m 282 _ [(.ref ob224)]))
      obtain ⟨cq18, kq18, qa18, qb18, qc18⟩ := isOf hZ rfl Eq17
      obtain ⟨_, _, ⟨T18, L18, k18, n18⟩, -, X18, ⟨Lc18, hQ18, l18, y18, z18⟩, st18⟩ := X17.virtualBack hx (y := (⟨"com/example/countermand/countermand/Packed$Reader", "count", "()I"⟩ : MethodName)) (z := (⟨"com/example/countermand/countermand/Packed$Reader", "count", "()I"⟩ : MethodName)) hown (mvT hZ (hw _ (List.mem_of_getElem? (i := 19) rfl))) (mvT hZ (hw _ (List.mem_of_getElem? (i := 20) rfl))) (notFace_of_selects (args := #[]) (mvT hZ (hw _ (List.mem_of_getElem? (i := 22) rfl)))) (mvT hZ (hw _ (List.mem_of_getElem? (i := 22) rfl))) (mvT hZ (hw _ (List.mem_of_getElem? (i := 21) rfl))) (by decide) (backOf (W := 0) (rm4 l Z a0 hw [] ob224 ar21 _ (4 : Int32) [((((((p1).toUInt64 >>> ((32 : Int32) &&& 0x3f).toInt64.toUInt64).toInt64).toInt32).toInt8.toInt32 &&& (127 : Int32))).toInt8.toInt32] T17.heap n0 Z17 Eq17 Fq17_0 Fq17_1 ge_ob224 f_18 ⟨by decide, rfl, own_lo8 (((((p1).toUInt64 >>> ((32 : Int32) &&& 0x3f).toInt64.toUInt64).toInt64).toInt32).toInt8)⟩ (fit_1 (((((p1).toUInt64 >>> ((32 : Int32) &&& 0x3f).toInt64.toUInt64).toInt64).toInt32).toInt8))) hZ (hw _ (List.mem_of_getElem? (i := 23) rfl)) (hw _ (List.mem_of_getElem? (i := 3) rfl)) (by decide) (by decide)) qa18 qc18 (g := (mkF m 282 #[.val (.int p0), .val (.long p1), .second, .val (.int (3 : Int32)), .val (.int (1 : Int32)), .val (.ref ar21), .val (.int (2 : Int32)), .val (.int (3 : Int32)), .val (.ref ob224), .val (.int (1 : Int32)), .unset] [(.ref ob224)])) rfl (by rw [hml]; rfl) (Steps.refl _) (argsL := []) (rest := []) (lenOf pd2 rfl) rfl (by show 2 * 0 + _ ≤ _; exact Nat.le_of_eq rfl) (hb hby at_282) (fun _ _ => ⟨rfl, rfl, (by decide : 2 + 0 ≤ _), (by decide : 10 + 0 ≤ _)⟩)
      dsimp only [Pt.U, Pt.locs, Pt.cells, Pt.slots] at X18 l18 y18 z18 st18 hQ18
      subst l18 y18 z18
      obtain ⟨rfl, Nq18, Kq18, Eq18, Fq18_0, Fq18_1⟩ := hQ18
      have N18 := Fr.app N17 Nq18
      have Z18 : n0 ≤ T18.heap.size := Nat.le_trans Z17 Kq18.1
      have f_19 := Arl.keep f_18 Kq18 (ninS ne_ar21_ob224 nin0)
      refine Goes.go (fun _ k => st18.trans k) ?_
      show Goes _ _ _ _ _ _ _ (T18.setTop (mkF m 285 _ [(.int (svb [((((((p1).toUInt64 >>> ((32 : Int32) &&& 0x3f).toInt64.toUInt64).toInt64).toInt32).toInt8.toInt32 &&& (127 : Int32))).toInt8.toInt32] 0 0).toInt32)]))
      refine Goes.go (fun _ k => XS.aload X18.here hx rfl (hb hby at_285) rfl rfl k) ?_
      show Goes _ _ _ _ _ _ _ (T18.setTop (mkF m 287 _ [(.ref ar21), (.int (svb [((((((p1).toUInt64 >>> ((32 : Int32) &&& 0x3f).toInt64.toUInt64).toInt64).toInt32).toInt8.toInt32 &&& (127 : Int32))).toInt8.toInt32] 0 0).toInt32)]))
      refine Goes.go (fun _ k => XS.iload X18.here hx rfl (hb hby at_287) rfl k) ?_
      show Goes _ _ _ _ _ _ _ (T18.setTop (mkF m 289 _ [(.int (3 : Int32)), (.ref ar21), (.int (svb [((((((p1).toUInt64 >>> ((32 : Int32) &&& 0x3f).toInt64.toUInt64).toInt64).toInt32).toInt8.toInt32 &&& (127 : Int32))).toInt8.toInt32] 0 0).toInt32)]))
      refine Goes.go (fun _ k => XS.iconst X18.here hx rfl (hb hby at_289) k) ?_
      show Goes _ _ _ _ _ _ _ (T18.setTop (mkF m 290 _ [(.int (1 : Int32)), (.int (3 : Int32)), (.ref ar21), (.int (svb [((((((p1).toUInt64 >>> ((32 : Int32) &&& 0x3f).toInt64.toUInt64).toInt64).toInt32).toInt8.toInt32 &&& (127 : Int32))).toInt8.toInt32] 0 0).toInt32)]))
      refine Goes.go (fun _ k => XS.iadd X18.here hx rfl (hb hby at_290) rfl k) ?_
      show Goes _ _ _ _ _ _ _ (T18.setTop (mkF m 291 _ [(.int (4 : Int32)), (.ref ar21), (.int (svb [((((((p1).toUInt64 >>> ((32 : Int32) &&& 0x3f).toInt64.toUInt64).toInt64).toInt32).toInt8.toInt32 &&& (127 : Int32))).toInt8.toInt32] 0 0).toInt32)]))
      refine Goes.go (own_ldB X18 hx hZ rfl f_19 (j := (4 : Int32)) (v := (.int ((((((p1).toUInt64 >>> ((32 : Int32) &&& 0x3f).toInt64.toUInt64).toInt64).toInt32).toInt8.toInt32 &&& (127 : Int32))).toInt8.toInt32)) (by decide) rfl rfl rfl (hb hby at_291)) ?_
      show Goes _ _ _ _ _ _ _ (T18.setTop (mkF m 292 _ [(.int ((((((p1).toUInt64 >>> ((32 : Int32) &&& 0x3f).toInt64.toUInt64).toInt64).toInt32).toInt8.toInt32 &&& (127 : Int32))).toInt8.toInt32), (.int (svb [((((((p1).toUInt64 >>> ((32 : Int32) &&& 0x3f).toInt64.toUInt64).toInt64).toInt32).toInt8.toInt32 &&& (127 : Int32))).toInt8.toInt32] 0 0).toInt32)]))
      refine Goes.go (fun _ k => XS.icmpNo X18.here hx rfl (hb hby at_292) rfl (XT.ii_ne_f (val_1 (((((p1).toUInt64 >>> ((32 : Int32) &&& 0x3f).toInt64.toUInt64).toInt64).toInt32).toInt8))) k) ?_
      show Goes _ _ _ _ _ _ _ (T18.setTop (mkF m 295 _ []))
      refine Goes.go (fun _ k => XS.iconst X18.here hx rfl (hb hby at_295) k) ?_
      show Goes _ _ _ _ _ _ _ (T18.setTop (mkF m 296 _ [(.int (1 : Int32))]))
      refine Goes.go (fun _ k => XS.goto X18.here hx rfl (pc0 := 296) (pc' := 300) rfl (hb hby at_296) (by decide) (by decide) k) ?_
      show Goes _ _ _ _ _ _ _ (T18.setTop (mkF m 300 _ [(.int (1 : Int32))]))
      refine Goes.go (fun _ k => XS.istore X18.here hx rfl (hb hby at_300) rfl (l' := #[.val (.int p0), .val (.long p1), .second, .val (.int (3 : Int32)), .val (.int (1 : Int32)), .val (.ref ar21), .val (.int (2 : Int32)), .val (.int (3 : Int32)), .val (.ref ob224), .val (.int (1 : Int32)), .unset]) rfl k) ?_
      show Goes _ _ _ _ _ _ _ (T18.setTop (mkF m 302 _ []))
      refine Goes.go (fun _ k => XS.iloadN X18.here hx rfl (hb hby at_302) rfl k) ?_
      show Goes _ _ _ _ _ _ _ (T18.setTop (mkF m 303 _ [(.int (3 : Int32))]))
      refine Goes.go (fun _ k => XS.iconst X18.here hx rfl (hb hby at_303) k) ?_
      show Goes _ _ _ _ _ _ _ (T18.setTop (mkF m 304 _ [(.int (3 : Int32)), (.int (3 : Int32))]))
      refine Goes.go (fun _ k => XS.icmpNo X18.here hx rfl (hb hby at_304) rfl (XT.ii_lt_f (by decide)) k) ?_
      show Goes _ _ _ _ _ _ _ (T18.setTop (mkF m 307 _ []))
      refine Goes.go (fun _ k => XS.iload X18.here hx rfl (hb hby at_307) rfl k) ?_
      show Goes _ _ _ _ _ _ _ (T18.setTop (mkF m 309 _ [(.int (1 : Int32))]))
      refine Goes.go (fun _ k => XS.ifNo X18.here hx rfl (hb hby at_309) rfl (XT.i0_eq_f (by decide)) k) ?_
      show Goes _ _ _ _ _ _ _ (T18.setTop (mkF m 312 _ []))
      refine Goes.go (fun _ k => XS.aload X18.here hx rfl (hb hby at_312) rfl rfl k) ?_
      show Goes _ _ _ _ _ _ _ (T18.setTop (mkF m 314 _ [(.ref ob224)]))
      obtain ⟨cq19, kq19, qa19, qb19, qc19⟩ := isOf hZ rfl Eq18
      obtain ⟨_, _, ⟨T19, L19, k19, n19⟩, -, X19, ⟨Lc19, hQ19, l19, y19, z19⟩, st19⟩ := X18.virtualBack hx (y := (⟨"com/example/countermand/countermand/Packed$Reader", "count", "()I"⟩ : MethodName)) (z := (⟨"com/example/countermand/countermand/Packed$Reader", "count", "()I"⟩ : MethodName)) hown (mvT hZ (hw _ (List.mem_of_getElem? (i := 19) rfl))) (mvT hZ (hw _ (List.mem_of_getElem? (i := 20) rfl))) (notFace_of_selects (args := #[]) (mvT hZ (hw _ (List.mem_of_getElem? (i := 22) rfl)))) (mvT hZ (hw _ (List.mem_of_getElem? (i := 22) rfl))) (mvT hZ (hw _ (List.mem_of_getElem? (i := 21) rfl))) (by decide) (backOf (W := 0) (rm4 l Z a0 hw [] ob224 ar21 _ (5 : Int32) [((((((p1).toUInt64 >>> ((40 : Int32) &&& 0x3f).toInt64.toUInt64).toInt64).toInt32).toInt8.toInt32 &&& (127 : Int32))).toInt8.toInt32] T18.heap n0 Z18 Eq18 Fq18_0 Fq18_1 ge_ob224 f_19 ⟨by decide, rfl, own_lo8 (((((p1).toUInt64 >>> ((40 : Int32) &&& 0x3f).toInt64.toUInt64).toInt64).toInt32).toInt8)⟩ (fit_1 (((((p1).toUInt64 >>> ((40 : Int32) &&& 0x3f).toInt64.toUInt64).toInt64).toInt32).toInt8))) hZ (hw _ (List.mem_of_getElem? (i := 23) rfl)) (hw _ (List.mem_of_getElem? (i := 3) rfl)) (by decide) (by decide)) qa19 qc19 (g := (mkF m 314 #[.val (.int p0), .val (.long p1), .second, .val (.int (3 : Int32)), .val (.int (1 : Int32)), .val (.ref ar21), .val (.int (2 : Int32)), .val (.int (3 : Int32)), .val (.ref ob224), .val (.int (1 : Int32)), .unset] [(.ref ob224)])) rfl (by rw [hml]; rfl) (Steps.refl _) (argsL := []) (rest := []) (lenOf pd2 rfl) rfl (by show 2 * 0 + _ ≤ _; exact Nat.le_of_eq rfl) (hb hby at_314) (fun _ _ => ⟨rfl, rfl, (by decide : 2 + 0 ≤ _), (by decide : 10 + 0 ≤ _)⟩)
      dsimp only [Pt.U, Pt.locs, Pt.cells, Pt.slots] at X19 l19 y19 z19 st19 hQ19
      subst l19 y19 z19
      obtain ⟨rfl, Nq19, Kq19, Eq19, Fq19_0, Fq19_1⟩ := hQ19
      have N19 := Fr.app N18 Nq19
      have Z19 : n0 ≤ T19.heap.size := Nat.le_trans Z18 Kq19.1
      have f_20 := Arl.keep f_19 Kq19 (ninS ne_ar21_ob224 nin0)
      refine Goes.go (fun _ k => st19.trans k) ?_
      show Goes _ _ _ _ _ _ _ (T19.setTop (mkF m 317 _ [(.int (svb [((((((p1).toUInt64 >>> ((40 : Int32) &&& 0x3f).toInt64.toUInt64).toInt64).toInt32).toInt8.toInt32 &&& (127 : Int32))).toInt8.toInt32] 0 0).toInt32)]))
      refine Goes.go (fun _ k => XS.aload X19.here hx rfl (hb hby at_317) rfl rfl k) ?_
      show Goes _ _ _ _ _ _ _ (T19.setTop (mkF m 319 _ [(.ref ar21), (.int (svb [((((((p1).toUInt64 >>> ((40 : Int32) &&& 0x3f).toInt64.toUInt64).toInt64).toInt32).toInt8.toInt32 &&& (127 : Int32))).toInt8.toInt32] 0 0).toInt32)]))
      refine Goes.go (fun _ k => XS.iload X19.here hx rfl (hb hby at_319) rfl k) ?_
      show Goes _ _ _ _ _ _ _ (T19.setTop (mkF m 321 _ [(.int (3 : Int32)), (.ref ar21), (.int (svb [((((((p1).toUInt64 >>> ((40 : Int32) &&& 0x3f).toInt64.toUInt64).toInt64).toInt32).toInt8.toInt32 &&& (127 : Int32))).toInt8.toInt32] 0 0).toInt32)]))
      refine Goes.go (fun _ k => XS.iconst X19.here hx rfl (hb hby at_321) k) ?_
      show Goes _ _ _ _ _ _ _ (T19.setTop (mkF m 322 _ [(.int (2 : Int32)), (.int (3 : Int32)), (.ref ar21), (.int (svb [((((((p1).toUInt64 >>> ((40 : Int32) &&& 0x3f).toInt64.toUInt64).toInt64).toInt32).toInt8.toInt32 &&& (127 : Int32))).toInt8.toInt32] 0 0).toInt32)]))
      refine Goes.go (fun _ k => XS.iadd X19.here hx rfl (hb hby at_322) rfl k) ?_
      show Goes _ _ _ _ _ _ _ (T19.setTop (mkF m 323 _ [(.int (5 : Int32)), (.ref ar21), (.int (svb [((((((p1).toUInt64 >>> ((40 : Int32) &&& 0x3f).toInt64.toUInt64).toInt64).toInt32).toInt8.toInt32 &&& (127 : Int32))).toInt8.toInt32] 0 0).toInt32)]))
      refine Goes.go (own_ldB X19 hx hZ rfl f_20 (j := (5 : Int32)) (v := (.int ((((((p1).toUInt64 >>> ((40 : Int32) &&& 0x3f).toInt64.toUInt64).toInt64).toInt32).toInt8.toInt32 &&& (127 : Int32))).toInt8.toInt32)) (by decide) rfl rfl rfl (hb hby at_323)) ?_
      show Goes _ _ _ _ _ _ _ (T19.setTop (mkF m 324 _ [(.int ((((((p1).toUInt64 >>> ((40 : Int32) &&& 0x3f).toInt64.toUInt64).toInt64).toInt32).toInt8.toInt32 &&& (127 : Int32))).toInt8.toInt32), (.int (svb [((((((p1).toUInt64 >>> ((40 : Int32) &&& 0x3f).toInt64.toUInt64).toInt64).toInt32).toInt8.toInt32 &&& (127 : Int32))).toInt8.toInt32] 0 0).toInt32)]))
      refine Goes.go (fun _ k => XS.icmpNo X19.here hx rfl (hb hby at_324) rfl (XT.ii_ne_f (val_1 (((((p1).toUInt64 >>> ((40 : Int32) &&& 0x3f).toInt64.toUInt64).toInt64).toInt32).toInt8))) k) ?_
      show Goes _ _ _ _ _ _ _ (T19.setTop (mkF m 327 _ []))
      refine Goes.go (fun _ k => XS.iconst X19.here hx rfl (hb hby at_327) k) ?_
      show Goes _ _ _ _ _ _ _ (T19.setTop (mkF m 328 _ [(.int (1 : Int32))]))
      refine Goes.go (fun _ k => XS.goto X19.here hx rfl (pc0 := 328) (pc' := 332) rfl (hb hby at_328) (by decide) (by decide) k) ?_
      show Goes _ _ _ _ _ _ _ (T19.setTop (mkF m 332 _ [(.int (1 : Int32))]))
      refine Goes.go (fun _ k => XS.istore X19.here hx rfl (hb hby at_332) rfl (l' := #[.val (.int p0), .val (.long p1), .second, .val (.int (3 : Int32)), .val (.int (1 : Int32)), .val (.ref ar21), .val (.int (2 : Int32)), .val (.int (3 : Int32)), .val (.ref ob224), .val (.int (1 : Int32)), .unset]) rfl k) ?_
      show Goes _ _ _ _ _ _ _ (T19.setTop (mkF m 334 _ []))
      refine Goes.go (fun _ k => XS.iload X19.here hx rfl (hb hby at_334) rfl k) ?_
      show Goes _ _ _ _ _ _ _ (T19.setTop (mkF m 336 _ [(.int (1 : Int32))]))
      refine Goes.go (fun _ k => XS.ifNo X19.here hx rfl (hb hby at_336) rfl (XT.i0_eq_f (by decide)) k) ?_
      show Goes _ _ _ _ _ _ _ (T19.setTop (mkF m 339 _ []))
      refine Goes.go (fun _ k => XS.aload X19.here hx rfl (hb hby at_339) rfl rfl k) ?_
      show Goes _ _ _ _ _ _ _ (T19.setTop (mkF m 341 _ [(.ref ar21)]))
      refine Goes.go (fun _ k => XS.bipush X19.here hx rfl (hb hby at_341) k) ?_
      show Goes _ _ _ _ _ _ _ (T19.setTop (mkF m 343 _ [(.int (6 : Int32)), (.ref ar21)]))
      refine Goes.go (own_ldB X19 hx hZ rfl f_20 (j := (6 : Int32)) (v := (.int ((((((p1).toUInt64 >>> ((48 : Int32) &&& 0x3f).toInt64.toUInt64).toInt64).toInt32).toInt8.toInt32 ||| (128 : Int32))).toInt8.toInt32)) (by decide) rfl rfl rfl (hb hby at_343)) ?_
      show Goes _ _ _ _ _ _ _ (T19.setTop (mkF m 344 _ [(.int ((((((p1).toUInt64 >>> ((48 : Int32) &&& 0x3f).toInt64.toUInt64).toInt64).toInt32).toInt8.toInt32 ||| (128 : Int32))).toInt8.toInt32)]))
      refine Goes.go (fun _ k => XS.bipush X19.here hx rfl (hb hby at_344) k) ?_
      show Goes _ _ _ _ _ _ _ (T19.setTop (mkF m 346 _ [(.int (127 : Int32)), (.int ((((((p1).toUInt64 >>> ((48 : Int32) &&& 0x3f).toInt64.toUInt64).toInt64).toInt32).toInt8.toInt32 ||| (128 : Int32))).toInt8.toInt32)]))
      refine Goes.go (fun _ k => XS.iand X19.here hx rfl (hb hby at_346) rfl k) ?_
      show Goes _ _ _ _ _ _ _ (T19.setTop (mkF m 347 _ [(.int (((((((p1).toUInt64 >>> ((48 : Int32) &&& 0x3f).toInt64.toUInt64).toInt64).toInt32).toInt8.toInt32 ||| (128 : Int32))).toInt8.toInt32 &&& (127 : Int32)))]))
      refine Goes.go (fun _ k => XS.aload X19.here hx rfl (hb hby at_347) rfl rfl k) ?_
      show Goes _ _ _ _ _ _ _ (T19.setTop (mkF m 349 _ [(.ref ar21), (.int (((((((p1).toUInt64 >>> ((48 : Int32) &&& 0x3f).toInt64.toUInt64).toInt64).toInt32).toInt8.toInt32 ||| (128 : Int32))).toInt8.toInt32 &&& (127 : Int32)))]))
      refine Goes.go (fun _ k => XS.bipush X19.here hx rfl (hb hby at_349) k) ?_
      show Goes _ _ _ _ _ _ _ (T19.setTop (mkF m 351 _ [(.int (7 : Int32)), (.ref ar21), (.int (((((((p1).toUInt64 >>> ((48 : Int32) &&& 0x3f).toInt64.toUInt64).toInt64).toInt32).toInt8.toInt32 ||| (128 : Int32))).toInt8.toInt32 &&& (127 : Int32)))]))
      refine Goes.go (own_ldB X19 hx hZ rfl f_20 (j := (7 : Int32)) (v := (.int ((((((p1).toUInt64 >>> ((56 : Int32) &&& 0x3f).toInt64.toUInt64).toInt64).toInt32).toInt8.toInt32 &&& (127 : Int32))).toInt8.toInt32)) (by decide) rfl rfl rfl (hb hby at_351)) ?_
      show Goes _ _ _ _ _ _ _ (T19.setTop (mkF m 352 _ [(.int ((((((p1).toUInt64 >>> ((56 : Int32) &&& 0x3f).toInt64.toUInt64).toInt64).toInt32).toInt8.toInt32 &&& (127 : Int32))).toInt8.toInt32), (.int (((((((p1).toUInt64 >>> ((48 : Int32) &&& 0x3f).toInt64.toUInt64).toInt64).toInt32).toInt8.toInt32 ||| (128 : Int32))).toInt8.toInt32 &&& (127 : Int32)))]))
      refine Goes.go (fun _ k => XS.bipush X19.here hx rfl (hb hby at_352) k) ?_
      show Goes _ _ _ _ _ _ _ (T19.setTop (mkF m 354 _ [(.int (7 : Int32)), (.int ((((((p1).toUInt64 >>> ((56 : Int32) &&& 0x3f).toInt64.toUInt64).toInt64).toInt32).toInt8.toInt32 &&& (127 : Int32))).toInt8.toInt32), (.int (((((((p1).toUInt64 >>> ((48 : Int32) &&& 0x3f).toInt64.toUInt64).toInt64).toInt32).toInt8.toInt32 ||| (128 : Int32))).toInt8.toInt32 &&& (127 : Int32)))]))
      refine Goes.go (fun _ k => XS.ishl X19.here hx rfl (hb hby at_354) rfl k) ?_
      show Goes _ _ _ _ _ _ _ (T19.setTop (mkF m 355 _ [(.int (((((((p1).toUInt64 >>> ((56 : Int32) &&& 0x3f).toInt64.toUInt64).toInt64).toInt32).toInt8.toInt32 &&& (127 : Int32))).toInt8.toInt32 <<< ((7 : Int32) &&& 31))), (.int (((((((p1).toUInt64 >>> ((48 : Int32) &&& 0x3f).toInt64.toUInt64).toInt64).toInt32).toInt8.toInt32 ||| (128 : Int32))).toInt8.toInt32 &&& (127 : Int32)))]))
      refine Goes.go (fun _ k => XS.ior X19.here hx rfl (hb hby at_355) rfl k) ?_
      show Goes _ _ _ _ _ _ _ (T19.setTop (mkF m 356 _ [(.int ((((((((p1).toUInt64 >>> ((48 : Int32) &&& 0x3f).toInt64.toUInt64).toInt64).toInt32).toInt8.toInt32 ||| (128 : Int32))).toInt8.toInt32 &&& (127 : Int32)) ||| (((((((p1).toUInt64 >>> ((56 : Int32) &&& 0x3f).toInt64.toUInt64).toInt64).toInt32).toInt8.toInt32 &&& (127 : Int32))).toInt8.toInt32 <<< ((7 : Int32) &&& 31))))]))
      refine Goes.go (fun _ k => XS.istore X19.here hx rfl (hb hby at_356) rfl (l' := #[.val (.int p0), .val (.long p1), .second, .val (.int (3 : Int32)), .val (.int (1 : Int32)), .val (.ref ar21), .val (.int (2 : Int32)), .val (.int (3 : Int32)), .val (.ref ob224), .val (.int (1 : Int32)), .val (.int ((((((((p1).toUInt64 >>> ((48 : Int32) &&& 0x3f).toInt64.toUInt64).toInt64).toInt32).toInt8.toInt32 ||| (128 : Int32))).toInt8.toInt32 &&& (127 : Int32)) ||| (((((((p1).toUInt64 >>> ((56 : Int32) &&& 0x3f).toInt64.toUInt64).toInt64).toInt32).toInt8.toInt32 &&& (127 : Int32))).toInt8.toInt32 <<< ((7 : Int32) &&& 31))))]) rfl k) ?_
      show Goes _ _ _ _ _ _ _ (T19.setTop (mkF m 358 #[.val (.int p0), .val (.long p1), .second, .val (.int (3 : Int32)), .val (.int (1 : Int32)), .val (.ref ar21), .val (.int (2 : Int32)), .val (.int (3 : Int32)), .val (.ref ob224), .val (.int (1 : Int32)), .val (.int ((((((((p1).toUInt64 >>> ((48 : Int32) &&& 0x3f).toInt64.toUInt64).toInt64).toInt32).toInt8.toInt32 ||| (128 : Int32))).toInt8.toInt32 &&& (127 : Int32)) ||| (((((((p1).toUInt64 >>> ((56 : Int32) &&& 0x3f).toInt64.toUInt64).toInt64).toInt32).toInt8.toInt32 &&& (127 : Int32))).toInt8.toInt32 <<< ((7 : Int32) &&& 31))))] []))
      refine Goes.go (fun _ k => XS.iload X19.here hx rfl (hb hby at_358) rfl k) ?_
      show Goes _ _ _ _ _ _ _ (T19.setTop (mkF m 360 _ [(.int (1 : Int32))]))
      refine Goes.go (fun _ k => XS.ifNo X19.here hx rfl (hb hby at_360) rfl (XT.i0_eq_f (by decide)) k) ?_
      show Goes _ _ _ _ _ _ _ (T19.setTop (mkF m 363 _ []))
      refine Goes.go (fun _ k => XS.aload X19.here hx rfl (hb hby at_363) rfl rfl k) ?_
      show Goes _ _ _ _ _ _ _ (T19.setTop (mkF m 365 _ [(.ref ob224)]))
      obtain ⟨cq20, kq20, qa20, qb20, qc20⟩ := isOf hZ rfl Eq19
      obtain ⟨_, _, ⟨T20, L20, k20, n20⟩, -, X20, ⟨Lc20, hQ20, l20, y20, z20⟩, st20⟩ := X19.virtualBack hx (y := (⟨"com/example/countermand/countermand/Packed$Reader", "count", "()I"⟩ : MethodName)) (z := (⟨"com/example/countermand/countermand/Packed$Reader", "count", "()I"⟩ : MethodName)) hown (mvT hZ (hw _ (List.mem_of_getElem? (i := 19) rfl))) (mvT hZ (hw _ (List.mem_of_getElem? (i := 20) rfl))) (notFace_of_selects (args := #[]) (mvT hZ (hw _ (List.mem_of_getElem? (i := 22) rfl)))) (mvT hZ (hw _ (List.mem_of_getElem? (i := 22) rfl))) (mvT hZ (hw _ (List.mem_of_getElem? (i := 21) rfl))) (by decide) (backOf (W := 0) (rm4 l Z a0 hw [] ob224 ar21 _ (6 : Int32) [((((((p1).toUInt64 >>> ((48 : Int32) &&& 0x3f).toInt64.toUInt64).toInt64).toInt32).toInt8.toInt32 ||| (128 : Int32))).toInt8.toInt32, ((((((p1).toUInt64 >>> ((56 : Int32) &&& 0x3f).toInt64.toUInt64).toInt64).toInt32).toInt8.toInt32 &&& (127 : Int32))).toInt8.toInt32] T19.heap n0 Z19 Eq19 Fq19_0 Fq19_1 ge_ob224 f_20 ⟨by decide, rfl, own_hi8 (((((p1).toUInt64 >>> ((48 : Int32) &&& 0x3f).toInt64.toUInt64).toInt64).toInt32).toInt8), by decide, rfl, own_lo8 (((((p1).toUInt64 >>> ((56 : Int32) &&& 0x3f).toInt64.toUInt64).toInt64).toInt32).toInt8)⟩ (fit_2 _ (((((p1).toUInt64 >>> ((56 : Int32) &&& 0x3f).toInt64.toUInt64).toInt64).toInt32).toInt8))) hZ (hw _ (List.mem_of_getElem? (i := 23) rfl)) (hw _ (List.mem_of_getElem? (i := 3) rfl)) (by decide) (by decide)) qa20 qc20 (g := (mkF m 365 #[.val (.int p0), .val (.long p1), .second, .val (.int (3 : Int32)), .val (.int (1 : Int32)), .val (.ref ar21), .val (.int (2 : Int32)), .val (.int (3 : Int32)), .val (.ref ob224), .val (.int (1 : Int32)), .val (.int ((((((((p1).toUInt64 >>> ((48 : Int32) &&& 0x3f).toInt64.toUInt64).toInt64).toInt32).toInt8.toInt32 ||| (128 : Int32))).toInt8.toInt32 &&& (127 : Int32)) ||| (((((((p1).toUInt64 >>> ((56 : Int32) &&& 0x3f).toInt64.toUInt64).toInt64).toInt32).toInt8.toInt32 &&& (127 : Int32))).toInt8.toInt32 <<< ((7 : Int32) &&& 31))))] [(.ref ob224)])) rfl (by rw [hml]; rfl) (Steps.refl _) (argsL := []) (rest := []) (lenOf pd2 rfl) rfl (by show 2 * 0 + _ ≤ _; exact Nat.le_of_eq rfl) (hb hby at_365) (fun _ _ => ⟨rfl, rfl, (by decide : 2 + 0 ≤ _), (by decide : 10 + 0 ≤ _)⟩)
      dsimp only [Pt.U, Pt.locs, Pt.cells, Pt.slots] at X20 l20 y20 z20 st20 hQ20
      subst l20 y20 z20
      obtain ⟨rfl, Nq20, Kq20, Eq20, Fq20_0, Fq20_1⟩ := hQ20
      have N20 := Fr.app N19 Nq20
      have Z20 : n0 ≤ T20.heap.size := Nat.le_trans Z19 Kq20.1
      have f_21 := Arl.keep f_20 Kq20 (ninS ne_ar21_ob224 nin0)
      refine Goes.go (fun _ k => st20.trans k) ?_
      show Goes _ _ _ _ _ _ _ (T20.setTop (mkF m 368 _ [(.int (svb [((((((p1).toUInt64 >>> ((48 : Int32) &&& 0x3f).toInt64.toUInt64).toInt64).toInt32).toInt8.toInt32 ||| (128 : Int32))).toInt8.toInt32, ((((((p1).toUInt64 >>> ((56 : Int32) &&& 0x3f).toInt64.toUInt64).toInt64).toInt32).toInt8.toInt32 &&& (127 : Int32))).toInt8.toInt32] 0 0).toInt32)]))
      refine Goes.go (fun _ k => XS.iload X20.here hx rfl (hb hby at_368) rfl k) ?_
      show Goes _ _ _ _ _ _ _ (T20.setTop (mkF m 370 _ [(.int ((((((((p1).toUInt64 >>> ((48 : Int32) &&& 0x3f).toInt64.toUInt64).toInt64).toInt32).toInt8.toInt32 ||| (128 : Int32))).toInt8.toInt32 &&& (127 : Int32)) ||| (((((((p1).toUInt64 >>> ((56 : Int32) &&& 0x3f).toInt64.toUInt64).toInt64).toInt32).toInt8.toInt32 &&& (127 : Int32))).toInt8.toInt32 <<< ((7 : Int32) &&& 31)))), (.int (svb [((((((p1).toUInt64 >>> ((48 : Int32) &&& 0x3f).toInt64.toUInt64).toInt64).toInt32).toInt8.toInt32 ||| (128 : Int32))).toInt8.toInt32, ((((((p1).toUInt64 >>> ((56 : Int32) &&& 0x3f).toInt64.toUInt64).toInt64).toInt32).toInt8.toInt32 &&& (127 : Int32))).toInt8.toInt32] 0 0).toInt32)]))
      refine Goes.go (fun _ k => XS.icmpNo X20.here hx rfl (hb hby at_370) rfl (XT.ii_ne_f (val_2 _ (((((p1).toUInt64 >>> ((56 : Int32) &&& 0x3f).toInt64.toUInt64).toInt64).toInt32).toInt8))) k) ?_
      show Goes _ _ _ _ _ _ _ (T20.setTop (mkF m 373 _ []))
      refine Goes.go (fun _ k => XS.iconst X20.here hx rfl (hb hby at_373) k) ?_
      show Goes _ _ _ _ _ _ _ (T20.setTop (mkF m 374 _ [(.int (1 : Int32))]))
      refine Goes.go (fun _ k => XS.goto X20.here hx rfl (pc0 := 374) (pc' := 378) rfl (hb hby at_374) (by decide) (by decide) k) ?_
      show Goes _ _ _ _ _ _ _ (T20.setTop (mkF m 378 _ [(.int (1 : Int32))]))
      refine Goes.go (fun _ k => XS.istore X20.here hx rfl (hb hby at_378) rfl (l' := #[.val (.int p0), .val (.long p1), .second, .val (.int (3 : Int32)), .val (.int (1 : Int32)), .val (.ref ar21), .val (.int (2 : Int32)), .val (.int (3 : Int32)), .val (.ref ob224), .val (.int (1 : Int32)), .val (.int ((((((((p1).toUInt64 >>> ((48 : Int32) &&& 0x3f).toInt64.toUInt64).toInt64).toInt32).toInt8.toInt32 ||| (128 : Int32))).toInt8.toInt32 &&& (127 : Int32)) ||| (((((((p1).toUInt64 >>> ((56 : Int32) &&& 0x3f).toInt64.toUInt64).toInt64).toInt32).toInt8.toInt32 &&& (127 : Int32))).toInt8.toInt32 <<< ((7 : Int32) &&& 31))))]) rfl k) ?_
      show Goes _ _ _ _ _ _ _ (T20.setTop (mkF m 380 _ []))
      refine Goes.go (fun _ k => XS.aload X20.here hx rfl (hb hby at_380) rfl rfl k) ?_
      show Goes _ _ _ _ _ _ _ (T20.setTop (mkF m 382 _ [(.ref ob224)]))
      obtain ⟨cq21, kq21, qa21, qb21, qc21⟩ := isOf hZ rfl Eq20
      obtain ⟨_, _, ⟨T21, L21, k21, n21⟩, -, X21, ⟨Lc21, hQ21, l21, y21, z21⟩, st21⟩ := X20.virtualBack hx (y := (⟨"com/example/countermand/countermand/Packed$Reader", "end", "()V"⟩ : MethodName)) (z := (⟨"com/example/countermand/countermand/Packed$Reader", "end", "()V"⟩ : MethodName)) hown (mvT hZ (hw _ (List.mem_of_getElem? (i := 14) rfl))) (mvT hZ (hw _ (List.mem_of_getElem? (i := 15) rfl))) (notFace_of_selects (args := #[]) (mvT hZ (hw _ (List.mem_of_getElem? (i := 17) rfl)))) (mvT hZ (hw _ (List.mem_of_getElem? (i := 17) rfl))) (mvT hZ (hw _ (List.mem_of_getElem? (i := 16) rfl))) (by decide) (backOf (W := 0) (rm3 l Z a0 hw [] ob224 ar21 _ (8 : Int32) T20.heap n0 Z20 Fq20_0 Fq20_1 f_21 rfl) hZ (hw _ (List.mem_of_getElem? (i := 18) rfl)) (hw _ (List.mem_of_getElem? (i := 3) rfl)) (by decide) (by decide)) qa21 qc21 (g := (mkF m 382 #[.val (.int p0), .val (.long p1), .second, .val (.int (3 : Int32)), .val (.int (1 : Int32)), .val (.ref ar21), .val (.int (2 : Int32)), .val (.int (3 : Int32)), .val (.ref ob224), .val (.int (1 : Int32)), .val (.int ((((((((p1).toUInt64 >>> ((48 : Int32) &&& 0x3f).toInt64.toUInt64).toInt64).toInt32).toInt8.toInt32 ||| (128 : Int32))).toInt8.toInt32 &&& (127 : Int32)) ||| (((((((p1).toUInt64 >>> ((56 : Int32) &&& 0x3f).toInt64.toUInt64).toInt64).toInt32).toInt8.toInt32 &&& (127 : Int32))).toInt8.toInt32 <<< ((7 : Int32) &&& 31))))] [(.ref ob224)])) rfl (by rw [hml]; rfl) (Steps.refl _) (argsL := []) (rest := []) (lenOf pd1 rfl) rfl (by show 2 * 0 + _ ≤ _; exact Nat.le_of_eq rfl) (hb hby at_382) (fun _ _ => ⟨rfl, rfl, (by decide : 2 + 0 ≤ _), (by decide : 10 + 0 ≤ _)⟩)
      dsimp only [Pt.U, Pt.locs, Pt.cells, Pt.slots] at X21 l21 y21 z21 st21 hQ21
      subst l21 y21 z21
      obtain ⟨rfl, Nq21, hh21⟩ := hQ21
      have N21 := Fr.app N20 Nq21
      refine Goes.go (fun _ k => st21.trans k) ?_
      show Goes _ _ _ _ _ _ _ (T21.setTop (mkF m 385 _ []))
      refine Goes.go (fun _ k => XS.iload X21.here hx rfl (hb hby at_385) rfl k) ?_
      show Goes _ _ _ _ _ _ _ (T21.setTop (mkF m 387 _ [(.int (1 : Int32))]))
      exact Goes.outZ X21 hx hlk hret rfl (hb hby at_387) hh21 ⟨rfl, N21⟩ (by decide) (by decide)
set_option maxRecDepth 65536 in
set_option maxHeartbeats 40000000 in
theorem comes_1 {Post : Tables → Env → Array Value → State → Outcome → State → Prop} (hpost : ∀ tb e args s v u, (limb_1_1.after args s (.returned v) u = true ∧ limb_1_2.after args s (.returned v) u = true ∧ True) → FrameEnd s (.returned v) u (Jvm.fieldLocs frame_1_writes args s ++ Jvm.arrayLocs frame_1_arrays args s ++ Jvm.staticLocs frame_1_statics s) 16 128 → Post tb e args s (.returned v) u) :
    ArmFor flags0 classFile x code maxLocals ret World_1 tables_1 room_1 Calls_1 rest_1 Pre_1 Post := by
  intro l hfl _ _ p e ha hc hk s m args below hf hA hF happ hP
  obtain ⟨hcalls, hrest, hpre⟩ := hP
  obtain ⟨-, -, -, hnamed, -, -, -, hat⟩ := (Spec.applies_iff hf).mp happ
  obtain ⟨hg, hn⟩ := and_e (Cond.before_iff.mp (show (Jvm.Cond.and given_1 narrow_1).before args s = true from hpre))
  obtain ⟨gc, gr0⟩ := and_e hg
  obtain ⟨g0, gr1⟩ := and_e gr0
  obtain ⟨w0, w1, rfl⟩ : ∃ w0 w1 : Value, args = #[w0, w1] := by
    have hs : args.size = 2 := by simpa [Cond.value, given_1] using gc
    obtain ⟨L⟩ := args
    match L, hs with
    | [w0, w1], _ => exact ⟨w0, w1, rfl⟩
  have hw := fun d (hd : d ∈ tables_1) => atoms_spec (ws := Jvm.Cond.code x code maxLocals ret :: tables_1) hat d (List.mem_cons_of_mem _ hd)
  obtain ⟨i0, ei0⟩ := is_v g0
  obtain rfl : w0 = (.int i0) := Option.some.inj ei0
  obtain ⟨i1, ei1⟩ := isL_v gr1
  obtain rfl : w1 = (.long i1) := Option.some.inj ei1
  obtain ⟨n, o, h1, h2, h3, _, L, rfl, ⟨rfl, N⟩, hq⟩ := rm0 l s _ hw tables_1 i0 i1 s.heap s.heap.size (Nat.le_refl _)  p e ha hc hk s m _ below hf ((Spec.applies_iff_loose hf).mp happ).1 ⟨rfl, State.Warmed39.refl s, rfl⟩ trivial
  refine ⟨n, _, h1, h2, h3, hpost _ _ _ _ _ _ ⟨Cond.after_iff.mpr rfl, Cond.after_iff.mpr (eq_i res_at (Term.int_eval (1)) rfl), trivial⟩ ⟨hq.1, hq.2.1, (hq.2.2.sift fun y hy => Or.inr (N y hy)).mono (by decide) (by decide)⟩⟩
theorem main_1_1 : Claimed_1_1 := comes_1 fun _ _ _ _ _ _ h hF => ⟨h.1, hF⟩
theorem main_1_2 : Claimed_1_2 := comes_1 fun _ _ _ _ _ _ h hF => ⟨h.2.1, hF⟩
end Jvm.Pilot.@@N@@
namespace Jvm.Pilot.@@N@@
open Jvm Jvm.ClassFile Sem Op Lib Jvm.Free Jvm.Stand Jvm.Pilot.@@N@@.Jvm.D
/-! MADE BY PROGRAM (witnessworld.py) out of the Statement's table words and the real class files: 10 classes; the members and pool entries that the words name. The judged class is class 1, her method 1. -/
namespace start1
open Jvm.ClassFile
def u (s : String) : CpInfo := .utf8 (stringToUtf16 s)
/-- a pool by its gaps: so many unusable entries, then the entry; so many at the end -/
def gap : Nat → List CpInfo → List CpInfo
  | 0, r => r
  | n + 1, r => .unusable :: gap n r
def poolList (es : List (Nat × CpInfo)) (last : Nat) : List CpInfo := es.foldr (fun e r => gap e.1 (e.2 :: r)) (gap last [])
def pool (es : List (Nat × CpInfo)) (last : Nat) : Array CpInfo := ⟨poolList es last⟩
def fileOf (pool : Array CpInfo) (this : Nat) (attrs : Array Attribute := #[]) (ms : Array MethodInfo := #[]) (fl : Nat := 33) (sup : Nat := 0) (ifs : Array Nat := #[]) (fds : Array FieldInfo := #[]) : ClassFile where
  minorVersion := 0
  majorVersion := 65
  constantPool := pool
  accessFlags := fl
  thisClass := this
  superClass := sup
  interfaces := ifs
  fields := fds
  methods := ms
  attributes := attrs
def plain (name : String) (sup : Option ClassId) : Class where
  name := name
  kind := .ordinary
  loader := none
  accessFlags := 33
  super := sup
  interfaces := #[]
  cf := none
  fields := #[]
  methods := #[]
  instanceTypes := #[]
  staticTypes := #[]
  resolved := #[]
  callSites := []
  init := .initialized
  statics := none
  mirror := none

def pool0 : Array CpInfo := pool [(5, u "<init>"), (0, u "()V"), (1, .class_ 10), (1, u "java/lang/Object")] 113

def k0c0 : Code := { maxStack := 0, maxLocals := 1, code := object_method_1_code, exceptionTable := #[], attributes := #[] }
def k0m0 : Method := { name := "<init>", desc := "()V", sig := { parameters := [], returnType := none }, accessFlags := 1, code := some k0c0 }
/-- java/lang/Object -/
def k0 : Class := { plain "java/lang/Object" none with
  accessFlags := 33
  interfaces := #[]
  cf := some (fileOf pool0 8 #[] #[{ accessFlags := 1, nameIndex := 5, descriptorIndex := 6, attributes := #[] }] 33 0 #[] #[])
  fields := #[]
  methods := #[k0m0]
  instanceTypes := #[]
  staticTypes := #[]
  resolved := Array.replicate 124 none
  statics := none }

def pool1 : Array CpInfo := pool [(2, .class_ 4), (1, u "java/lang/Object"), (0, u "<init>"), (0, u "()V"), (0, .class_ 8), (0, u "com/example/countermand/countermand/Packed$Reader"), (0, .methodref 7 10), (0, .nameAndType 5 11), (0, u "([BI)V"), (0, .methodref 7 13), (0, .nameAndType 14 15), (0, u "count"), (0, u "()I"), (0, .methodref 7 17), (0, .nameAndType 18 6), (0, u "end"), (0, .class_ 20), (0, u "com/example/countermand/countermand/ReaderEndPinLaw"), (2, u "law"), (0, u "(IJ)Z")] 9

def k1m0 : Method := { name := "<init>", desc := "()V", sig := { parameters := [], returnType := none }, accessFlags := 2, code := none }
def k1c1 : Code := { maxStack := 5, maxLocals := 11, code := code, exceptionTable := #[], attributes := #[] }
def k1m1 : Method := { name := "law", desc := "(IJ)Z", sig := { parameters := [.int, .long], returnType := some .boolean }, accessFlags := 9, code := some k1c1 }
/-- com/example/countermand/countermand/ReaderEndPinLaw -/
def k1 : Class := { plain "com/example/countermand/countermand/ReaderEndPinLaw" (some 0) with
  accessFlags := 49
  interfaces := #[]
  cf := some (fileOf pool1 19 #[] #[{ accessFlags := 2, nameIndex := 5, descriptorIndex := 6, attributes := #[] }, { accessFlags := 9, nameIndex := 23, descriptorIndex := 24, attributes := #[] }] 49 2 #[] #[])
  fields := #[]
  methods := #[k1m0, k1m1]
  instanceTypes := #[]
  staticTypes := #[]
  resolved := Array.replicate 34 none
  statics := none }

def pool2 : Array CpInfo := pool [(1, .methodref 2 3), (0, .class_ 4), (0, .nameAndType 5 6), (0, u "java/lang/Object"), (0, u "<init>"), (0, u "()V"), (0, .fieldref 8 9), (0, .class_ 10), (0, .nameAndType 11 12), (0, u "com/example/countermand/countermand/Packed$Reader"), (0, u "in"), (0, u "[B"), (0, .fieldref 8 14), (0, .nameAndType 15 16), (0, u "position"), (0, u "I"), (0, .methodref 8 18), (0, .nameAndType 19 20), (0, u "sevenBits"), (0, u "()J"), (0, .methodref 22 23), (0, .class_ 24), (0, .nameAndType 25 26), (0, u "java/lang/Math"), (0, u "toIntExact"), (0, u "(J)I"), (29, u "([BI)V"), (3, u "count"), (0, u "()I"), (4, u "end"), (5, .class_ 73), (0, u "com/example/countermand/countermand/Packed")] 16

def k2c0 : Code := { maxStack := 2, maxLocals := 3, code := prog_31_method_1_code, exceptionTable := #[], attributes := #[] }
def k2m0 : Method := { name := "<init>", desc := "([BI)V", sig := { parameters := [(.array .byte), .int], returnType := none }, accessFlags := 0, code := some k2c0 }
def k2c1 : Code := { maxStack := 2, maxLocals := 1, code := prog_31_method_3_code, exceptionTable := #[], attributes := #[] }
def k2m1 : Method := { name := "count", desc := "()I", sig := { parameters := [], returnType := some .int }, accessFlags := 0, code := some k2c1 }
def k2c2 : Code := { maxStack := 4, maxLocals := 1, code := prog_31_method_6_code, exceptionTable := #[], attributes := #[] }
def k2m2 : Method := { name := "end", desc := "()V", sig := { parameters := [], returnType := none }, accessFlags := 0, code := some k2c2 }
def k2c3 : Code := { maxStack := 5, maxLocals := 5, code := prog_31_method_8_code, exceptionTable := #[], attributes := #[] }
def k2m3 : Method := { name := "sevenBits", desc := "()J", sig := { parameters := [], returnType := some .long }, accessFlags := 2, code := some k2c3 }
/-- com/example/countermand/countermand/Packed$Reader -/
def k2 : Class := { plain "com/example/countermand/countermand/Packed$Reader" (some 0) with
  accessFlags := 32
  interfaces := #[]
  cf := some (fileOf pool2 8 #[.nestHost 72] #[{ accessFlags := 0, nameIndex := 5, descriptorIndex := 56, attributes := #[] }, { accessFlags := 0, nameIndex := 60, descriptorIndex := 61, attributes := #[] }, { accessFlags := 0, nameIndex := 66, descriptorIndex := 6, attributes := #[] }, { accessFlags := 2, nameIndex := 19, descriptorIndex := 20, attributes := #[] }] 32 2 #[] #[{ accessFlags := 18, nameIndex := 11, descriptorIndex := 12, attributes := #[] }, { accessFlags := 2, nameIndex := 15, descriptorIndex := 16, attributes := #[] }])
  fields := #[{ name := "in", type := (.array .byte), accessFlags := 18, slot := 0, constantValue := 0 }, { name := "position", type := .int, accessFlags := 2, slot := 1, constantValue := 0 }]
  methods := #[k2m0, k2m1, k2m2, k2m3]
  instanceTypes := #[(.array .byte), .int]
  staticTypes := #[]
  resolved := Array.replicate 90 none
  statics := none }

def pool3 : Array CpInfo := pool [(1, .class_ 2), (0, u "java/lang/Math"), (1, .class_ 6), (1, u "java/lang/Object"), (0, u "<init>"), (0, u "()V"), (89, .class_ 100), (1, u "java/lang/Math$RandomNumberGeneratorHolder"), (71, u "negativeZeroFloatBits"), (0, u "J"), (2, u "negativeZeroDoubleBits"), (68, u "$assertionsDisabled"), (0, u "Z"), (91, u "twoToTheDoubleScaleDown"), (0, u "D"), (4, u "twoToTheDoubleScaleUp"), (9, u "E"), (3, u "PI"), (2, u "TAU"), (2, u "DEGREES_TO_RADIANS"), (0, u "RADIANS_TO_DEGREES"), (39, u "toIntExact"), (0, u "(J)I")] 53

def k3m0 : Method := { name := "<init>", desc := "()V", sig := { parameters := [], returnType := none }, accessFlags := 2, code := none }
def k3c1 : Code := { maxStack := 4, maxLocals := 2, code := jdk_29_method_43_code, exceptionTable := #[], attributes := #[] }
def k3m1 : Method := { name := "toIntExact", desc := "(J)I", sig := { parameters := [.long], returnType := some .int }, accessFlags := 9, code := some k3c1 }
/-- java/lang/Math -/
def k3 : Class := { plain "java/lang/Math" (some 0) with
  accessFlags := 49
  interfaces := #[]
  cf := some (fileOf pool3 1 #[.nestMembers #[98]] #[{ accessFlags := 2, nameIndex := 7, descriptorIndex := 8, attributes := #[] }, { accessFlags := 9, nameIndex := 405, descriptorIndex := 406, attributes := #[] }] 49 4 #[] #[{ accessFlags := 25, nameIndex := 354, descriptorIndex := 339, attributes := #[] }, { accessFlags := 25, nameIndex := 358, descriptorIndex := 339, attributes := #[] }, { accessFlags := 25, nameIndex := 361, descriptorIndex := 339, attributes := #[] }, { accessFlags := 26, nameIndex := 364, descriptorIndex := 339, attributes := #[] }, { accessFlags := 26, nameIndex := 365, descriptorIndex := 339, attributes := #[] }, { accessFlags := 26, nameIndex := 172, descriptorIndex := 173, attributes := #[] }, { accessFlags := 26, nameIndex := 176, descriptorIndex := 173, attributes := #[] }, { accessFlags := 8, nameIndex := 344, descriptorIndex := 339, attributes := #[] }, { accessFlags := 8, nameIndex := 338, descriptorIndex := 339, attributes := #[] }, { accessFlags := 4120, nameIndex := 245, descriptorIndex := 246, attributes := #[] }])
  fields := #[{ name := "E", type := .double, accessFlags := 25, slot := 0, constantValue := 0 }, { name := "PI", type := .double, accessFlags := 25, slot := 1, constantValue := 0 }, { name := "TAU", type := .double, accessFlags := 25, slot := 2, constantValue := 0 }, { name := "DEGREES_TO_RADIANS", type := .double, accessFlags := 26, slot := 3, constantValue := 0 }, { name := "RADIANS_TO_DEGREES", type := .double, accessFlags := 26, slot := 4, constantValue := 0 }, { name := "negativeZeroFloatBits", type := .long, accessFlags := 26, slot := 5, constantValue := 0 }, { name := "negativeZeroDoubleBits", type := .long, accessFlags := 26, slot := 6, constantValue := 0 }, { name := "twoToTheDoubleScaleUp", type := .double, accessFlags := 8, slot := 7, constantValue := 0 }, { name := "twoToTheDoubleScaleDown", type := .double, accessFlags := 8, slot := 8, constantValue := 0 }, { name := "$assertionsDisabled", type := .boolean, accessFlags := 4120, slot := 9, constantValue := 0 }]
  methods := #[k3m0, k3m1]
  instanceTypes := #[]
  staticTypes := #[.double, .double, .double, .double, .double, .long, .long, .double, .double, .boolean]
  resolved := Array.replicate 460 none
  statics := none }

def pool4 : Array CpInfo := pool [(1, u "java/lang/Cloneable"), (0, .class_ 1), (0, u "java/lang/Object"), (0, .class_ 3)] 3

/-- java/lang/Cloneable -/
def k4 : Class := { plain "java/lang/Cloneable" (some 0) with
  accessFlags := 1537
  interfaces := #[]
  cf := some (fileOf pool4 2 #[] #[] 1537 4 #[] #[])
  fields := #[]
  methods := #[]
  instanceTypes := #[]
  staticTypes := #[]
  resolved := Array.replicate 8 none
  statics := none }

def pool5 : Array CpInfo := pool [(1, u "java/io/Serializable"), (0, .class_ 1), (0, u "java/lang/Object"), (0, .class_ 3)] 3

/-- java/io/Serializable -/
def k5 : Class := { plain "java/io/Serializable" (some 0) with
  accessFlags := 1537
  interfaces := #[]
  cf := some (fileOf pool5 2 #[] #[] 1537 4 #[] #[])
  fields := #[]
  methods := #[]
  instanceTypes := #[]
  staticTypes := #[]
  resolved := Array.replicate 8 none
  statics := none }

/-- the primitive byte -/
def k6 : Class := { plain "byte" none with kind := .primitive 'B', accessFlags := 0x411 }
/-- [B -/
def k7 : Class := { plain "[B" (some 0) with kind := .array 6 .byte, interfaces := #[4, 5], accessFlags := 1041 }

/-- the primitive int -/
def k8 : Class := { plain "int" none with kind := .primitive 'I', accessFlags := 0x411 }
/-- [I -/
def k9 : Class := { plain "[I" (some 0) with kind := .array 8 .int, interfaces := #[4, 5], accessFlags := 1041 }

def heap : Heap := #[]
def classes : Array Class := #[k0, k1, k2, k3, k4, k5, k6, k7, k8, k9]
def interned : List (Array UInt16 × Addr) := []
def slotsUsed : Nat := 0
def theMethod : MethodId := ⟨1, 1⟩
def args0 : Array Value := #[.int 5, .long 77]
def aboutOver (below : List Frame) : State where
  vm := { classes := classes, interned := interned.toArray }
  heap := heap
  slotsUsed := slotsUsed
  threads := #[{ frames := .invoking theMethod args0 :: below }]
def below0 : List Frame := [.native { method := ⟨0, 0⟩, args := #[] }]
def about1 : State := aboutOver below0
def p0 : Program := .bare "" "" ""
def e0 : Env := launch0.env 0 0 0
theorem w_frames : about1.frames = Frame.invoking theMethod args0 :: below0 := rfl
set_option maxRecDepth 65536 in
theorem w_args : argsFit about1.vm theMethod args0 = true := by decide +kernel
set_option maxRecDepth 65536 in
theorem w_heap : heapFits about1 = true := by decide +kernel
set_option maxRecDepth 65536 in
theorem w_runnable : about1.curStatus? = some .runnable := by decide +kernel
set_option maxRecDepth 65536 in
theorem w_alone : about1.alone = true := by decide +kernel
set_option maxRecDepth 65536 in
theorem w_named : about1.methodNamed? x = some theMethod := by decide +kernel
set_option maxRecDepth 65536 in
theorem w_hears : about1.hears theMethod below0 = true := by decide +kernel
set_option maxRecDepth 65536 in
theorem w_ripe : about1.ripe theMethod args0 below0 = true := by decide +kernel
theorem w_running : about1.status = .running := rfl
set_option maxRecDepth 65536 in
theorem w_room : about1.hasRoom e0.platform room_1 = true :=
  launch0.hasRoom_least _ room_1 (by decide +kernel) (by decide +kernel) (by decide +kernel) (by decide +kernel) (by decide +kernel) (by decide +kernel)
theorem allAtoms_all (ts : List Jvm.Cond) (a : Array Jvm.Value) (st : Jvm.State) : (allAtoms ts).before a st = ts.all (fun c => c.before a st) := by
  induction ts with
  | nil => rfl
  | cons c t ih =>
    show (Jvm.Cond.and c (allAtoms t)).before a st = _
    rw [Jvm.Cond.before_and, ih, List.all_cons]
def words1 : List Jvm.Cond := Jvm.Cond.code x code maxLocals ret :: tables_1
/-- a 'code' word, met by the world's own term for the bytes: nothing is compared byte by byte -/
theorem code_word {y : MethodName} {bytes : ByteArray} {mx : Nat} {rt : Option FieldType} {a : Array Value} {s : State} {m : MethodId} {meth : Method} {c : Code} (h1 : s.methodNamed? y = some m) (h2 : s.vm.method? m = some meth) (h3 : meth.code = some c) (h4 : c.code = bytes)
    (h5 : (c.maxLocals == mx && c.exceptionTable.isEmpty && decide (c.maxStack ≤ mostOperands) && decide (meth.sig.returnType = rt) && !meth.locks && decide (parseMethodDescriptor y.desc = some meth.sig)) = true) : (Jvm.Cond.code y bytes mx rt).before a s = true := by
  simp only [Bool.and_eq_true, beq_iff_eq, Bool.not_eq_true', decide_eq_true_eq] at h5
  obtain ⟨⟨⟨⟨⟨g1, g2⟩, g3⟩, g4⟩, g5⟩, g6⟩ := h5
  simp [Cond.before, Cond.holds, Cond.value, h1, h2, h3, h4, g1, g2, g3, g4, g5, g6]
def isCode : Jvm.Cond → Bool
  | .code _ _ _ _ => true
  | _ => false
theorem all_split {L : List Jvm.Cond} {P : Jvm.Cond → Bool} (h1 : L.all (fun c => isCode c || P c) = true) (h2 : ∀ c ∈ L.filter isCode, P c = true) : L.all P = true := by
  refine List.all_eq_true.mpr fun c hc => ?_
  have h := List.all_eq_true.mp h1 c hc
  rcases Bool.eq_false_or_eq_true (isCode c) with hi | hi
  · exact h2 c (List.mem_filter.mpr ⟨hc, hi⟩)
  · simpa [hi] using h
set_option maxRecDepth 65536 in
theorem w_c0 : (Jvm.Cond.code x code maxLocals ret).before args0 about1 = true := code_word (m := ⟨1, 1⟩) (meth := k1m1) (c := k1c1) (by decide +kernel) rfl rfl rfl (by decide +kernel)
set_option maxRecDepth 65536 in
theorem w_c1 : (Jvm.Cond.code ({ cls := "com/example/countermand/countermand/Packed$Reader", name := "<init>", desc := "([BI)V" } : Jvm.MethodName) prog_31_method_1_code (3 : Nat) (Option.none : Option Jvm.ClassFile.FieldType)).before args0 about1 = true := code_word (m := ⟨2, 0⟩) (meth := k2m0) (c := k2c0) (by decide +kernel) rfl rfl rfl (by decide +kernel)
set_option maxRecDepth 65536 in
theorem w_c2 : (Jvm.Cond.code ({ cls := "java/lang/Object", name := "<init>", desc := "()V" } : Jvm.MethodName) object_method_1_code (1 : Nat) (Option.none : Option Jvm.ClassFile.FieldType)).before args0 about1 = true := code_word (m := ⟨0, 0⟩) (meth := k0m0) (c := k0c0) (by decide +kernel) rfl rfl rfl (by decide +kernel)
set_option maxRecDepth 65536 in
theorem w_c3 : (Jvm.Cond.code ({ cls := "com/example/countermand/countermand/Packed$Reader", name := "end", desc := "()V" } : Jvm.MethodName) prog_31_method_6_code (1 : Nat) (Option.none : Option Jvm.ClassFile.FieldType)).before args0 about1 = true := code_word (m := ⟨2, 2⟩) (meth := k2m2) (c := k2c2) (by decide +kernel) rfl rfl rfl (by decide +kernel)
set_option maxRecDepth 65536 in
theorem w_c4 : (Jvm.Cond.code ({ cls := "com/example/countermand/countermand/Packed$Reader", name := "count", desc := "()I" } : Jvm.MethodName) prog_31_method_3_code (1 : Nat) (Option.some Jvm.ClassFile.FieldType.int)).before args0 about1 = true := code_word (m := ⟨2, 1⟩) (meth := k2m1) (c := k2c1) (by decide +kernel) rfl rfl rfl (by decide +kernel)
set_option maxRecDepth 65536 in
theorem w_c5 : (Jvm.Cond.code ({ cls := "com/example/countermand/countermand/Packed$Reader", name := "sevenBits", desc := "()J" } : Jvm.MethodName) prog_31_method_8_code (5 : Nat) (Option.some Jvm.ClassFile.FieldType.long)).before args0 about1 = true := code_word (m := ⟨2, 3⟩) (meth := k2m3) (c := k2c3) (by decide +kernel) rfl rfl rfl (by decide +kernel)
set_option maxRecDepth 65536 in
theorem w_c6 : (Jvm.Cond.code ({ cls := "java/lang/Math", name := "toIntExact", desc := "(J)I" } : Jvm.MethodName) jdk_29_method_43_code (2 : Nat) (Option.some Jvm.ClassFile.FieldType.int)).before args0 about1 = true := code_word (m := ⟨3, 1⟩) (meth := k3m1) (c := k3c1) (by decide +kernel) rfl rfl rfl (by decide +kernel)
def codes1 : List Jvm.Cond := [Jvm.Cond.code x code maxLocals ret, Jvm.Cond.code ({ cls := "com/example/countermand/countermand/Packed$Reader", name := "<init>", desc := "([BI)V" } : Jvm.MethodName) prog_31_method_1_code (3 : Nat) (Option.none : Option Jvm.ClassFile.FieldType), Jvm.Cond.code ({ cls := "java/lang/Object", name := "<init>", desc := "()V" } : Jvm.MethodName) object_method_1_code (1 : Nat) (Option.none : Option Jvm.ClassFile.FieldType), Jvm.Cond.code ({ cls := "com/example/countermand/countermand/Packed$Reader", name := "end", desc := "()V" } : Jvm.MethodName) prog_31_method_6_code (1 : Nat) (Option.none : Option Jvm.ClassFile.FieldType), Jvm.Cond.code ({ cls := "com/example/countermand/countermand/Packed$Reader", name := "count", desc := "()I" } : Jvm.MethodName) prog_31_method_3_code (1 : Nat) (Option.some Jvm.ClassFile.FieldType.int), Jvm.Cond.code ({ cls := "com/example/countermand/countermand/Packed$Reader", name := "sevenBits", desc := "()J" } : Jvm.MethodName) prog_31_method_8_code (5 : Nat) (Option.some Jvm.ClassFile.FieldType.long), Jvm.Cond.code ({ cls := "java/lang/Math", name := "toIntExact", desc := "(J)I" } : Jvm.MethodName) jdk_29_method_43_code (2 : Nat) (Option.some Jvm.ClassFile.FieldType.int)]
set_option maxRecDepth 65536 in
theorem codes_eq : words1.filter isCode = codes1 := rfl
theorem w_codes : ∀ c ∈ words1.filter isCode, c.before args0 about1 = true := by
  rw [codes_eq]
  intro c hc
  simp only [codes1, List.mem_cons, List.not_mem_nil, or_false] at hc
  rcases hc with rfl | rfl | rfl | rfl | rfl | rfl | rfl
  · exact w_c0
  · exact w_c1
  · exact w_c2
  · exact w_c3
  · exact w_c4
  · exact w_c5
  · exact w_c6
set_option maxRecDepth 65536 in
theorem w_t1 : (words1.take 24).all (fun c => isCode c || c.before args0 about1) = true := by decide +kernel
set_option maxRecDepth 65536 in
theorem w_t2 : (words1.drop 24).all (fun c => isCode c || c.before args0 about1) = true := by decide +kernel
theorem w_tables : (allAtoms (Jvm.Cond.code x code maxLocals ret :: tables_1)).before args0 about1 = true := by
  rw [allAtoms_all]
  show words1.all (fun c => c.before args0 about1) = true
  refine all_split ?_ w_codes
  rw [← List.take_append_drop 24 words1, List.all_append, w_t1, w_t2]
  rfl
set_option maxRecDepth 65536 in
theorem w_case : (Jvm.Cond.and given_1 narrow_1).before args0 about1 = true := by decide +kernel
theorem w_applies : (headSpec (Jvm.Cond.code x code maxLocals ret :: tables_1) room_1).applies x e0.platform about1 = true :=
  (Spec.applies_iff w_frames).mpr ⟨w_running, w_runnable, w_alone, w_named, w_hears, w_ripe, w_room, w_tables⟩
theorem atStart : AtStart classFile x code maxLocals ret World_1 tables_1 room_1 Calls_1 rest_1 Pre_1 launch0 p0 e0 about1 theMethod args0 below0 :=
  ⟨lists_1, trivial, launch0.admits_env _ _ _, launch0.least_env, fairChoices_fair.cas, fairChoices_fair.clock, w_frames, w_args, w_heap, w_applies, trivial, trivial, w_case⟩
end start1
theorem witness_1 : WitnessClaimed_1 := ⟨start1.p0, start1.e0, start1.about1, start1.theMethod, start1.args0, start1.below0, start1.atStart⟩
end Jvm.Pilot.@@N@@
