import JvmDerived
import JvmDerived.Pilot.@@N@@Statement
import JvmDerived.Pilot.@@N@@Code
set_option linter.unusedVariables false
set_option linter.unusedSimpArgs false
namespace Jvm.Pilot.@@N@@
open Jvm Jvm.ClassFile Sem Op Lib Jvm.Free Jvm.Stand Jvm.LawKit Jvm.RoadKit Bundle Jvm.Pilot.@@N@@.Jvm.D
section Own
variable {p : Program} {l : Launch} {e : Env} {R : Room} {s : State} {m : MethodId} {args : Array Value} {below : List Frame} {meth : Method} {c : Code} {T : State} {locs : List Loc} {cells slots : Nat} {Z : State} {a0 : Array Value} {h h' : Heap} {Q : Option Value → Heap → List Loc → Prop} {k n : Nat}
/-- from U the walk comes to a return of which Q holds -/
def Goes (p : Program) (e : Env) (below : List Frame) (s : State) (Q : Option Value → Heap → List Loc → Prop) (k n : Nat) (U : State) : Prop :=
  ∃ s₂ o, Steps p.tables e below U s₂ ∧ s₂.status = .running ∧ Ended s₂ below o ∧ ∃ v L, o = .returned v ∧ Q v s₂.heap L ∧ FrameEnd s o s₂ L k n
theorem Goes.go {U U' : State} (h : ∀ t, Steps p.tables e below U' t → Steps p.tables e below U t) (r : Goes p e below s Q k n U') : Goes p e below s Q k n U := by
  obtain ⟨s₂, o, h1, r⟩ := r
  exact ⟨s₂, o, h _ h1, r⟩
theorem Goes.outI (X : Stand p l e R s m args below meth c T locs cells slots) (hx : p.tables.exec = Jvm.exec) (hlk : meth.locks = false) (hret : meth.sig.returnType = some .int) {pc : Nat} {Ls : Array Slot} {z : Int32} (hd : decode c.code pc = .ok (.ireturn, 1)) (eT : T.heap = h) (hq : Q (some (.int z)) h locs) (hk : cells ≤ k) (hn : slots ≤ n) :
    Goes p e below s Q k n (T.setTop (mkF m pc Ls [.int z])) := by
  obtain ⟨fs, hr, hrun, hended, hW, hsame⟩ := X.leave (v := some (.int z)) (fun h => by rw [hret] at h; cases h) hlk
  refine ⟨_, _, X.ireturnOut hx hret rfl (Or.inl rfl) hd hr, hrun, hended, _, _, rfl, ?_, ⟨_, rfl⟩, hW, hsame.mono hk hn⟩
  show Q _ T.heap _
  rw [eT]; exact hq
theorem Goes.outZ (X : Stand p l e R s m args below meth c T locs cells slots) (hx : p.tables.exec = Jvm.exec) (hlk : meth.locks = false) (hret : meth.sig.returnType = some .boolean) {pc : Nat} {Ls : Array Slot} {z : Int32} (hz : narrow .boolean (.int z) = .int z) (hd : decode c.code pc = .ok (.ireturn, 1)) (eT : T.heap = h) (hq : Q (some (.int z)) h locs) (hk : cells ≤ k) (hn : slots ≤ n) :
    Goes p e below s Q k n (T.setTop (mkF m pc Ls [.int z])) := by
  obtain ⟨fs, hr, hrun, hended, hW, hsame⟩ := X.leave (v := some (.int z)) (fun h => by rw [hret] at h; cases h) hlk
  refine ⟨_, _, X.ireturnOut hx hret hz (Or.inr (Or.inl rfl)) hd hr, hrun, hended, _, _, rfl, ?_, ⟨_, rfl⟩, hW, hsame.mono hk hn⟩
  show Q _ T.heap _
  rw [eT]; exact hq
theorem Goes.outJ (X : Stand p l e R s m args below meth c T locs cells slots) (hx : p.tables.exec = Jvm.exec) (hlk : meth.locks = false) (hret : meth.sig.returnType = some .long) {pc : Nat} {Ls : Array Slot} {z : Int64} (hd : decode c.code pc = .ok (.lreturn, 1)) (eT : T.heap = h) (hq : Q (some (.long z)) h locs) (hk : cells ≤ k) (hn : slots ≤ n) :
    Goes p e below s Q k n (T.setTop (mkF m pc Ls [.long z])) := by
  obtain ⟨fs, hr, hrun, hended, hW, hsame⟩ := X.leave (v := some (.long z)) (fun h => by rw [hret] at h; cases h) hlk
  refine ⟨_, _, X.lreturnOut hx hret hd hr, hrun, hended, _, _, rfl, ?_, ⟨_, rfl⟩, hW, hsame.mono hk hn⟩
  show Q _ T.heap _
  rw [eT]; exact hq
theorem Goes.outA (X : Stand p l e R s m args below meth c T locs cells slots) (hx : p.tables.exec = Jvm.exec) (hlk : meth.locks = false) {t : FieldType} (hret : meth.sig.returnType = some t) (ht : t.isReference = true) {pc : Nat} {Ls : Array Slot} {w : Value} (hw : w.isRef = true) (hd : decode c.code pc = .ok (.areturn, 1)) (eT : T.heap = h) (hq : Q (some w) h locs) (hk : cells ≤ k) (hn : slots ≤ n) :
    Goes p e below s Q k n (T.setTop (mkF m pc Ls [w])) := by
  obtain ⟨fs, hr, hrun, hended, hW, hsame⟩ := X.leave (v := some w) (fun h => by rw [hret] at h; cases h) hlk
  refine ⟨_, _, X.areturnOut hx hw hret ht hd hr, hrun, hended, _, _, rfl, ?_, ⟨_, rfl⟩, hW, hsame.mono hk hn⟩
  show Q _ T.heap _
  rw [eT]; exact hq
theorem Goes.outV (X : Stand p l e R s m args below meth c T locs cells slots) (hx : p.tables.exec = Jvm.exec) (hlk : meth.locks = false) (hret : meth.sig.returnType = none) {pc : Nat} {Ls : Array Slot} (hd : decode c.code pc = .ok (.return_, 1)) (eT : T.heap = h) (hq : Q none h locs) (hk : cells ≤ k) (hn : slots ≤ n) :
    Goes p e below s Q k n (T.setTop (mkF m pc Ls [])) := by
  obtain ⟨fs, hr, hrun, hended, hW, hsame⟩ := X.leave (v := none) (fun _ => rfl) hlk
  refine ⟨_, _, X.returnOut hx hret hd hr, hrun, hended, _, _, rfl, ?_, ⟨_, rfl⟩, hW, hsame.mono hk hn⟩
  show Q _ T.heap _
  rw [eT]; exact hq
/-- an array, by the list of what it holds -/
def Arl (Z : State) (h : Heap) (a : Addr) (ty : FieldType) (vs : List Value) : Prop := ∃ c : Cell, Arr Z h a c ty ∧ c.slots.toList = vs
section Arls
variable {a b : Addr} {ty : FieldType} {vs : List Value} {v : Value} {sl : Nat} {ws : List Addr} {j : Int32}
theorem Arl.lt (F : Arl Z h a ty vs) : a < h.size := by obtain ⟨c, A, -⟩ := F; exact A.lt
theorem Arl.ext (F : Arl Z h a ty vs) (E : Ext h h') : Arl Z h' a ty vs := by obtain ⟨c, A, r⟩ := F; exact ⟨c, A.ext E, r⟩
theorem Arl.other (F : Arl Z h b ty vs) (W : Wr h h' a sl v) (q : b ≠ a) : Arl Z h' b ty vs := by obtain ⟨c, A, r⟩ := F; exact ⟨c, A.other W q, r⟩
theorem Arl.keep (F : Arl Z h a ty vs) (K : Keep h h' ws) (q : a ∉ ws) : Arl Z h' a ty vs := by obtain ⟨c, A, r⟩ := F; exact ⟨c, ⟨K.2.1 a c A.1 q, A.2⟩, r⟩
theorem Arl.set (F : Arl Z h a ty vs) (W : Wr h h' a sl v) : Arl Z h' a ty (vs.set sl v) := by
  obtain ⟨c, A, r⟩ := F
  refine ⟨_, A.same W, ?_⟩
  subst r
  simp [Cell.setSlot]
theorem Arl.eq {vs' : List Value} (F : Arl Z h a ty vs) (e : vs = vs') : Arl Z h a ty vs' := e ▸ F
theorem own_in {c : Cell} (r : c.slots.toList = vs) (h0 : ¬ j < 0) (h1 : j.toNatClampNeg < vs.length) : ¬ (j < 0 ∨ c.slots.size ≤ j.toNatClampNeg) := by
  subst r
  intro q
  rcases q with q | q
  · exact h0 q
  · rw [Array.length_toList] at h1; omega
theorem own_lt (hv : vs[sl]? = some v) : sl < vs.length := (List.getElem?_eq_some_iff.mp hv).1
end Arls
theorem own_ati {xs : List Int32} {j : Nat} {w : Int32} (h : xs[j]? = some w) : (xs.map Value.int)[j]? = some (.int w) := by
  rw [List.getElem?_map, h]; rfl
theorem own_lni {xs : List Int32} {j k : Nat} (hl : xs.length = k) (h : j < k) : j < (xs.map Value.int).length := by
  rw [List.length_map, hl]; exact h
theorem own_sti {a : Addr} {xs : List Int32} {j : Nat} {w : Int32} (A : Arl Z h a .int ((xs.map Value.int).set j (.int w))) : Arl Z h a .int ((xs.set j w).map Value.int) := A.eq List.map_set.symm
theorem own_selP {C : String} {y y' : MethodName} (hs : (Cond.selects C y' y').before args s = true) (hcls : y'.cls = y.cls) (hpriv : s.PrivateAt y) (hinst : (Cond.instanceMethod y).before args s = true) (hy : y.cls ≠ "java/lang/invoke/MethodHandle" ∧ y.cls ≠ "java/lang/invoke/VarHandle") : (Cond.selects y.cls y y).before args s = true := by
  obtain ⟨c2, r2, m2, -, -, q3, -, kP, hkP, hkPi⟩ := Cond.selects_spec hs
  have hc : s.vm.findClass y.cls = some m2.cls := hcls ▸ findClass_of_methodNamed q3
  exact selects_self_of_private hc hkP hkPi hpriv hinst hy
theorem own_neA {a b : Addr} {C : String} {k : Nat} {ty : FieldType} {vs : List Value} (F : Exa Z h a C) (wi : (Cond.instantiable C k).before a0 Z = true) (G : Arl Z h b ty vs) : a ≠ b := by
  obtain ⟨c', A', -⟩ := G
  exact ne_arr F wi A'
theorem own_newP (X : Stand p l e R s m args below meth c T locs cells slots) (hx : p.tables.exec = Jvm.exec) (hZ : Z.Warmed39 s.vm) {aty : ArrayType} (w : (Cond.arrayClass (newarray.typeOf aty)).before a0 Z = true) (eT : T.heap = h) {g : JFrame} (hg : g.method = m) (hd : decode c.code g.pc = .ok (.newarray aty, 2)) {n : Int32} {rest : List Value} (hs : g.stack = .int n :: rest)
    (hn : ¬ n < 0) {cap : Nat} (hcap : n.toNatClampNeg ≤ cap) (hb : cap * 8 ≤ 536870912) (hc : cells + 1 ≤ R.cells) (hl : slots + cap ≤ R.slots) :
    ∃ T' h', Stand p l e R s m args below meth c T' locs (cells + 1) (slots + cap) ∧ T'.heap = h' ∧ Ext h h' ∧ Arl Z h' h.size (newarray.typeOf aty) (List.replicate n.toNatClampNeg (defaultValue (newarray.typeOf aty))) ∧
      ∀ target, Steps p.tables e below (T'.setTop { g with pc := g.pc + 2, stack := .ref h.size :: rest }) target → Steps p.tables e below (T.setTop g) target := by
  obtain ⟨T', h', cA, X', e', E', A', st⟩ := newP X hx hZ w eT hg hd hs hn hcap hb hc hl
  exact ⟨T', h', X', e', E', ⟨_, A', by simp [newA]⟩, st⟩
theorem own_stB (X : Stand p l e R s m args below meth c T locs cells slots) (hx : p.tables.exec = Jvm.exec) (hZ : Z.Warmed39 s.vm) (eT : T.heap = h) {a : Addr} {vs : List Value} (A : Arl Z h a .byte vs) {j x : Int32} (hj : ¬ j < 0) (hj' : j.toNatClampNeg < vs.length) {g : JFrame} (hg : g.method = m) {rest : List Value} (hs : g.stack = .int x :: .int j :: .ref a :: rest) (hd : decode c.code g.pc = .ok (.bastore, 1)) :
    ∃ T' h', Stand p l e R s m args below meth c T' (locs ++ [⟨a, j.toNatClampNeg⟩]) cells slots ∧ T'.heap = h' ∧ Wr h h' a j.toNatClampNeg (.int x.toInt8.toInt32) ∧ Arl Z h' a .byte (vs.set j.toNatClampNeg (.int x.toInt8.toInt32)) ∧ ∀ target, Steps p.tables e below (T'.setTop { g with pc := g.pc + 1, stack := rest }) target → Steps p.tables e below (T.setTop g) target := by
  obtain ⟨c', A', r⟩ := A
  obtain ⟨T', h', X', e', W, st⟩ := stB X hx hZ eT A' (own_in r hj hj') hg hs hd
  exact ⟨T', h', X', e', W, Arl.set ⟨c', A', r⟩ W, st⟩
theorem own_stI (X : Stand p l e R s m args below meth c T locs cells slots) (hx : p.tables.exec = Jvm.exec) (hZ : Z.Warmed39 s.vm) (eT : T.heap = h) {a : Addr} {vs : List Value} (A : Arl Z h a .int vs) {j x : Int32} (hj : ¬ j < 0) (hj' : j.toNatClampNeg < vs.length) {g : JFrame} (hg : g.method = m) {rest : List Value} (hs : g.stack = .int x :: .int j :: .ref a :: rest) (hd : decode c.code g.pc = .ok (.iastore, 1)) :
    ∃ T' h', Stand p l e R s m args below meth c T' (locs ++ [⟨a, j.toNatClampNeg⟩]) cells slots ∧ T'.heap = h' ∧ Wr h h' a j.toNatClampNeg (.int x) ∧ Arl Z h' a .int (vs.set j.toNatClampNeg (.int x)) ∧ ∀ target, Steps p.tables e below (T'.setTop { g with pc := g.pc + 1, stack := rest }) target → Steps p.tables e below (T.setTop g) target := by
  obtain ⟨c', A', r⟩ := A
  obtain ⟨T', h', X', e', W, st⟩ := stI X hx hZ eT A' (own_in r hj hj') hg hs hd
  exact ⟨T', h', X', e', W, Arl.set ⟨c', A', r⟩ W, st⟩
theorem own_stJ (X : Stand p l e R s m args below meth c T locs cells slots) (hx : p.tables.exec = Jvm.exec) (hZ : Z.Warmed39 s.vm) (eT : T.heap = h) {a : Addr} {vs : List Value} (A : Arl Z h a .long vs) {j : Int32} {x : Int64} (hj : ¬ j < 0) (hj' : j.toNatClampNeg < vs.length) {g : JFrame} (hg : g.method = m) {rest : List Value} (hs : g.stack = .long x :: .int j :: .ref a :: rest) (hd : decode c.code g.pc = .ok (.lastore, 1)) :
    ∃ T' h', Stand p l e R s m args below meth c T' (locs ++ [⟨a, j.toNatClampNeg⟩]) cells slots ∧ T'.heap = h' ∧ Wr h h' a j.toNatClampNeg (.long x) ∧ Arl Z h' a .long (vs.set j.toNatClampNeg (.long x)) ∧ ∀ target, Steps p.tables e below (T'.setTop { g with pc := g.pc + 1, stack := rest }) target → Steps p.tables e below (T.setTop g) target := by
  obtain ⟨c', A', r⟩ := A
  obtain ⟨T', h', X', e', W, st⟩ := stJ X hx hZ eT A' (own_in r hj hj') hg hs hd
  exact ⟨T', h', X', e', W, Arl.set ⟨c', A', r⟩ W, st⟩
theorem own_at {a : Addr} {c' : Cell} {vs : List Value} {v : Value} {j : Int32} (r : c'.slots.toList = vs) (hv : vs[j.toNatClampNeg]? = some v) : c'.slots[j.toNatClampNeg]? = some v := by
  subst r; simpa using hv
theorem own_ldB (X : Stand p l e R s m args below meth c T locs cells slots) (hx : p.tables.exec = Jvm.exec) (hZ : Z.Warmed39 s.vm) (eT : T.heap = h) {a : Addr} {vs : List Value} {v : Value} (A : Arl Z h a .byte vs) {j : Int32} (hj : ¬ j < 0) (hv : vs[j.toNatClampNeg]? = some v) {g : JFrame} (hg : g.method = m) {rest : List Value} (hs : g.stack = .int j :: .ref a :: rest) (hd : decode c.code g.pc = .ok (.baload, 1)) :
    ∀ target, Steps p.tables e below (T.setTop { g with pc := g.pc + 1, stack := v :: rest }) target → Steps p.tables e below (T.setTop g) target := by
  obtain ⟨c', A', r⟩ := A
  exact fun t k => X.baloadBytes hx (by rw [eT]; exact A'.1) (State.isArrayOf_alike hZ.alike A'.2.1) A'.2.2 (own_in r hj (own_lt hv)) (own_at (a := a) r hv) hg hs hd t k
theorem own_ldI (X : Stand p l e R s m args below meth c T locs cells slots) (hx : p.tables.exec = Jvm.exec) (hZ : Z.Warmed39 s.vm) (eT : T.heap = h) {a : Addr} {vs : List Value} {v : Value} (A : Arl Z h a .int vs) {j : Int32} (hj : ¬ j < 0) (hv : vs[j.toNatClampNeg]? = some v) {g : JFrame} (hg : g.method = m) {rest : List Value} (hs : g.stack = .int j :: .ref a :: rest) (hd : decode c.code g.pc = .ok (.iaload, 1)) :
    ∀ target, Steps p.tables e below (T.setTop { g with pc := g.pc + 1, stack := v :: rest }) target → Steps p.tables e below (T.setTop g) target := by
  obtain ⟨c', A', r⟩ := A
  exact fun t k => X.iaload hx (by rw [eT]; exact A'.1) (State.isArrayOf_alike hZ.alike A'.2.1) A'.2.2 (own_in r hj (own_lt hv)) (own_at (a := a) r hv) hg hs hd t k
theorem own_ldJ (X : Stand p l e R s m args below meth c T locs cells slots) (hx : p.tables.exec = Jvm.exec) (hZ : Z.Warmed39 s.vm) (eT : T.heap = h) {a : Addr} {vs : List Value} {v : Value} (A : Arl Z h a .long vs) {j : Int32} (hj : ¬ j < 0) (hv : vs[j.toNatClampNeg]? = some v) {g : JFrame} (hg : g.method = m) {rest : List Value} (hs : g.stack = .int j :: .ref a :: rest) (hd : decode c.code g.pc = .ok (.laload, 1)) :
    ∀ target, Steps p.tables e below (T.setTop { g with pc := g.pc + 1, stack := v :: rest }) target → Steps p.tables e below (T.setTop g) target := by
  obtain ⟨c', A', r⟩ := A
  exact fun t k => X.laload hx (by rw [eT]; exact A'.1) (State.isArrayOf_alike hZ.alike A'.2.1) A'.2.2 (own_in r hj (own_lt hv)) (own_at (a := a) r hv) hg hs hd t k
theorem own_len (X : Stand p l e R s m args below meth c T locs cells slots) (hx : p.tables.exec = Jvm.exec) (hZ : Z.Warmed39 s.vm) (eT : T.heap = h) {a : Addr} {ty : FieldType} {vs : List Value} (A : Arl Z h a ty vs) {n : Int32} (hn : vs.length.toInt32 = n) {g : JFrame} (hg : g.method = m) {rest : List Value} (hs : g.stack = .ref a :: rest) (hd : decode c.code g.pc = .ok (.arraylength, 1)) :
    ∀ target, Steps p.tables e below (T.setTop { g with pc := g.pc + 1, stack := .int n :: rest }) target → Steps p.tables e below (T.setTop g) target := by
  obtain ⟨c', A', r⟩ := A
  have q : c'.slots.size.toInt32 = n := by rw [← hn, ← r, Array.length_toList]
  exact fun t k => X.arraylength hx (ty := ty) (by rw [eT]; exact A'.1) (State.isArrayOf_alike hZ.alike A'.2.1) hg hs hd t (q.symm ▸ k)
end Own
theorem own_nat32 {q : Int32} {k : Nat} (h : q.toInt = k) : q.toBitVec.toNat = k := by
  have h1 : q.toBitVec.toInt = k := h
  rw [BitVec.toInt_eq_toNat_cond] at h1
  have := q.toBitVec.isLt
  split at h1 <;> omega
theorem own_nat64 {q : Int64} {k : Nat} (h : q.toInt = k) : q.toBitVec.toNat = k := by
  have h1 : q.toBitVec.toInt = k := h
  rw [BitVec.toInt_eq_toNat_cond] at h1
  have := q.toBitVec.isLt
  split at h1 <;> omega
theorem own_ushr (x : Int64) (q : Int32) (k : Nat) (h : q.toInt = k) (hk : k < 64) : ((x.toUInt64 >>> (q &&& 0x3f).toInt64.toUInt64).toInt64).toBitVec = x.toBitVec >>> k := by
  have hq : q.toBitVec.toNat % 64 = k := by rw [own_nat32 h]; omega
  show x.toBitVec >>> ((q &&& 0x3f).toInt64.toBitVec % 64) = x.toBitVec >>> k
  rw [BitVec.ushiftRight_eq', BitVec.toNat_umod, (sm64 q k hq).1, BitVec.toNat_ofNat]
  congr 1
  show k % 2 ^ 64 % 64 = k
  omega
theorem own_shl (x : Int64) (q : Int32) (k : Nat) (h : q.toInt = k) (hk : k < 64) : (x <<< (q &&& 0x3f).toInt64).toBitVec = x.toBitVec <<< k := by
  have hq : q.toBitVec.toNat % 64 = k := by rw [own_nat32 h]; omega
  show x.toBitVec <<< ((q &&& 0x3f).toInt64.toBitVec.smod 64) = x.toBitVec <<< k
  rw [BitVec.shiftLeft_eq', (sm64 q k hq).1, smod64 k hk]
/-- bit i of a long -/
def lbit (x : Int64) (i : Nat) : Bool := x.toBitVec.getLsbD i
theorem lbit_ext {x y : Int64} (h : ∀ i, i < 64 → lbit x i = lbit y i) : x = y := by
  apply Int64.toBitVec_inj.mp
  apply BitVec.eq_of_getLsbD_eq
  exact h
theorem lbit_hi {x : Int64} {i : Nat} (h : 64 ≤ i) : lbit x i = false := BitVec.getLsbD_of_ge _ _ h
theorem lbit_and (x y : Int64) (i : Nat) : lbit (x &&& y) i = (lbit x i && lbit y i) := by simp [lbit, Int64.toBitVec_and]
theorem lbit_or (x y : Int64) (i : Nat) : lbit (x ||| y) i = (lbit x i || lbit y i) := by simp [lbit, Int64.toBitVec_or]
theorem lbit_xor (x y : Int64) (i : Nat) : lbit (x ^^^ y) i = (lbit x i ^^ lbit y i) := by simp [lbit, Int64.toBitVec_xor]
theorem lbit_ushr {x : Int64} {q : Int32} {k : Nat} (h : q.toInt = k) (hk : k < 64) (i : Nat) : lbit ((x.toUInt64 >>> (q &&& 0x3f).toInt64.toUInt64).toInt64) i = lbit x (k + i) := by
  unfold lbit; rw [own_ushr x q k h hk, BitVec.getLsbD_ushiftRight]
theorem lbit_shl {x : Int64} {q : Int32} {k : Nat} (h : q.toInt = k) (hk : k < 64) (i : Nat) : lbit (x <<< (q &&& 0x3f).toInt64) i = (decide (i < 64) && (!decide (i < k) && lbit x (i - k))) := by
  unfold lbit; rw [own_shl x q k h hk, BitVec.getLsbD_shiftLeft]; simp [Bool.and_assoc]
theorem lbit_m1 (i : Nat) : lbit (-1) i = decide (i < 64) := by
  unfold lbit
  rw [show (-1 : Int64).toBitVec = BitVec.allOnes 64 from by decide, BitVec.getLsbD_allOnes]
theorem own_one (x : Int64) : (x &&& (1 : Int64)) = if lbit x 0 then 1 else 0 := by
  apply lbit_ext
  intro i hi
  rw [lbit_and]
  have h1 : lbit 1 i = decide (i = 0) := by
    unfold lbit
    rw [show (1 : Int64).toBitVec = 1#64 from by decide, BitVec.getLsbD_one]
    simp
  rw [h1]
  have h0 : lbit 0 i = false := by unfold lbit; rw [show (0 : Int64).toBitVec = 0#64 from by decide]; simp
  by_cases e : i = 0
  · subst e
    cases hb : lbit x 0 <;> simp [h1, h0]
  · cases hb : lbit x 0 <;> simp [h1, h0, e]
def gW (ix : Int64) (w : Int32) : Int32 := (((ix * w.toInt64)).toUInt64 >>> ((6 : Int32) &&& 0x3f).toInt64.toUInt64).toInt64.toInt32
def gO (ix : Int64) (w : Int32) : Int32 := ((ix * w.toInt64).toInt32 &&& (63 : Int32))
def gF (x y mk : Int64) (off w : Int32) : Int64 :=
  if (64 : Int32) < off + w then (((x).toUInt64 >>> (off &&& 0x3f).toInt64.toUInt64).toInt64 ||| (y <<< (((64 : Int32) - off) &&& 0x3f).toInt64)) &&& mk
  else ((x).toUInt64 >>> (off &&& 0x3f).toInt64.toUInt64).toInt64 &&& mk
def wAt (w0 w1 w2 : Int64) (i : Nat) : Int64 := if i = 0 then w0 else if i = 1 then w1 else w2
theorem own_W {ix : Int64} {w : Int32} {B : Nat} (h : (ix * w.toInt64).toInt = B) (hB : B < 192) : (gW ix w).toInt = (B / 64 : Nat) := by
  have h1 := c_lushr (ix * w.toInt64) 6 6 (by decide) (by decide)
  unfold gW
  generalize ((ix * w.toInt64).toUInt64 >>> ((6 : Int32) &&& 0x3f).toInt64.toUInt64).toInt64 = q at *
  have e : q.toInt = (B / 64 : Nat) := by rw [h1, h]; omega
  rw [XT.narrowInt (by rw [e]; constructor <;> omega), e]
theorem own_O {ix : Int64} {w : Int32} {B : Nat} (h : (ix * w.toInt64).toInt = B) (hB : B < 192) : (gO ix w).toInt = (B % 64 : Nat) := by
  unfold gO
  have h1 := c_mask (ix * w.toInt64).toInt32 63 6 (by decide) (by decide)
  have h2 := c_l2i (ix * w.toInt64)
  generalize (ix * w.toInt64) = q at *
  omega
theorem own_sub64 {w : Int32} {k : Nat} (h : w.toInt = k) (h2 : k ≤ 64) : ((64 : Int32) - w).toInt = (64 - k : Nat) := by
  have e : (64 : Int32).toInt = 64 := by decide
  have h1 := c_isub 64 w
  have r := rng32 ((64 : Int32) - w)
  omega
theorem own_add {a b : Int32} {m n : Nat} (h : a.toInt = m) (h' : b.toInt = n) (q : m < 1000) (q' : n < 1000) : (a + b).toInt = (m + n : Nat) := by
  have h1 := c_iadd a b
  have r := rng32 (a + b)
  omega
theorem own_mask {w : Int32} {w' : Nat} (hw : w.toInt = w') (h1 : 1 ≤ w') (h2 : w' ≤ 64) (s : Nat) : lbit (((-1 : Int64)).toUInt64 >>> (((64 : Int32) - w) &&& 0x3f).toInt64.toUInt64).toInt64 s = decide (s < w') := by
  rw [lbit_ushr (own_sub64 hw h2) (by omega), lbit_m1]
  congr 1
  apply propext
  omega
theorem gF_bit {x y : Int64} {off w : Int32} {o w' : Nat} (ho : off.toInt = o) (ho' : o < 64) (hw : w.toInt = w') (h1 : 1 ≤ w') (h2 : w' ≤ 64) (s : Nat) (hs : s < 64) :
    lbit (gF x y (((-1 : Int64)).toUInt64 >>> (((64 : Int32) - w) &&& 0x3f).toInt64.toUInt64).toInt64 off w) s = (decide (s < w') && (if o + s < 64 then lbit x (o + s) else lbit y (o + s - 64))) := by
  have e64 : (64 : Int32).toInt = 64 := by decide
  unfold gF
  split
  · rename_i hc
    rw [Int32.lt_iff_toInt_lt, own_add ho hw (by omega) (by omega), e64] at hc
    rw [lbit_and, own_mask hw h1 h2, lbit_or, lbit_ushr ho ho', lbit_shl (own_sub64 ho (by omega)) (by omega)]
    by_cases hsw : s < w'
    · simp only [hsw, hs, decide_true, Bool.true_and, Bool.and_true]
      by_cases hlt : o + s < 64
      · have : s < 64 - o := by omega
        simp [hlt, this]
      · have h3 : ¬ s < 64 - o := by omega
        have h4 : s - (64 - o) = o + s - 64 := by omega
        rw [lbit_hi (by omega : 64 ≤ o + s)]
        simp [hlt, h3, h4]
    · simp [hsw]
  · rename_i hc
    rw [Int32.lt_iff_toInt_lt, own_add ho hw (by omega) (by omega), e64] at hc
    rw [lbit_and, own_mask hw h1 h2, lbit_ushr ho ho']
    by_cases hsw : s < w'
    · have hlt : o + s < 64 := by omega
      simp [hsw, hlt]
    · simp [hsw]
theorem own_wi (p : Int32) : ∃ w' : Nat, ((1 : Int32) + (p &&& (63 : Int32))).toInt = w' ∧ 1 ≤ w' ∧ w' ≤ 64 := by
  have h1 := c_mask p 63 6 (by decide) (by decide)
  have h2 := c_iadd 1 (p &&& (63 : Int32))
  have r := rng32 ((1 : Int32) + (p &&& (63 : Int32)))
  have e : (1 : Int32).toInt = 1 := by decide
  refine ⟨(((1 : Int32) + (p &&& (63 : Int32))).toInt).toNat, ?_, ?_, ?_⟩ <;> omega
theorem own_nlen {w : Int32} {w' : Nat} (hw : w.toInt = w') (h1 : 1 ≤ w') (h2 : w' ≤ 64) : ((192 : Int64) / w.toInt64).toInt = (192 / w' : Nat) := by
  have e : (192 : Int64).toInt = 192 := by decide
  have hi : w.toInt64.toInt = w' := by rw [Int32.toInt_toInt64, hw]
  have h := (c_ldiv 192 w.toInt64 w' hi (fun q => by rw [q] at hi; have : (-1 : Int64).toInt = -1 := by decide
                                                     omega)).1 (by omega)
  rw [h, e, Int.natCast_ediv]; rfl
theorem own_len0 {w' : Nat} (h1 : 1 ≤ w') (h2 : w' ≤ 64) : 3 ≤ 192 / w' ∧ 192 / w' * w' ≤ 192 ∧ 192 / w' ≤ 192 := by
  refine ⟨(Nat.le_div_iff_mul_le (by omega)).mpr (by omega), Nat.div_mul_le_self _ _, Nat.div_le_self _ _⟩
theorem own_mul {ix : Int64} {w : Int32} {i w' N : Nat} (hi : ix.toInt = i) (hw : w.toInt = w') (hN : i < N) (hN2 : N * w' ≤ 192) (h2 : w' ≤ 64) (hN3 : N ≤ 192) : (ix * w.toInt64).toInt = (i * w' : Nat) ∧ i * w' + w' ≤ 192 := by
  have h3 : (i + 1) * w' ≤ N * w' := Nat.mul_le_mul_right _ hN
  rw [Nat.add_mul, Nat.one_mul] at h3
  have hm : ix.toInt * w.toInt64.toInt = (i * w' : Nat) := by rw [Int32.toInt_toInt64, hi, hw]; exact (Int.natCast_mul _ _).symm
  refine ⟨?_, by omega⟩
  rw [XT.mul64 (by rw [hm]; constructor <;> omega), hm]
theorem own_wnz {w : Int32} {w' : Nat} (hw : w.toInt = w') (h1 : 1 ≤ w') : w.toInt64 ≠ 0 := fun q => by
  have e : w.toInt64.toInt = w' := by rw [Int32.toInt_toInt64, hw]
  rw [q] at e
  have : (0 : Int64).toInt = 0 := by decide
  omega
theorem own_nnz {n : Int64} {k : Nat} (h : n.toInt = k) (h3 : 3 ≤ k) : n ≠ 0 := fun q => by
  rw [q] at h
  have : (0 : Int64).toInt = 0 := by decide
  omega
theorem own_q1 {ix : Int64} {w : Int32} {B : Nat} (h : (ix * w.toInt64).toInt = B) (hB : B < 192) : ¬ gW ix w < 0 := by
  rw [Int32.lt_iff_toInt_lt, own_W h hB]
  have : (0 : Int32).toInt = 0 := by decide
  omega
theorem own_three {α : Type} {f : Int64 → α} {w0 w1 w2 : Int64} {i : Nat} (h : i < 3) : [f w0, f w1, f w2][i]? = some (f (wAt w0 w1 w2 i)) := by
  have : i = 0 ∨ i = 1 ∨ i = 2 := by omega
  rcases this with rfl | rfl | rfl <;> rfl
theorem own_q2 {α : Type} {f : Int64 → α} {w0 w1 w2 ix : Int64} {w : Int32} {B : Nat} (h : (ix * w.toInt64).toInt = B) (hB : B < 192) : [f w0, f w1, f w2][(gW ix w).toNatClampNeg]? = some (f (wAt w0 w1 w2 (B / 64))) := by
  have e : (gW ix w).toNatClampNeg = B / 64 := by
    show (gW ix w).toInt.toNat = _
    rw [own_W h hB]; omega
  rw [e]; exact own_three (by omega)
theorem own_q3 {α : Type} {f : Int64 → α} {w0 w1 w2 ix : Int64} {w : Int32} {B w' : Nat} (h : (ix * w.toInt64).toInt = B) (hw : w.toInt = w') (h1 : 1 ≤ w') (h2 : w' ≤ 64) (hB : B + w' ≤ 192) : (64 : Int32) < gO ix w + w → ¬ (gW ix w + (1 : Int32)) < 0 ∧ [f w0, f w1, f w2][(gW ix w + (1 : Int32)).toNatClampNeg]? = some (f (wAt w0 w1 w2 (B / 64 + 1))) := by
  intro hc
  have e64 : (64 : Int32).toInt = 64 := by decide
  have e0 : (0 : Int32).toInt = 0 := by decide
  have e1 : (1 : Int32).toInt = (1 : Nat) := by decide
  rw [Int32.lt_iff_toInt_lt, own_add (own_O h (by omega)) hw (by omega) (by omega), e64] at hc
  have e : (gW ix w + (1 : Int32)).toInt = (B / 64 + 1 : Nat) := own_add (own_W h (by omega)) e1 (by omega) (by omega)
  refine ⟨by rw [Int32.lt_iff_toInt_lt, e, e0]; omega, ?_⟩
  have e' : (gW ix w + (1 : Int32)).toNatClampNeg = B / 64 + 1 := by
    show (gW ix w + (1 : Int32)).toInt.toNat = _
    rw [e]; omega
  rw [e']; exact own_three (by omega)
def sF1 (x v mk : Int64) (off : Int32) : Int64 := ((x &&& ((mk <<< (off &&& 0x3f).toInt64) ^^^ (-1 : Int64))) ||| (v <<< (off &&& 0x3f).toInt64))
def sF2 (y v mk : Int64) (sp : Int32) : Int64 := ((y &&& (((mk).toUInt64 >>> (sp &&& 0x3f).toInt64.toUInt64).toInt64 ^^^ (-1 : Int64))) ||| ((v).toUInt64 >>> (sp &&& 0x3f).toInt64.toUInt64).toInt64)
/-- what bit t of word j ought to be -/
def spec (o v : Int64) (s w' j t : Nat) : Bool := if s ≤ 64 * j + t ∧ 64 * j + t < s + w' then lbit v (64 * j + t - s) else lbit o t
theorem lbit_not (x : Int64) (t : Nat) (ht : t < 64) : lbit (x ^^^ (-1 : Int64)) t = !lbit x t := by
  rw [lbit_xor, lbit_m1]; simp [ht]
theorem sF1_bit {x v : Int64} {off w : Int32} {o w' : Nat} (ho : off.toInt = o) (ho' : o < 64) (hw : w.toInt = w') (h1 : 1 ≤ w') (h2 : w' ≤ 64) (hv : ∀ t, w' ≤ t → lbit v t = false) (t : Nat) (ht : t < 64) :
    lbit (sF1 x v (((-1 : Int64)).toUInt64 >>> (((64 : Int32) - w) &&& 0x3f).toInt64.toUInt64).toInt64 off) t = if o ≤ t ∧ t < o + w' then lbit v (t - o) else lbit x t := by
  unfold sF1
  rw [lbit_or, lbit_and, lbit_not _ _ ht, lbit_shl ho ho', lbit_shl ho ho', own_mask hw h1 h2]
  by_cases h : t < o
  · have : ¬ o ≤ t := by omega
    simp [h, this, ht]
  · have h' : o ≤ t := by omega
    by_cases q : t - o < w'
    · have : t < o + w' := by omega
      simp [h, h', ht, q, this]
    · have : ¬ t < o + w' := by omega
      have hf := hv (t - o) (by omega)
      simp [h, h', ht, q, this, hf]
theorem sF2_bit {y v : Int64} {sp w : Int32} {k w' : Nat} (ho : sp.toInt = k) (ho' : k < 64) (hw : w.toInt = w') (h1 : 1 ≤ w') (h2 : w' ≤ 64) (hv : ∀ t, w' ≤ t → lbit v t = false) (t : Nat) (ht : t < 64) :
    lbit (sF2 y v (((-1 : Int64)).toUInt64 >>> (((64 : Int32) - w) &&& 0x3f).toInt64.toUInt64).toInt64 sp) t = if k + t < w' then lbit v (k + t) else lbit y t := by
  unfold sF2
  rw [lbit_or, lbit_and, lbit_not _ _ ht, lbit_ushr ho ho', lbit_ushr ho ho', own_mask hw h1 h2]
  by_cases q : k + t < w'
  · simp [q]
  · simp [q, hv (k + t) (by omega)]
def nwF (a b c ix v : Int64) (w : Int32) (mk : Int64) (B j : Nat) : Int64 :=
  if j = B / 64 then sF1 (wAt a b c j) v mk (gO ix w) else if (64 : Int32) < gO ix w + w ∧ j = B / 64 + 1 then sF2 (wAt a b c j) v mk ((64 : Int32) - gO ix w) else wAt a b c j
theorem nw_bit {a b c ix v : Int64} {w : Int32} {B w' j : Nat} (h : (ix * w.toInt64).toInt = B) (hw : w.toInt = w') (h1 : 1 ≤ w') (h2 : w' ≤ 64) (hB : B + w' ≤ 192) (hv : ∀ t, w' ≤ t → lbit v t = false) (t : Nat) (ht : t < 64) :
    lbit (nwF a b c ix v w (((-1 : Int64)).toUInt64 >>> (((64 : Int32) - w) &&& 0x3f).toInt64.toUInt64).toInt64 B j) t = spec (wAt a b c j) v B w' j t := by
  have hO := own_O h (by omega)
  have e64 : (64 : Int32).toInt = 64 := by decide
  have hc : (64 : Int32) < gO ix w + w ↔ 64 < B % 64 + w' := by
    rw [Int32.lt_iff_toInt_lt, own_add hO hw (by omega) (by omega), e64]; omega
  unfold nwF spec
  by_cases c1 : j = B / 64
  · rw [if_pos c1, sF1_bit hO (by omega) hw h1 h2 hv t ht]
    have e1 : (B % 64 ≤ t ∧ t < B % 64 + w') ↔ (B ≤ 64 * j + t ∧ 64 * j + t < B + w') := by omega
    have e2 : t - B % 64 = 64 * j + t - B := by omega
    simp only [e1, e2]
  · rw [if_neg c1]
    by_cases c2 : (64 : Int32) < gO ix w + w ∧ j = B / 64 + 1
    · have c3 := hc.mp c2.1
      rw [if_pos c2, sF2_bit (own_sub64 hO (by omega)) (by omega) hw h1 h2 hv t ht]
      have e1 : (64 - B % 64 + t < w') ↔ (B ≤ 64 * j + t ∧ 64 * j + t < B + w') := by omega
      have e2 : 64 - B % 64 + t = 64 * j + t - B := by omega
      by_cases q : B ≤ 64 * j + t ∧ 64 * j + t < B + w'
      · rw [if_pos q, if_pos (e1.mpr q), e2]
      · rw [if_neg q, if_neg fun r => q (e1.mp r)]
    · rw [if_neg c2]
      have : ¬ (B ≤ 64 * j + t ∧ 64 * j + t < B + w') := by
        intro q
        have hj : j = B / 64 + 1 := by omega
        exact c2 ⟨hc.mpr (by omega), hj⟩
      rw [if_neg this]
def mxF (x y : Int64) : Int64 := if x < y then y else x
def mnF (x y : Int64) : Int64 := if y < x then y else x
def exM (n : Int32) (lo : Int64) : Int64 := if n = (64 : Int32) then (-1 : Int64) else ((((1 : Int64) <<< (n &&& 0x3f).toInt64) - (1 : Int64)) <<< ((lo).toInt32 &&& 0x3f).toInt64)
def exS (base s v : Int64) : Int64 := if base < s then (v <<< ((s - base).toInt32 &&& 0x3f).toInt64) else ((v).toUInt64 >>> ((base - s).toInt32 &&& 0x3f).toInt64.toUInt64).toInt64
def exH (o m sh : Int64) : Int64 := ((o &&& (m ^^^ (-1 : Int64))) ||| (sh &&& m))
def exG (o base s lo hi v : Int64) : Int64 := if lo < hi then exH o (exM (hi - lo).toInt32 lo) (exS base s v) else o
def exF (o : Int64) (j : Int32) (s : Int64) (w : Int32) (v : Int64) : Int64 :=
  exG o ((64 : Int64) * j.toInt64) s (mxF s ((64 : Int64) * j.toInt64) - ((64 : Int64) * j.toInt64)) (mnF (s + w.toInt64) (((64 : Int64) * j.toInt64) + (64 : Int64)) - ((64 : Int64) * j.toInt64)) v
theorem own_ones {n : Int32} {k : Nat} (h : n.toInt = k) (hk : k < 64) (t : Nat) : lbit (((1 : Int64) <<< (n &&& 0x3f).toInt64) - (1 : Int64)) t = decide (t < k) := by
  unfold lbit
  rw [Int64.toBitVec_sub, own_shl 1 n k h hk]
  rw [show (1 : Int64).toBitVec = 1#64 from by decide]
  have e : ((1#64 <<< k) - 1#64).toNat = 2 ^ k - 1 := by
    have hp : 2 ^ k < 2 ^ 64 := Nat.pow_lt_pow_right (by decide) hk
    have h0 : 0 < 2 ^ k := Nat.two_pow_pos k
    have e1 : (1#64 <<< k).toNat = 2 ^ k := by
      rw [BitVec.toNat_shiftLeft, Nat.shiftLeft_eq]
      simp [Nat.mod_eq_of_lt hp]
    rw [BitVec.toNat_sub, e1]
    show (2 ^ 64 - 1 + 2 ^ k) % 2 ^ 64 = _
    omega
  show ((1#64 <<< k) - 1#64).toNat.testBit t = _
  rw [e, Nat.testBit_two_pow_sub_one]
theorem own_t32 {x : Int64} {k : Nat} (h : x.toInt = k) (hk : k < 1000) : x.toInt32.toInt = k := by
  rw [XT.narrowInt (by rw [h]; constructor <;> omega), h]
theorem own_as {x y : Int64} (hx : -1000 ≤ x.toInt ∧ x.toInt ≤ 1000) (hy : -1000 ≤ y.toInt ∧ y.toInt ≤ 1000) : (x + y).toInt = x.toInt + y.toInt ∧ (x - y).toInt = x.toInt - y.toInt := by
  exact ⟨XT.add64 ⟨by omega, by omega⟩, XT.sub64 ⟨by omega, by omega⟩⟩
theorem ex_bit {o s v : Int64} {j w : Int32} {S w' j' : Nat} (hs : s.toInt = S) (hS : S + w' ≤ 192) (hw : w.toInt = w') (h1 : 1 ≤ w') (h2 : w' ≤ 64) (hj : j.toInt = j') (hj' : j' < 3) (t : Nat) (ht : t < 64) :
    lbit (exF o j s w v) t = spec o v S w' j' t := by
  have e64 : (64 : Int64).toInt = 64 := by decide
  have hb : ((64 : Int64) * j.toInt64).toInt = (64 * j' : Nat) := by
    have : (64 : Int64).toInt * j.toInt64.toInt = (64 * j' : Nat) := by rw [Int32.toInt_toInt64, e64, hj]; omega
    rw [XT.mul64 (by rw [this]; constructor <;> omega), this]
  unfold exF
  generalize (64 : Int64) * j.toInt64 = base at *
  have hwl : w.toInt64.toInt = w' := by rw [Int32.toInt_toInt64, hw]
  have a1 := (own_as (x := s) (y := w.toInt64) (by omega) (by omega)).1
  have a2 := (own_as (x := base) (y := 64) (by omega) (by omega)).1
  generalize s + w.toInt64 = q1 at *
  generalize base + (64 : Int64) = q2 at *
  have m1 : (mxF s base).toInt = if S < 64 * j' then ((64 * j' : Nat) : Int) else (S : Int) := by
    unfold mxF
    by_cases c : S < 64 * j'
    · rw [if_pos (by rw [Int64.lt_iff_toInt_lt]; omega), if_pos c]; omega
    · rw [if_neg (by rw [Int64.lt_iff_toInt_lt]; omega), if_neg c]; omega
  have m2 : (mnF q1 q2).toInt = if 64 * j' + 64 < S + w' then (64 * j' + 64 : Int) else (S + w' : Int) := by
    unfold mnF
    by_cases c : 64 * j' + 64 < S + w'
    · rw [if_pos (by rw [Int64.lt_iff_toInt_lt]; omega), if_pos c]; omega
    · rw [if_neg (by rw [Int64.lt_iff_toInt_lt]; omega), if_neg c]; omega
  generalize mxF s base = x1 at *
  generalize mnF q1 q2 = x2 at *
  have b1 := (own_as (x := x1) (y := base) (by split at m1 <;> omega) (by omega)).2
  have b2 := (own_as (x := x2) (y := base) (by split at m2 <;> omega) (by omega)).2
  generalize x1 - base = lo at *
  generalize x2 - base = hi at *
  unfold exG spec
  by_cases c : lo < hi
  · have c' := c
    rw [Int64.lt_iff_toInt_lt] at c'
    rw [if_pos c]
    obtain ⟨Lo, hLo⟩ : ∃ k : Nat, lo.toInt = k := ⟨lo.toInt.toNat, by split at m1 <;> omega⟩
    obtain ⟨Hi, hHi⟩ : ∃ k : Nat, hi.toInt = k := ⟨hi.toInt.toNat, by omega⟩
    have r1 : Hi ≤ 64 := by split at m2 <;> omega
    have b3 := (own_as (x := hi) (y := lo) (by omega) (by omega)).2
    have n1 : (hi - lo).toInt32.toInt = (Hi - Lo : Nat) := own_t32 (by omega) (by omega)
    have key : (S ≤ 64 * j' + t ∧ 64 * j' + t < S + w') ↔ (Lo ≤ t ∧ t < Hi) := by
      split at m1 <;> split at m2 <;> omega
    have hm : lbit (exM (hi - lo).toInt32 lo) t = decide (Lo ≤ t ∧ t < Hi) := by
      unfold exM
      have e64' : (64 : Int32).toInt = 64 := by decide
      by_cases d : (hi - lo).toInt32 = (64 : Int32)
      · rw [if_pos d, lbit_m1]
        rw [d, e64'] at n1
        have : Lo ≤ t ∧ t < Hi := by omega
        simp [ht, this]
      · rw [if_neg d]
        have hne : Hi - Lo ≠ 64 := fun q => d (Int32.toInt_inj.mp (by rw [n1, e64']; omega))
        rw [lbit_shl (own_t32 hLo (by omega)) (by omega), own_ones n1 (by omega)]
        by_cases u : t < Lo
        · have : ¬ (Lo ≤ t ∧ t < Hi) := by omega
          simp [u, this, ht]
        · have e : (t - Lo < Hi - Lo) ↔ (Lo ≤ t ∧ t < Hi) := by omega
          simp [u, ht, e]
    unfold exH
    rw [lbit_or, lbit_and, lbit_and, lbit_not _ _ ht, hm]
    by_cases k : Lo ≤ t ∧ t < Hi
    · rw [if_pos (key.mpr k)]
      simp only [k, and_self, decide_true, Bool.not_true, Bool.and_false, Bool.false_or, Bool.and_true]
      unfold exS
      by_cases g : base < s
      · have g' := g
        rw [Int64.lt_iff_toInt_lt] at g'
        have b4 := (own_as (x := s) (y := base) (by omega) (by omega)).2
        have e1 : (s - base).toInt32.toInt = (S - 64 * j' : Nat) := own_t32 (by omega) (by omega)
        have e2 : Lo = S - 64 * j' := by split at m1 <;> omega
        rw [if_pos g, lbit_shl e1 (by omega)]
        have e3 : ¬ t < S - 64 * j' := by omega
        have e4 : t - (S - 64 * j') = 64 * j' + t - S := by omega
        simp [ht, e3, e4]
      · have g' := g
        rw [Int64.lt_iff_toInt_lt] at g'
        have b4 := (own_as (x := base) (y := s) (by omega) (by omega)).2
        have e1 : (base - s).toInt32.toInt = (64 * j' - S : Nat) := own_t32 (by omega) (by omega)
        rw [if_neg g, lbit_ushr e1 (by split at m2 <;> omega)]
        congr 1; omega
    · rw [if_neg fun q => k (key.mp q)]
      simp [k]
  · rw [if_neg c]
    have c' := c
    rw [Int64.lt_iff_toInt_lt] at c'
    have : ¬ (S ≤ 64 * j' + t ∧ 64 * j' + t < S + w') := by
      split at m1 <;> split at m2 <;> omega
    rw [if_neg this]
theorem own_wi2 (p : Int32) : ∃ w' : Nat, ((p &&& (63 : Int32)) + (1 : Int32)).toInt = w' ∧ 1 ≤ w' ∧ w' ≤ 64 := by
  rw [Int32.add_comm]; exact own_wi p
theorem own_n32 {n : Int64} {N : Nat} (hn : n.toInt = N) (h3 : 3 ≤ N) (h4 : N ≤ 192) : n.toInt32.toInt = N ∧ n.toInt32 ≠ 0 := by
  have e := own_t32 hn (by omega)
  refine ⟨e, fun q => ?_⟩
  rw [q] at e
  have : (0 : Int32).toInt = 0 := by decide
  omega
theorem own_ix2 (p : Int32) {n ix : Int64} {N : Nat} (hn : n.toInt = N) (h3 : 3 ≤ N) (h4 : N ≤ 192) (e : ((p &&& (2147483647 : Int32)) % (n).toInt32).toInt64 = ix) : ∃ i : Nat, ix.toInt = i ∧ i < N := by
  have h1 := c_mask p 2147483647 31 (by decide) (by decide)
  have h2 := (c_iremV (p &&& (2147483647 : Int32)) n.toInt32).1
  rw [(own_n32 hn h3 h4).1] at h2
  have h5 := h2 (by omega) (by omega)
  have e' : ix.toInt = ((p &&& (2147483647 : Int32)) % n.toInt32).toInt := by rw [← e, Int32.toInt_toInt64]
  exact ⟨ix.toInt.toNat, by omega, by omega⟩
theorem own_v1 {q v : Int64} {w : Int32} {w' : Nat} (hw : w.toInt = w') (h : w = 64) : ∀ t, w' ≤ t → lbit v t = false := fun t ht => by
  have : (64 : Int32).toInt = 64 := by decide
  rw [h] at hw
  exact lbit_hi (by omega)
theorem own_v2 {q v fm : Int64} {w : Int32} {w' : Nat} (hw : w.toInt = w') (h2 : w' ≤ 64) (h : ¬ w = 64) (hf : (((1 : Int64) <<< (w &&& 0x3f).toInt64) - (1 : Int64)) = fm) (hv : (q &&& fm) = v) : ∀ t, w' ≤ t → lbit v t = false := fun t ht => by
  have e64 : (64 : Int32).toInt = 64 := by decide
  have : w' ≠ 64 := fun e => h (Int32.toInt_inj.mp (by rw [hw, e64]; omega))
  have hn : ¬ t < w' := by omega
  rw [← hv, lbit_and, ← hf, own_ones hw (by omega)]
  simp [hn]
def svF {α : Type} (f : Int64 → α) (vs : List α) (ix : Int64) (w : Int32) (x y v mk : Int64) : List α :=
  if (64 : Int32) < gO ix w + w then (vs.set (gW ix w).toNatClampNeg (f (sF1 x v mk (gO ix w)))).set (gW ix w + (1 : Int32)).toNatClampNeg (f (sF2 y v mk ((64 : Int32) - gO ix w)))
  else vs.set (gW ix w).toNatClampNeg (f (sF1 x v mk (gO ix w)))
theorem own_ne1 {i : Int32} (h : ¬ i < 0) (h' : ¬ (i + (1 : Int32)) < 0) : i.toNatClampNeg ≠ (i + (1 : Int32)).toNatClampNeg := fun q => by
  have e0 : (0 : Int32).toInt = 0 := by decide
  have e1 : (1 : Int32).toInt = 1 := by decide
  rw [Int32.lt_iff_toInt_lt] at h h'
  have q' : i.toInt.toNat = (i + (1 : Int32)).toInt.toNat := q
  have hc := c_iadd i 1
  have r1 := rng32 i
  have r2 := rng32 (i + (1 : Int32))
  omega
theorem sv_at {α : Type} {f : Int64 → α} {a b c ix v mk : Int64} {w : Int32} {B w' j : Nat} (h : (ix * w.toInt64).toInt = B) (hw : w.toInt = w') (h1 : 1 ≤ w') (h2 : w' ≤ 64) (hB : B + w' ≤ 192) (hj : j < 3) :
    (svF f [f a, f b, f c] ix w (wAt a b c (B / 64)) (wAt a b c (B / 64 + 1)) v mk)[j]? = some (f (nwF a b c ix v w mk B j)) := by
  have e : (gW ix w).toNatClampNeg = B / 64 := by
    show (gW ix w).toInt.toNat = _
    rw [own_W h (by omega)]; omega
  have hlt : B / 64 < 3 := by omega
  unfold svF nwF
  by_cases hc : (64 : Int32) < gO ix w + w
  · have hc' := hc
    have e64 : (64 : Int32).toInt = 64 := by decide
    have e1 : (1 : Int32).toInt = (1 : Nat) := by decide
    rw [Int32.lt_iff_toInt_lt, own_add (own_O h (by omega)) hw (by omega) (by omega), e64] at hc'
    have e' : (gW ix w + (1 : Int32)).toNatClampNeg = B / 64 + 1 := by
      show (gW ix w + (1 : Int32)).toInt.toNat = _
      rw [own_add (own_W h (by omega)) e1 (by omega) (by omega)]; omega
    have hlt2 : B / 64 + 1 < 3 := by omega
    rw [if_pos hc, e, e', List.getElem?_set, List.getElem?_set, own_three hj]
    by_cases d : j = B / 64
    · subst d
      have : ¬ B / 64 + 1 = B / 64 := by omega
      simp [this, hlt]
    · have d' : ¬ B / 64 = j := fun q => d q.symm
      by_cases d2 : j = B / 64 + 1
      · subst d2; simp [hc, hlt2]
      · have d2' : ¬ B / 64 + 1 = j := fun q => d2 q.symm
        simp [d, d', d2, d2']
  · rw [if_neg hc, e, List.getElem?_set, own_three hj]
    by_cases d : j = B / 64
    · subst d; simp [hlt]
    · have d' : ¬ B / 64 = j := fun q => d q.symm
      simp [d, d', hc]
theorem own_eq {a b c o ix v s : Int64} {j w : Int32} {i w' : Nat} (j' : Nat) (ho : wAt a b c j' = o) (hj : j.toInt = j') (hj' : j' < 3) (hm : (ix * w.toInt64).toInt = (i * w' : Nat)) (hs : ix * w.toInt64 = s) (hw : w.toInt = w') (h1 : 1 ≤ w') (h2 : w' ≤ 64) (hB : i * w' + w' ≤ 192) (hv : ∀ t, w' ≤ t → lbit v t = false) :
    nwF a b c ix v w (((-1 : Int64)).toUInt64 >>> (((64 : Int32) - w) &&& 0x3f).toInt64.toUInt64).toInt64 (i * w') j' = exF o j s w v := by
  apply lbit_ext
  intro t ht
  rw [nw_bit hm hw h1 h2 hB hv t ht, ex_bit (by rw [← hs]; exact hm) hB hw h1 h2 hj hj' t ht, ho]
theorem pd0 : parseMethodDescriptor "(JI[J)V" = some ⟨[.long, .int, (.array .long)], none⟩ := by decide +kernel
theorem pd1 : parseMethodDescriptor "()V" = some ⟨[], none⟩ := by decide +kernel
theorem pd2 : parseMethodDescriptor "(JJ)V" = some ⟨[.long, .long], none⟩ := by decide +kernel
theorem pd3 : parseMethodDescriptor "(JIJIJ)J" = some ⟨[.long, .int, .long, .int, .long], (some .long)⟩ := by decide +kernel
theorem pd4 : parseMethodDescriptor "(JJ)J" = some ⟨[.long, .long], (some .long)⟩ := by decide +kernel
theorem pd5 : parseMethodDescriptor "(IIJJJJ)Z" = some ⟨[.int, .int, .long, .long, .long, .long], (some .boolean)⟩ := by decide +kernel
theorem d1_0 : decode prog_31_method_2_code 0 = .ok (.aload_n 0, 1) := by decide +kernel
theorem d1_1 : decode prog_31_method_2_code 1 = .ok (.invokespecial 11, 3) := by decide +kernel
theorem d1_4 : decode prog_31_method_2_code 4 = .ok (.aload_n 0, 1) := by decide +kernel
theorem d1_5 : decode prog_31_method_2_code 5 = .ok (.lload_n 1, 1) := by decide +kernel
theorem d1_6 : decode prog_31_method_2_code 6 = .ok (.putfield 16, 3) := by decide +kernel
theorem d1_9 : decode prog_31_method_2_code 9 = .ok (.aload_n 0, 1) := by decide +kernel
theorem d1_10 : decode prog_31_method_2_code 10 = .ok (.iload_n 3, 1) := by decide +kernel
theorem d1_11 : decode prog_31_method_2_code 11 = .ok (.putfield 20, 3) := by decide +kernel
theorem d1_14 : decode prog_31_method_2_code 14 = .ok (.aload_n 0, 1) := by decide +kernel
theorem d1_15 : decode prog_31_method_2_code 15 = .ok (.ldc2_w 24, 3) := by decide +kernel
theorem d1_18 : decode prog_31_method_2_code 18 = .ok (.bipush 64, 2) := by decide +kernel
theorem d1_20 : decode prog_31_method_2_code 20 = .ok (.iload_n 3, 1) := by decide +kernel
theorem d1_21 : decode prog_31_method_2_code 21 = .ok (.isub, 1) := by decide +kernel
theorem d1_22 : decode prog_31_method_2_code 22 = .ok (.lushr, 1) := by decide +kernel
theorem d1_23 : decode prog_31_method_2_code 23 = .ok (.putfield 28, 3) := by decide +kernel
theorem d1_26 : decode prog_31_method_2_code 26 = .ok (.aload_n 0, 1) := by decide +kernel
theorem d1_27 : decode prog_31_method_2_code 27 = .ok (.aload 4, 2) := by decide +kernel
theorem d1_29 : decode prog_31_method_2_code 29 = .ok (.putfield 31, 3) := by decide +kernel
theorem d1_32 : decode prog_31_method_2_code 32 = .ok (.return_, 1) := by decide +kernel
theorem pn0 : plainName "com/example/galdict/galdict/model/PackedArray" = true := by first | (simp [plainName, overriddenIn]; done) | decide +kernel
theorem ef_rm1 (m : MethodId) (a : Addr) (p0 : Int64) (p1 : Int32) (p2 : Addr) : entryFrame m #[(.ref a), (.long p0), (.int p1), (.ref p2)] 5 = mkF m 0 #[.val (.ref a), .val (.long p0), .second, .val (.int p1), .val (.ref p2)] [] := by first | (simp [entryFrame, mkF, argsToLocals, Value.category]; done) | rfl
def Q_rm1 (Z : State) (a : Addr) (p0 : Int64) (p1 : Int32) (p2 : Addr) (h0 : Heap) (n0 : Nat) (v : Option Value) (h : Heap) (L : List Loc) : Prop := v = none ∧ Fr n0 L ∧ Keep h0 h [a] ∧ Exa Z h a "com/example/galdict/galdict/model/PackedArray" ∧ Fld Z h a "com/example/galdict/galdict/model/PackedArray" "length" "J" (.long p0) ∧ Fld Z h a "com/example/galdict/galdict/model/PackedArray" "width" "I" (.int p1) ∧ Fld Z h a "com/example/galdict/galdict/model/PackedArray" "mask" "J" (.long (((-1 : Int64)).toUInt64 >>> (((64 : Int32) - p1) &&& 0x3f).toInt64.toUInt64).toInt64) ∧ Fld Z h a "com/example/galdict/galdict/model/PackedArray" "words" "[J" (.ref p2)
set_option maxRecDepth 65536 in
set_option maxHeartbeats 40000000 in
theorem rm1 (l : Launch) (Z : State) (a0 : Array Value) (hw : ∀ d ∈ tables_1, d.before a0 Z = true) (ws : List Jvm.Cond) (a : Addr) (p0 : Int64) (p1 : Int32) (p2 : Addr) (h0 : Heap) (n0 : Nat) (Z0 : n0 ≤ h0.size) (E0 : Exa Z h0 a "com/example/galdict/galdict/model/PackedArray") (F_length : Fld Z h0 a "com/example/galdict/galdict/model/PackedArray" "length" "J" (.long (0 : Int64))) (F_width : Fld Z h0 a "com/example/galdict/galdict/model/PackedArray" "width" "I" (.int (0 : Int32))) (F_mask : Fld Z h0 a "com/example/galdict/galdict/model/PackedArray" "mask" "J" (.long (0 : Int64))) (F_words : Fld Z h0 a "com/example/galdict/galdict/model/PackedArray" "words" "[J" .null) (ga : n0 ≤ a) :
    MetFree l (⟨"com/example/galdict/galdict/model/PackedArray", "<init>", "(JI[J)V"⟩ : MethodName) (head1 (Jvm.Cond.code (⟨"com/example/galdict/galdict/model/PackedArray", "<init>", "(JI[J)V"⟩ : MethodName) prog_31_method_2_code 5 none :: ws) ({ frames := 1, cells := 0, slots := 0, locals := 12 } : Room)) (fun aa U => aa = #[(.ref a), (.long p0), (.int p1), (.ref p2)] ∧ Z.Warmed39 U.vm ∧ U.heap = h0) (fun _ _ _ _ _ => True) (fun _ U o U' => ∃ v L, o = .returned v ∧ Q_rm1 Z a p0 p1 p2 h0 n0 v U'.heap L ∧ FrameEnd U o U' L ({ frames := 1, cells := 0, slots := 0, locals := 12 } : Room).cells ({ frames := 1, cells := 0, slots := 0, locals := 12 } : Room).slots) := by
  refine MetFree.of_bodySF (plainFor_of_name pn0) hisR ?_
  intro p e s m args below meth c s₁ Bd hml0 hP hK
  obtain ⟨rfl, hZ, hh⟩ := hP
  have hx := Bd.exec
  have hby := Bd.bytes
  have hml : c.maxLocals = 5 := hml0
  have hown : s.vm.findClass "com/example/galdict/galdict/model/PackedArray" = some m.cls := findClass_of_methodNamed Bd.named
  have hnm := (name_of_methodNamed Bd.named Bd.method).1
  have hlk : meth.locks = false := Bd.notSynchronized
  have hret := Bd.returns
  have X0 : Stand p l e ({ frames := 1, cells := 0, slots := 0, locals := 12 } : Room) s m #[(.ref a), (.long p0), (.int p1), (.ref p2)] below meth c s₁ [] 0 0 := Stand.of_body Bd
  have e0 : s₁.heap = h0 := by rw [← hh, Bd.state]; rfl
  have N0 := Fr.nil n0
  have K0 : Keep h0 h0 [a] := Keep.refl _ _
  show Goes p e below s (Q_rm1 Z a p0 p1 p2 h0 n0) ({ frames := 1, cells := 0, slots := 0, locals := 12 } : Room).cells ({ frames := 1, cells := 0, slots := 0, locals := 12 } : Room).slots _
  refine Goes.go (fun t k => castTop (ef_rm1 m a p0 p1 p2) k) ?_
  show Goes _ _ _ _ _ _ _ (s₁.setTop (mkF m 0 #[.val (.ref a), .val (.long p0), .second, .val (.int p1), .val (.ref p2)] []))
  refine Goes.go (fun _ k => XS.aloadN X0.here hx rfl (hb hby d1_0) rfl rfl k) ?_
  show Goes _ _ _ _ _ _ _ (s₁.setTop (mkF m 1 _ [(.ref a)]))
  obtain ⟨T1, X1, e1, st1⟩ := initO X0 hx hZ hown (hw _ (List.mem_of_getElem? (i := 11) rfl)) (hw _ (List.mem_of_getElem? (i := 12) rfl)) (hw _ (List.mem_of_getElem? (i := 13) rfl)) e0 (g := (mkF m 1 #[.val (.ref a), .val (.long p0), .second, .val (.int p1), .val (.ref p2)] [(.ref a)])) rfl (by rw [hml]; rfl) rfl (hb hby d1_1) (by decide) (W := 0) (by show 2 * 0 + _ ≤ _; exact Nat.le_of_eq rfl) (by decide)
  refine Goes.go (st1) ?_
  show Goes _ _ _ _ _ _ _ (T1.setTop (mkF m 4 _ []))
  refine Goes.go (fun _ k => XS.aloadN X1.here hx rfl (hb hby d1_4) rfl rfl k) ?_
  show Goes _ _ _ _ _ _ _ (T1.setTop (mkF m 5 _ [(.ref a)]))
  refine Goes.go (fun _ k => XS.lloadN X1.here hx rfl (hb hby d1_5) rfl k) ?_
  show Goes _ _ _ _ _ _ _ (T1.setTop (mkF m 6 _ [(.long p0), (.ref a)]))
  obtain ⟨T2, h2, X2, e2, W2, st2⟩ := putF X1 hx hZ hown (host := "") (Or.inl (hw _ (List.mem_of_getElem? (i := 14) rfl))) Via.refl e1 F_length E0 (Or.inr ⟨(hw _ (List.mem_of_getElem? (i := 15) rfl)), rfl, hnm⟩) (hw _ (List.mem_of_getElem? (i := 6) rfl)) (ty := .long) (by decide) rfl rfl (g := (mkF m 6 #[.val (.ref a), .val (.long p0), .second, .val (.int p1), .val (.ref p2)] [(.long p0), (.ref a)])) rfl rfl (hb hby d1_6)
  have N2 := Fr.snoc X2 N0 ga
  have f := Exa.wr W2 E0
  have f_1 := Fld.other W2 F_width (Or.inr (slot_ne (Or.inr (hw _ (List.mem_of_getElem? (i := 17) rfl))) (Or.inr (hw _ (List.mem_of_getElem? (i := 15) rfl))) (by decide) (t := .int) (t' := .long) (by decide) (by decide)))
  have f_2 := Fld.other W2 F_mask (Or.inr (slot_ne (Or.inr (hw _ (List.mem_of_getElem? (i := 20) rfl))) (Or.inr (hw _ (List.mem_of_getElem? (i := 15) rfl))) (by decide) (t := .long) (t' := .long) (by decide) (by decide)))
  have f_3 := Fld.other W2 F_words (Or.inr (slot_ne (Or.inr (hw _ (List.mem_of_getElem? (i := 22) rfl))) (Or.inr (hw _ (List.mem_of_getElem? (i := 15) rfl))) (by decide) (t := (.array .long)) (t' := .long) (by decide) (by decide)))
  have f_4 := Fld.same W2 F_length
  have Z2 : n0 ≤ h2.size := by rw [W2.size]; exact Z0
  have K2 := K0.wr W2 (Or.inl (List.mem_of_getElem? (i := 0) rfl))
  refine Goes.go (st2) ?_
  show Goes _ _ _ _ _ _ _ (T2.setTop (mkF m 9 _ []))
  refine Goes.go (fun _ k => XS.aloadN X2.here hx rfl (hb hby d1_9) rfl rfl k) ?_
  show Goes _ _ _ _ _ _ _ (T2.setTop (mkF m 10 _ [(.ref a)]))
  refine Goes.go (fun _ k => XS.iloadN X2.here hx rfl (hb hby d1_10) rfl k) ?_
  show Goes _ _ _ _ _ _ _ (T2.setTop (mkF m 11 _ [(.int p1), (.ref a)]))
  obtain ⟨T3, h3, X3, e3, W3, st3⟩ := putF X2 hx hZ hown (host := "") (Or.inl (hw _ (List.mem_of_getElem? (i := 16) rfl))) Via.refl e2 f_1 f (Or.inr ⟨(hw _ (List.mem_of_getElem? (i := 17) rfl)), rfl, hnm⟩) (hw _ (List.mem_of_getElem? (i := 6) rfl)) (ty := .int) (by decide) rfl rfl (g := (mkF m 11 #[.val (.ref a), .val (.long p0), .second, .val (.int p1), .val (.ref p2)] [(.int p1), (.ref a)])) rfl rfl (hb hby d1_11)
  have N3 := Fr.snoc X3 N2 ga
  have f_5 := Exa.wr W3 f
  have f_6 := Fld.other W3 f_4 (Or.inr (slot_ne (Or.inr (hw _ (List.mem_of_getElem? (i := 15) rfl))) (Or.inr (hw _ (List.mem_of_getElem? (i := 17) rfl))) (by decide) (t := .long) (t' := .int) (by decide) (by decide)))
  have f_7 := Fld.other W3 f_2 (Or.inr (slot_ne (Or.inr (hw _ (List.mem_of_getElem? (i := 20) rfl))) (Or.inr (hw _ (List.mem_of_getElem? (i := 17) rfl))) (by decide) (t := .long) (t' := .int) (by decide) (by decide)))
  have f_8 := Fld.other W3 f_3 (Or.inr (slot_ne (Or.inr (hw _ (List.mem_of_getElem? (i := 22) rfl))) (Or.inr (hw _ (List.mem_of_getElem? (i := 17) rfl))) (by decide) (t := (.array .long)) (t' := .int) (by decide) (by decide)))
  have f_9 := Fld.same W3 f_1
  have Z3 : n0 ≤ h3.size := by rw [W3.size]; exact Z2
  have K3 := K2.wr W3 (Or.inl (List.mem_of_getElem? (i := 0) rfl))
  refine Goes.go (st3) ?_
  show Goes _ _ _ _ _ _ _ (T3.setTop (mkF m 14 _ []))
  refine Goes.go (fun _ k => XS.aloadN X3.here hx rfl (hb hby d1_14) rfl rfl k) ?_
  show Goes _ _ _ _ _ _ _ (T3.setTop (mkF m 15 _ [(.ref a)]))
  refine Goes.go (fun _ k => X3.ldc2J hx (v := (-1 : Int64)) hown (mvT hZ (hw _ (List.mem_of_getElem? (i := 18) rfl))) rfl (hb hby d1_15) k) ?_
  show Goes _ _ _ _ _ _ _ (T3.setTop (mkF m 18 _ [(.long (-1 : Int64)), (.ref a)]))
  refine Goes.go (fun _ k => XS.bipush X3.here hx rfl (hb hby d1_18) k) ?_
  show Goes _ _ _ _ _ _ _ (T3.setTop (mkF m 20 _ [(.int (64 : Int32)), (.long (-1 : Int64)), (.ref a)]))
  refine Goes.go (fun _ k => XS.iloadN X3.here hx rfl (hb hby d1_20) rfl k) ?_
  show Goes _ _ _ _ _ _ _ (T3.setTop (mkF m 21 _ [(.int p1), (.int (64 : Int32)), (.long (-1 : Int64)), (.ref a)]))
  refine Goes.go (fun _ k => XS.isub X3.here hx rfl (hb hby d1_21) rfl k) ?_
  show Goes _ _ _ _ _ _ _ (T3.setTop (mkF m 22 _ [(.int ((64 : Int32) - p1)), (.long (-1 : Int64)), (.ref a)]))
  refine Goes.go (fun _ k => XS.lushr X3.here hx rfl (hb hby d1_22) rfl k) ?_
  show Goes _ _ _ _ _ _ _ (T3.setTop (mkF m 23 _ [(.long (((-1 : Int64)).toUInt64 >>> (((64 : Int32) - p1) &&& 0x3f).toInt64.toUInt64).toInt64), (.ref a)]))
  obtain ⟨T4, h4, X4, e4, W4, st4⟩ := putF X3 hx hZ hown (host := "") (Or.inl (hw _ (List.mem_of_getElem? (i := 19) rfl))) Via.refl e3 f_7 f_5 (Or.inr ⟨(hw _ (List.mem_of_getElem? (i := 20) rfl)), rfl, hnm⟩) (hw _ (List.mem_of_getElem? (i := 6) rfl)) (ty := .long) (by decide) rfl rfl (g := (mkF m 23 #[.val (.ref a), .val (.long p0), .second, .val (.int p1), .val (.ref p2)] [(.long (((-1 : Int64)).toUInt64 >>> (((64 : Int32) - p1) &&& 0x3f).toInt64.toUInt64).toInt64), (.ref a)])) rfl rfl (hb hby d1_23)
  have N4 := Fr.snoc X4 N3 ga
  have f_10 := Exa.wr W4 f_5
  have f_11 := Fld.other W4 f_6 (Or.inr (slot_ne (Or.inr (hw _ (List.mem_of_getElem? (i := 15) rfl))) (Or.inr (hw _ (List.mem_of_getElem? (i := 20) rfl))) (by decide) (t := .long) (t' := .long) (by decide) (by decide)))
  have f_12 := Fld.other W4 f_9 (Or.inr (slot_ne (Or.inr (hw _ (List.mem_of_getElem? (i := 17) rfl))) (Or.inr (hw _ (List.mem_of_getElem? (i := 20) rfl))) (by decide) (t := .int) (t' := .long) (by decide) (by decide)))
  have f_13 := Fld.other W4 f_8 (Or.inr (slot_ne (Or.inr (hw _ (List.mem_of_getElem? (i := 22) rfl))) (Or.inr (hw _ (List.mem_of_getElem? (i := 20) rfl))) (by decide) (t := (.array .long)) (t' := .long) (by decide) (by decide)))
  have f_14 := Fld.same W4 f_7
  have Z4 : n0 ≤ h4.size := by rw [W4.size]; exact Z3
  have K4 := K3.wr W4 (Or.inl (List.mem_of_getElem? (i := 0) rfl))
  refine Goes.go (st4) ?_
  show Goes _ _ _ _ _ _ _ (T4.setTop (mkF m 26 _ []))
  refine Goes.go (fun _ k => XS.aloadN X4.here hx rfl (hb hby d1_26) rfl rfl k) ?_
  show Goes _ _ _ _ _ _ _ (T4.setTop (mkF m 27 _ [(.ref a)]))
  refine Goes.go (fun _ k => XS.aload X4.here hx rfl (hb hby d1_27) rfl rfl k) ?_
  show Goes _ _ _ _ _ _ _ (T4.setTop (mkF m 29 _ [(.ref p2), (.ref a)]))
  obtain ⟨T5, h5, X5, e5, W5, st5⟩ := putF X4 hx hZ hown (host := "") (Or.inl (hw _ (List.mem_of_getElem? (i := 21) rfl))) Via.refl e4 f_13 f_10 (Or.inr ⟨(hw _ (List.mem_of_getElem? (i := 22) rfl)), rfl, hnm⟩) (hw _ (List.mem_of_getElem? (i := 6) rfl)) (ty := (.array .long)) (by decide) rfl rfl (g := (mkF m 29 #[.val (.ref a), .val (.long p0), .second, .val (.int p1), .val (.ref p2)] [(.ref p2), (.ref a)])) rfl rfl (hb hby d1_29)
  have N5 := Fr.snoc X5 N4 ga
  have f_15 := Exa.wr W5 f_10
  have f_16 := Fld.other W5 f_11 (Or.inr (slot_ne (Or.inr (hw _ (List.mem_of_getElem? (i := 15) rfl))) (Or.inr (hw _ (List.mem_of_getElem? (i := 22) rfl))) (by decide) (t := .long) (t' := (.array .long)) (by decide) (by decide)))
  have f_17 := Fld.other W5 f_12 (Or.inr (slot_ne (Or.inr (hw _ (List.mem_of_getElem? (i := 17) rfl))) (Or.inr (hw _ (List.mem_of_getElem? (i := 22) rfl))) (by decide) (t := .int) (t' := (.array .long)) (by decide) (by decide)))
  have f_18 := Fld.other W5 f_14 (Or.inr (slot_ne (Or.inr (hw _ (List.mem_of_getElem? (i := 20) rfl))) (Or.inr (hw _ (List.mem_of_getElem? (i := 22) rfl))) (by decide) (t := .long) (t' := (.array .long)) (by decide) (by decide)))
  have f_19 := Fld.same W5 f_13
  have Z5 : n0 ≤ h5.size := by rw [W5.size]; exact Z4
  have K5 := K4.wr W5 (Or.inl (List.mem_of_getElem? (i := 0) rfl))
  refine Goes.go (st5) ?_
  show Goes _ _ _ _ _ _ _ (T5.setTop (mkF m 32 _ []))
  exact Goes.outV X5 hx hlk hret (hb hby d1_32) e5 ⟨rfl, N5, K5, f_15, f_16, f_17, f_18, f_19⟩ (by decide) (by decide)
theorem d3_0 : decode prog_31_method_8_code 0 = .ok (.lload_n 1, 1) := by decide +kernel
theorem d3_1 : decode prog_31_method_8_code 1 = .ok (.aload_n 0, 1) := by decide +kernel
theorem d3_2 : decode prog_31_method_8_code 2 = .ok (.getfield 20, 3) := by decide +kernel
theorem d3_5 : decode prog_31_method_8_code 5 = .ok (.i2l, 1) := by decide +kernel
theorem d3_6 : decode prog_31_method_8_code 6 = .ok (.lmul, 1) := by decide +kernel
theorem d3_7 : decode prog_31_method_8_code 7 = .ok (.lstore 5, 2) := by decide +kernel
theorem d3_9 : decode prog_31_method_8_code 9 = .ok (.lload 5, 2) := by decide +kernel
theorem d3_11 : decode prog_31_method_8_code 11 = .ok (.bipush 6, 2) := by decide +kernel
theorem d3_13 : decode prog_31_method_8_code 13 = .ok (.lushr, 1) := by decide +kernel
theorem d3_14 : decode prog_31_method_8_code 14 = .ok (.l2i, 1) := by decide +kernel
theorem d3_15 : decode prog_31_method_8_code 15 = .ok (.istore 7, 2) := by decide +kernel
theorem d3_17 : decode prog_31_method_8_code 17 = .ok (.lload 5, 2) := by decide +kernel
theorem d3_19 : decode prog_31_method_8_code 19 = .ok (.l2i, 1) := by decide +kernel
theorem d3_20 : decode prog_31_method_8_code 20 = .ok (.bipush 63, 2) := by decide +kernel
theorem d3_22 : decode prog_31_method_8_code 22 = .ok (.iand, 1) := by decide +kernel
theorem d3_23 : decode prog_31_method_8_code 23 = .ok (.istore 8, 2) := by decide +kernel
theorem d3_25 : decode prog_31_method_8_code 25 = .ok (.aload_n 0, 1) := by decide +kernel
theorem d3_26 : decode prog_31_method_8_code 26 = .ok (.getfield 31, 3) := by decide +kernel
theorem d3_29 : decode prog_31_method_8_code 29 = .ok (.iload 7, 2) := by decide +kernel
theorem d3_31 : decode prog_31_method_8_code 31 = .ok (.aload_n 0, 1) := by decide +kernel
theorem d3_32 : decode prog_31_method_8_code 32 = .ok (.getfield 31, 3) := by decide +kernel
theorem d3_35 : decode prog_31_method_8_code 35 = .ok (.iload 7, 2) := by decide +kernel
theorem d3_37 : decode prog_31_method_8_code 37 = .ok (.laload, 1) := by decide +kernel
theorem d3_38 : decode prog_31_method_8_code 38 = .ok (.aload_n 0, 1) := by decide +kernel
theorem d3_39 : decode prog_31_method_8_code 39 = .ok (.getfield 28, 3) := by decide +kernel
theorem d3_42 : decode prog_31_method_8_code 42 = .ok (.iload 8, 2) := by decide +kernel
theorem d3_44 : decode prog_31_method_8_code 44 = .ok (.lshl, 1) := by decide +kernel
theorem d3_45 : decode prog_31_method_8_code 45 = .ok (.ldc2_w 24, 3) := by decide +kernel
theorem d3_48 : decode prog_31_method_8_code 48 = .ok (.lxor, 1) := by decide +kernel
theorem d3_49 : decode prog_31_method_8_code 49 = .ok (.land, 1) := by decide +kernel
theorem d3_50 : decode prog_31_method_8_code 50 = .ok (.lload_n 3, 1) := by decide +kernel
theorem d3_51 : decode prog_31_method_8_code 51 = .ok (.iload 8, 2) := by decide +kernel
theorem d3_53 : decode prog_31_method_8_code 53 = .ok (.lshl, 1) := by decide +kernel
theorem d3_54 : decode prog_31_method_8_code 54 = .ok (.lor, 1) := by decide +kernel
theorem d3_55 : decode prog_31_method_8_code 55 = .ok (.lastore, 1) := by decide +kernel
theorem d3_56 : decode prog_31_method_8_code 56 = .ok (.iload 8, 2) := by decide +kernel
theorem d3_58 : decode prog_31_method_8_code 58 = .ok (.aload_n 0, 1) := by decide +kernel
theorem d3_59 : decode prog_31_method_8_code 59 = .ok (.getfield 20, 3) := by decide +kernel
theorem d3_62 : decode prog_31_method_8_code 62 = .ok (.iadd, 1) := by decide +kernel
theorem d3_63 : decode prog_31_method_8_code 63 = .ok (.bipush 64, 2) := by decide +kernel
theorem d3_65 : decode prog_31_method_8_code 65 = .ok (.if_icmp .le 45, 3) := by decide +kernel
theorem d3_68 : decode prog_31_method_8_code 68 = .ok (.bipush 64, 2) := by decide +kernel
theorem d3_70 : decode prog_31_method_8_code 70 = .ok (.iload 8, 2) := by decide +kernel
theorem d3_72 : decode prog_31_method_8_code 72 = .ok (.isub, 1) := by decide +kernel
theorem d3_73 : decode prog_31_method_8_code 73 = .ok (.istore 9, 2) := by decide +kernel
theorem d3_75 : decode prog_31_method_8_code 75 = .ok (.aload_n 0, 1) := by decide +kernel
theorem d3_76 : decode prog_31_method_8_code 76 = .ok (.getfield 31, 3) := by decide +kernel
theorem d3_79 : decode prog_31_method_8_code 79 = .ok (.iload 7, 2) := by decide +kernel
theorem d3_81 : decode prog_31_method_8_code 81 = .ok (.iconst 1, 1) := by decide +kernel
theorem d3_82 : decode prog_31_method_8_code 82 = .ok (.iadd, 1) := by decide +kernel
theorem d3_83 : decode prog_31_method_8_code 83 = .ok (.aload_n 0, 1) := by decide +kernel
theorem d3_84 : decode prog_31_method_8_code 84 = .ok (.getfield 31, 3) := by decide +kernel
theorem d3_87 : decode prog_31_method_8_code 87 = .ok (.iload 7, 2) := by decide +kernel
theorem d3_89 : decode prog_31_method_8_code 89 = .ok (.iconst 1, 1) := by decide +kernel
theorem d3_90 : decode prog_31_method_8_code 90 = .ok (.iadd, 1) := by decide +kernel
theorem d3_91 : decode prog_31_method_8_code 91 = .ok (.laload, 1) := by decide +kernel
theorem d3_92 : decode prog_31_method_8_code 92 = .ok (.aload_n 0, 1) := by decide +kernel
theorem d3_93 : decode prog_31_method_8_code 93 = .ok (.getfield 28, 3) := by decide +kernel
theorem d3_96 : decode prog_31_method_8_code 96 = .ok (.iload 9, 2) := by decide +kernel
theorem d3_98 : decode prog_31_method_8_code 98 = .ok (.lushr, 1) := by decide +kernel
theorem d3_99 : decode prog_31_method_8_code 99 = .ok (.ldc2_w 24, 3) := by decide +kernel
theorem d3_102 : decode prog_31_method_8_code 102 = .ok (.lxor, 1) := by decide +kernel
theorem d3_103 : decode prog_31_method_8_code 103 = .ok (.land, 1) := by decide +kernel
theorem d3_104 : decode prog_31_method_8_code 104 = .ok (.lload_n 3, 1) := by decide +kernel
theorem d3_105 : decode prog_31_method_8_code 105 = .ok (.iload 9, 2) := by decide +kernel
theorem d3_107 : decode prog_31_method_8_code 107 = .ok (.lushr, 1) := by decide +kernel
theorem d3_108 : decode prog_31_method_8_code 108 = .ok (.lor, 1) := by decide +kernel
theorem d3_109 : decode prog_31_method_8_code 109 = .ok (.lastore, 1) := by decide +kernel
theorem d3_110 : decode prog_31_method_8_code 110 = .ok (.return_, 1) := by decide +kernel
theorem ef_rm2 (m : MethodId) (a : Addr) (ix : Int64) (vv : Int64) : entryFrame m #[(.ref a), (.long ix), (.long vv)] 10 = mkF m 0 #[.val (.ref a), .val (.long ix), .second, .val (.long vv), .second, .unset, .unset, .unset, .unset, .unset] [] := by first | (simp [entryFrame, mkF, argsToLocals, Value.category]; done) | rfl
def Q_rm2 (Z : State) (a : Addr) (ix : Int64) (vv : Int64) (w : Int32) (mk : Int64) (bb : Addr) (vs : List Value) (x : Int64) (y : Int64) (h0 : Heap) (n0 : Nat) (v : Option Value) (h : Heap) (L : List Loc) : Prop := v = none ∧ Fr n0 L ∧ Keep h0 h [bb] ∧ Arl Z h bb .long (svF Value.long vs ix w x y vv mk)
set_option maxRecDepth 65536 in
set_option maxHeartbeats 40000000 in
theorem rm2 (l : Launch) (Z : State) (a0 : Array Value) (hw : ∀ d ∈ tables_1, d.before a0 Z = true) (ws : List Jvm.Cond) (a : Addr) (ix : Int64) (vv : Int64) (w : Int32) (mk : Int64) (bb : Addr) (vs : List Value) (x : Int64) (y : Int64) (h0 : Heap) (n0 : Nat) (Z0 : n0 ≤ h0.size) (F_width : Fld Z h0 a "com/example/galdict/galdict/model/PackedArray" "width" "I" (.int w)) (F_mask : Fld Z h0 a "com/example/galdict/galdict/model/PackedArray" "mask" "J" (.long mk)) (F_words : Fld Z h0 a "com/example/galdict/galdict/model/PackedArray" "words" "[J" (.ref bb)) (A0 : Arl Z h0 bb .long vs) (nab : a ≠ bb) (gb : n0 ≤ bb) (q1 : ¬ gW ix w < 0) (q2 : vs[(gW ix w).toNatClampNeg]? = some (.long x)) (q3 : (64 : Int32) < gO ix w + w → ¬ (gW ix w + (1 : Int32)) < 0 ∧ vs[(gW ix w + (1 : Int32)).toNatClampNeg]? = some (.long y)) :
    MetFree l (⟨"com/example/galdict/galdict/model/PackedArray", "set", "(JJ)V"⟩ : MethodName) (head1 (Jvm.Cond.code (⟨"com/example/galdict/galdict/model/PackedArray", "set", "(JJ)V"⟩ : MethodName) prog_31_method_8_code 10 none :: ws) ({ frames := 0, cells := 0, slots := 0, locals := 0 } : Room)) (fun aa U => aa = #[(.ref a), (.long ix), (.long vv)] ∧ Z.Warmed39 U.vm ∧ U.heap = h0) (fun _ _ _ _ _ => True) (fun _ U o U' => ∃ v L, o = .returned v ∧ Q_rm2 Z a ix vv w mk bb vs x y h0 n0 v U'.heap L ∧ FrameEnd U o U' L ({ frames := 0, cells := 0, slots := 0, locals := 0 } : Room).cells ({ frames := 0, cells := 0, slots := 0, locals := 0 } : Room).slots) := by
  refine MetFree.of_bodySF (plainFor_of_name pn0) hisR ?_
  intro p e s m args below meth c s₁ Bd hml0 hP hK
  obtain ⟨rfl, hZ, hh⟩ := hP
  have hx := Bd.exec
  have hby := Bd.bytes
  have hml : c.maxLocals = 10 := hml0
  have hown : s.vm.findClass "com/example/galdict/galdict/model/PackedArray" = some m.cls := findClass_of_methodNamed Bd.named
  have hnm := (name_of_methodNamed Bd.named Bd.method).1
  have hlk : meth.locks = false := Bd.notSynchronized
  have hret := Bd.returns
  have X0 : Stand p l e ({ frames := 0, cells := 0, slots := 0, locals := 0 } : Room) s m #[(.ref a), (.long ix), (.long vv)] below meth c s₁ [] 0 0 := Stand.of_body Bd
  have e0 : s₁.heap = h0 := by rw [← hh, Bd.state]; rfl
  have N0 := Fr.nil n0
  have K0 : Keep h0 h0 [bb] := Keep.refl _ _
  show Goes p e below s (Q_rm2 Z a ix vv w mk bb vs x y h0 n0) ({ frames := 0, cells := 0, slots := 0, locals := 0 } : Room).cells ({ frames := 0, cells := 0, slots := 0, locals := 0 } : Room).slots _
  refine Goes.go (fun t k => castTop (ef_rm2 m a ix vv) k) ?_
  show Goes _ _ _ _ _ _ _ (s₁.setTop (mkF m 0 #[.val (.ref a), .val (.long ix), .second, .val (.long vv), .second, .unset, .unset, .unset, .unset, .unset] []))
  refine Goes.go (fun _ k => XS.lloadN X0.here hx rfl (hb hby d3_0) rfl k) ?_
  show Goes _ _ _ _ _ _ _ (s₁.setTop (mkF m 1 _ [(.long ix)]))
  refine Goes.go (fun _ k => XS.aloadN X0.here hx rfl (hb hby d3_1) rfl rfl k) ?_
  show Goes _ _ _ _ _ _ _ (s₁.setTop (mkF m 2 _ [(.ref a), (.long ix)]))
  obtain ⟨T1, X1, e1, st1⟩ := getF X0 hx hZ hown (host := "") (Or.inl (hw _ (List.mem_of_getElem? (i := 16) rfl))) Via.refl e0 F_width (g := (mkF m 2 #[.val (.ref a), .val (.long ix), .second, .val (.long vv), .second, .unset, .unset, .unset, .unset, .unset] [(.ref a), (.long ix)])) rfl rfl (hb hby d3_2)
  refine Goes.go (st1) ?_
  show Goes _ _ _ _ _ _ _ (T1.setTop (mkF m 5 _ [(.int w), (.long ix)]))
  refine Goes.go (fun _ k => XS.i2l X1.here hx rfl (hb hby d3_5) rfl k) ?_
  show Goes _ _ _ _ _ _ _ (T1.setTop (mkF m 6 _ [(.long (w).toInt64), (.long ix)]))
  refine Goes.go (fun _ k => XS.lmul X1.here hx rfl (hb hby d3_6) rfl k) ?_
  show Goes _ _ _ _ _ _ _ (T1.setTop (mkF m 7 _ [(.long (ix * (w).toInt64))]))
  generalize hv7 : (ix * (w).toInt64) = v7
  refine Goes.go (fun _ k => XS.lstore X1.here hx rfl (hb hby d3_7) rfl (l' := #[.val (.ref a), .val (.long ix), .second, .val (.long vv), .second, .val (.long v7), .second, .unset, .unset, .unset]) rfl k) ?_
  show Goes _ _ _ _ _ _ _ (T1.setTop (mkF m 9 #[.val (.ref a), .val (.long ix), .second, .val (.long vv), .second, .val (.long v7), .second, .unset, .unset, .unset] []))
  refine Goes.go (fun _ k => XS.lload X1.here hx rfl (hb hby d3_9) rfl k) ?_
  show Goes _ _ _ _ _ _ _ (T1.setTop (mkF m 11 _ [(.long v7)]))
  refine Goes.go (fun _ k => XS.bipush X1.here hx rfl (hb hby d3_11) k) ?_
  show Goes _ _ _ _ _ _ _ (T1.setTop (mkF m 13 _ [(.int (6 : Int32)), (.long v7)]))
  refine Goes.go (fun _ k => XS.lushr X1.here hx rfl (hb hby d3_13) rfl k) ?_
  show Goes _ _ _ _ _ _ _ (T1.setTop (mkF m 14 _ [(.long ((v7).toUInt64 >>> ((6 : Int32) &&& 0x3f).toInt64.toUInt64).toInt64)]))
  refine Goes.go (fun _ k => XS.l2i X1.here hx rfl (hb hby d3_14) rfl k) ?_
  show Goes _ _ _ _ _ _ _ (T1.setTop (mkF m 15 _ [(.int (((v7).toUInt64 >>> ((6 : Int32) &&& 0x3f).toInt64.toUInt64).toInt64).toInt32)]))
  generalize hv15 : (((v7).toUInt64 >>> ((6 : Int32) &&& 0x3f).toInt64.toUInt64).toInt64).toInt32 = v15
  refine Goes.go (fun _ k => XS.istore X1.here hx rfl (hb hby d3_15) rfl (l' := #[.val (.ref a), .val (.long ix), .second, .val (.long vv), .second, .val (.long v7), .second, .val (.int v15), .unset, .unset]) rfl k) ?_
  show Goes _ _ _ _ _ _ _ (T1.setTop (mkF m 17 #[.val (.ref a), .val (.long ix), .second, .val (.long vv), .second, .val (.long v7), .second, .val (.int v15), .unset, .unset] []))
  refine Goes.go (fun _ k => XS.lload X1.here hx rfl (hb hby d3_17) rfl k) ?_
  show Goes _ _ _ _ _ _ _ (T1.setTop (mkF m 19 _ [(.long v7)]))
  refine Goes.go (fun _ k => XS.l2i X1.here hx rfl (hb hby d3_19) rfl k) ?_
  show Goes _ _ _ _ _ _ _ (T1.setTop (mkF m 20 _ [(.int (v7).toInt32)]))
  refine Goes.go (fun _ k => XS.bipush X1.here hx rfl (hb hby d3_20) k) ?_
  show Goes _ _ _ _ _ _ _ (T1.setTop (mkF m 22 _ [(.int (63 : Int32)), (.int (v7).toInt32)]))
  refine Goes.go (fun _ k => XS.iand X1.here hx rfl (hb hby d3_22) rfl k) ?_
  show Goes _ _ _ _ _ _ _ (T1.setTop (mkF m 23 _ [(.int ((v7).toInt32 &&& (63 : Int32)))]))
  generalize hv23 : ((v7).toInt32 &&& (63 : Int32)) = v23
  refine Goes.go (fun _ k => XS.istore X1.here hx rfl (hb hby d3_23) rfl (l' := #[.val (.ref a), .val (.long ix), .second, .val (.long vv), .second, .val (.long v7), .second, .val (.int v15), .val (.int v23), .unset]) rfl k) ?_
  show Goes _ _ _ _ _ _ _ (T1.setTop (mkF m 25 #[.val (.ref a), .val (.long ix), .second, .val (.long vv), .second, .val (.long v7), .second, .val (.int v15), .val (.int v23), .unset] []))
  have e15 : gW ix w = v15 := by unfold gW; rw [hv7, hv15]
  have e23 : gO ix w = v23 := by unfold gO; rw [hv7, hv23]
  rw [e15, e23] at q3; rw [e15] at q1 q2
  refine Goes.go (fun _ k => XS.aloadN X1.here hx rfl (hb hby d3_25) rfl rfl k) ?_
  show Goes _ _ _ _ _ _ _ (T1.setTop (mkF m 26 _ [(.ref a)]))
  obtain ⟨T2, X2, e2, st2⟩ := getF X1 hx hZ hown (host := "") (Or.inl (hw _ (List.mem_of_getElem? (i := 21) rfl))) Via.refl e1 F_words (g := (mkF m 26 #[.val (.ref a), .val (.long ix), .second, .val (.long vv), .second, .val (.long v7), .second, .val (.int v15), .val (.int v23), .unset] [(.ref a)])) rfl rfl (hb hby d3_26)
  refine Goes.go (st2) ?_
  show Goes _ _ _ _ _ _ _ (T2.setTop (mkF m 29 _ [(.ref bb)]))
  refine Goes.go (fun _ k => XS.iload X2.here hx rfl (hb hby d3_29) rfl k) ?_
  show Goes _ _ _ _ _ _ _ (T2.setTop (mkF m 31 _ [(.int v15), (.ref bb)]))
  refine Goes.go (fun _ k => XS.aloadN X2.here hx rfl (hb hby d3_31) rfl rfl k) ?_
  show Goes _ _ _ _ _ _ _ (T2.setTop (mkF m 32 _ [(.ref a), (.int v15), (.ref bb)]))
  obtain ⟨T3, X3, e3, st3⟩ := getF X2 hx hZ hown (host := "") (Or.inl (hw _ (List.mem_of_getElem? (i := 21) rfl))) Via.refl e2 F_words (g := (mkF m 32 #[.val (.ref a), .val (.long ix), .second, .val (.long vv), .second, .val (.long v7), .second, .val (.int v15), .val (.int v23), .unset] [(.ref a), (.int v15), (.ref bb)])) rfl rfl (hb hby d3_32)
  refine Goes.go (st3) ?_
  show Goes _ _ _ _ _ _ _ (T3.setTop (mkF m 35 _ [(.ref bb), (.int v15), (.ref bb)]))
  refine Goes.go (fun _ k => XS.iload X3.here hx rfl (hb hby d3_35) rfl k) ?_
  show Goes _ _ _ _ _ _ _ (T3.setTop (mkF m 37 _ [(.int v15), (.ref bb), (.int v15), (.ref bb)]))
  refine Goes.go (own_ldJ X3 hx hZ e3 A0 (j := v15) (v := (.long x)) q1 q2 rfl rfl (hb hby d3_37)) ?_
  show Goes _ _ _ _ _ _ _ (T3.setTop (mkF m 38 _ [(.long x), (.int v15), (.ref bb)]))
  refine Goes.go (fun _ k => XS.aloadN X3.here hx rfl (hb hby d3_38) rfl rfl k) ?_
  show Goes _ _ _ _ _ _ _ (T3.setTop (mkF m 39 _ [(.ref a), (.long x), (.int v15), (.ref bb)]))
  obtain ⟨T4, X4, e4, st4⟩ := getF X3 hx hZ hown (host := "") (Or.inl (hw _ (List.mem_of_getElem? (i := 19) rfl))) Via.refl e3 F_mask (g := (mkF m 39 #[.val (.ref a), .val (.long ix), .second, .val (.long vv), .second, .val (.long v7), .second, .val (.int v15), .val (.int v23), .unset] [(.ref a), (.long x), (.int v15), (.ref bb)])) rfl rfl (hb hby d3_39)
  refine Goes.go (st4) ?_
  show Goes _ _ _ _ _ _ _ (T4.setTop (mkF m 42 _ [(.long mk), (.long x), (.int v15), (.ref bb)]))
  refine Goes.go (fun _ k => XS.iload X4.here hx rfl (hb hby d3_42) rfl k) ?_
  show Goes _ _ _ _ _ _ _ (T4.setTop (mkF m 44 _ [(.int v23), (.long mk), (.long x), (.int v15), (.ref bb)]))
  refine Goes.go (fun _ k => XS.lshl X4.here hx rfl (hb hby d3_44) rfl k) ?_
  show Goes _ _ _ _ _ _ _ (T4.setTop (mkF m 45 _ [(.long (mk <<< (v23 &&& 0x3f).toInt64)), (.long x), (.int v15), (.ref bb)]))
  refine Goes.go (fun _ k => X4.ldc2J hx (v := (-1 : Int64)) hown (mvT hZ (hw _ (List.mem_of_getElem? (i := 18) rfl))) rfl (hb hby d3_45) k) ?_
  show Goes _ _ _ _ _ _ _ (T4.setTop (mkF m 48 _ [(.long (-1 : Int64)), (.long (mk <<< (v23 &&& 0x3f).toInt64)), (.long x), (.int v15), (.ref bb)]))
  refine Goes.go (fun _ k => XS.lxor X4.here hx rfl (hb hby d3_48) rfl k) ?_
  show Goes _ _ _ _ _ _ _ (T4.setTop (mkF m 49 _ [(.long ((mk <<< (v23 &&& 0x3f).toInt64) ^^^ (-1 : Int64))), (.long x), (.int v15), (.ref bb)]))
  refine Goes.go (fun _ k => XS.land X4.here hx rfl (hb hby d3_49) rfl k) ?_
  show Goes _ _ _ _ _ _ _ (T4.setTop (mkF m 50 _ [(.long (x &&& ((mk <<< (v23 &&& 0x3f).toInt64) ^^^ (-1 : Int64)))), (.int v15), (.ref bb)]))
  refine Goes.go (fun _ k => XS.lloadN X4.here hx rfl (hb hby d3_50) rfl k) ?_
  show Goes _ _ _ _ _ _ _ (T4.setTop (mkF m 51 _ [(.long vv), (.long (x &&& ((mk <<< (v23 &&& 0x3f).toInt64) ^^^ (-1 : Int64)))), (.int v15), (.ref bb)]))
  refine Goes.go (fun _ k => XS.iload X4.here hx rfl (hb hby d3_51) rfl k) ?_
  show Goes _ _ _ _ _ _ _ (T4.setTop (mkF m 53 _ [(.int v23), (.long vv), (.long (x &&& ((mk <<< (v23 &&& 0x3f).toInt64) ^^^ (-1 : Int64)))), (.int v15), (.ref bb)]))
  refine Goes.go (fun _ k => XS.lshl X4.here hx rfl (hb hby d3_53) rfl k) ?_
  show Goes _ _ _ _ _ _ _ (T4.setTop (mkF m 54 _ [(.long (vv <<< (v23 &&& 0x3f).toInt64)), (.long (x &&& ((mk <<< (v23 &&& 0x3f).toInt64) ^^^ (-1 : Int64)))), (.int v15), (.ref bb)]))
  refine Goes.go (fun _ k => XS.lor X4.here hx rfl (hb hby d3_54) rfl k) ?_
  show Goes _ _ _ _ _ _ _ (T4.setTop (mkF m 55 _ [(.long ((x &&& ((mk <<< (v23 &&& 0x3f).toInt64) ^^^ (-1 : Int64))) ||| (vv <<< (v23 &&& 0x3f).toInt64))), (.int v15), (.ref bb)]))
  obtain ⟨T5, h5, X5, e5, W5, A5, st5⟩ := own_stJ X4 hx hZ e4 A0 (j := v15) (x := ((x &&& ((mk <<< (v23 &&& 0x3f).toInt64) ^^^ (-1 : Int64))) ||| (vv <<< (v23 &&& 0x3f).toInt64))) q1 (own_lt q2) (g := (mkF m 55 #[.val (.ref a), .val (.long ix), .second, .val (.long vv), .second, .val (.long v7), .second, .val (.int v15), .val (.int v23), .unset] [(.long ((x &&& ((mk <<< (v23 &&& 0x3f).toInt64) ^^^ (-1 : Int64))) ||| (vv <<< (v23 &&& 0x3f).toInt64))), (.int v15), (.ref bb)])) rfl rfl (hb hby d3_55)
  have N5 := Fr.snoc X5 N0 gb
  have f := Fld.other W5 F_width (Or.inl nab)
  have f_1 := Fld.other W5 F_mask (Or.inl nab)
  have f_2 := Fld.other W5 F_words (Or.inl nab)
  have K5 := K0.wr W5 (Or.inl (List.mem_of_getElem? (i := 0) rfl))
  have Z5 : n0 ≤ h5.size := by rw [W5.size]; exact Z0
  refine Goes.go (st5) ?_
  show Goes _ _ _ _ _ _ _ (T5.setTop (mkF m 56 _ []))
  refine Goes.go (fun _ k => XS.iload X5.here hx rfl (hb hby d3_56) rfl k) ?_
  show Goes _ _ _ _ _ _ _ (T5.setTop (mkF m 58 _ [(.int v23)]))
  refine Goes.go (fun _ k => XS.aloadN X5.here hx rfl (hb hby d3_58) rfl rfl k) ?_
  show Goes _ _ _ _ _ _ _ (T5.setTop (mkF m 59 _ [(.ref a), (.int v23)]))
  obtain ⟨T6, X6, e6, st6⟩ := getF X5 hx hZ hown (host := "") (Or.inl (hw _ (List.mem_of_getElem? (i := 16) rfl))) Via.refl e5 f (g := (mkF m 59 #[.val (.ref a), .val (.long ix), .second, .val (.long vv), .second, .val (.long v7), .second, .val (.int v15), .val (.int v23), .unset] [(.ref a), (.int v23)])) rfl rfl (hb hby d3_59)
  refine Goes.go (st6) ?_
  show Goes _ _ _ _ _ _ _ (T6.setTop (mkF m 62 _ [(.int w), (.int v23)]))
  refine Goes.go (fun _ k => XS.iadd X6.here hx rfl (hb hby d3_62) rfl k) ?_
  show Goes _ _ _ _ _ _ _ (T6.setTop (mkF m 63 _ [(.int (v23 + w))]))
  refine Goes.go (fun _ k => XS.bipush X6.here hx rfl (hb hby d3_63) k) ?_
  show Goes _ _ _ _ _ _ _ (T6.setTop (mkF m 65 _ [(.int (64 : Int32)), (.int (v23 + w))]))
  by_cases c65 : (64 : Int32) < (v23 + w)
  · skip
    refine Goes.go (fun _ k => XS.icmpNo X6.here hx rfl (hb hby d3_65) rfl (XT.ii_le_f c65) k) ?_
    show Goes _ _ _ _ _ _ _ (T6.setTop (mkF m 68 _ []))
    refine Goes.go (fun _ k => XS.bipush X6.here hx rfl (hb hby d3_68) k) ?_
    show Goes _ _ _ _ _ _ _ (T6.setTop (mkF m 70 _ [(.int (64 : Int32))]))
    refine Goes.go (fun _ k => XS.iload X6.here hx rfl (hb hby d3_70) rfl k) ?_
    show Goes _ _ _ _ _ _ _ (T6.setTop (mkF m 72 _ [(.int v23), (.int (64 : Int32))]))
    refine Goes.go (fun _ k => XS.isub X6.here hx rfl (hb hby d3_72) rfl k) ?_
    show Goes _ _ _ _ _ _ _ (T6.setTop (mkF m 73 _ [(.int ((64 : Int32) - v23))]))
    generalize hv73 : ((64 : Int32) - v23) = v73
    refine Goes.go (fun _ k => XS.istore X6.here hx rfl (hb hby d3_73) rfl (l' := #[.val (.ref a), .val (.long ix), .second, .val (.long vv), .second, .val (.long v7), .second, .val (.int v15), .val (.int v23), .val (.int v73)]) rfl k) ?_
    show Goes _ _ _ _ _ _ _ (T6.setTop (mkF m 75 #[.val (.ref a), .val (.long ix), .second, .val (.long vv), .second, .val (.long v7), .second, .val (.int v15), .val (.int v23), .val (.int v73)] []))
    refine Goes.go (fun _ k => XS.aloadN X6.here hx rfl (hb hby d3_75) rfl rfl k) ?_
    show Goes _ _ _ _ _ _ _ (T6.setTop (mkF m 76 _ [(.ref a)]))
    obtain ⟨T7, X7, e7, st7⟩ := getF X6 hx hZ hown (host := "") (Or.inl (hw _ (List.mem_of_getElem? (i := 21) rfl))) Via.refl e6 f_2 (g := (mkF m 76 #[.val (.ref a), .val (.long ix), .second, .val (.long vv), .second, .val (.long v7), .second, .val (.int v15), .val (.int v23), .val (.int v73)] [(.ref a)])) rfl rfl (hb hby d3_76)
    refine Goes.go (st7) ?_
    show Goes _ _ _ _ _ _ _ (T7.setTop (mkF m 79 _ [(.ref bb)]))
    refine Goes.go (fun _ k => XS.iload X7.here hx rfl (hb hby d3_79) rfl k) ?_
    show Goes _ _ _ _ _ _ _ (T7.setTop (mkF m 81 _ [(.int v15), (.ref bb)]))
    refine Goes.go (fun _ k => XS.iconst X7.here hx rfl (hb hby d3_81) k) ?_
    show Goes _ _ _ _ _ _ _ (T7.setTop (mkF m 82 _ [(.int (1 : Int32)), (.int v15), (.ref bb)]))
    refine Goes.go (fun _ k => XS.iadd X7.here hx rfl (hb hby d3_82) rfl k) ?_
    show Goes _ _ _ _ _ _ _ (T7.setTop (mkF m 83 _ [(.int (v15 + (1 : Int32))), (.ref bb)]))
    refine Goes.go (fun _ k => XS.aloadN X7.here hx rfl (hb hby d3_83) rfl rfl k) ?_
    show Goes _ _ _ _ _ _ _ (T7.setTop (mkF m 84 _ [(.ref a), (.int (v15 + (1 : Int32))), (.ref bb)]))
    obtain ⟨T8, X8, e8, st8⟩ := getF X7 hx hZ hown (host := "") (Or.inl (hw _ (List.mem_of_getElem? (i := 21) rfl))) Via.refl e7 f_2 (g := (mkF m 84 #[.val (.ref a), .val (.long ix), .second, .val (.long vv), .second, .val (.long v7), .second, .val (.int v15), .val (.int v23), .val (.int v73)] [(.ref a), (.int (v15 + (1 : Int32))), (.ref bb)])) rfl rfl (hb hby d3_84)
    refine Goes.go (st8) ?_
    show Goes _ _ _ _ _ _ _ (T8.setTop (mkF m 87 _ [(.ref bb), (.int (v15 + (1 : Int32))), (.ref bb)]))
    refine Goes.go (fun _ k => XS.iload X8.here hx rfl (hb hby d3_87) rfl k) ?_
    show Goes _ _ _ _ _ _ _ (T8.setTop (mkF m 89 _ [(.int v15), (.ref bb), (.int (v15 + (1 : Int32))), (.ref bb)]))
    refine Goes.go (fun _ k => XS.iconst X8.here hx rfl (hb hby d3_89) k) ?_
    show Goes _ _ _ _ _ _ _ (T8.setTop (mkF m 90 _ [(.int (1 : Int32)), (.int v15), (.ref bb), (.int (v15 + (1 : Int32))), (.ref bb)]))
    refine Goes.go (fun _ k => XS.iadd X8.here hx rfl (hb hby d3_90) rfl k) ?_
    show Goes _ _ _ _ _ _ _ (T8.setTop (mkF m 91 _ [(.int (v15 + (1 : Int32))), (.ref bb), (.int (v15 + (1 : Int32))), (.ref bb)]))
    refine Goes.go (own_ldJ X8 hx hZ e8 A5 (j := (v15 + (1 : Int32))) (v := (.long y)) (q3 c65).1 (by rw [List.getElem?_set_ne (own_ne1 q1 (q3 c65).1)]; exact (q3 c65).2) rfl rfl (hb hby d3_91)) ?_
    show Goes _ _ _ _ _ _ _ (T8.setTop (mkF m 92 _ [(.long y), (.int (v15 + (1 : Int32))), (.ref bb)]))
    refine Goes.go (fun _ k => XS.aloadN X8.here hx rfl (hb hby d3_92) rfl rfl k) ?_
    show Goes _ _ _ _ _ _ _ (T8.setTop (mkF m 93 _ [(.ref a), (.long y), (.int (v15 + (1 : Int32))), (.ref bb)]))
    obtain ⟨T9, X9, e9, st9⟩ := getF X8 hx hZ hown (host := "") (Or.inl (hw _ (List.mem_of_getElem? (i := 19) rfl))) Via.refl e8 f_1 (g := (mkF m 93 #[.val (.ref a), .val (.long ix), .second, .val (.long vv), .second, .val (.long v7), .second, .val (.int v15), .val (.int v23), .val (.int v73)] [(.ref a), (.long y), (.int (v15 + (1 : Int32))), (.ref bb)])) rfl rfl (hb hby d3_93)
    refine Goes.go (st9) ?_
    show Goes _ _ _ _ _ _ _ (T9.setTop (mkF m 96 _ [(.long mk), (.long y), (.int (v15 + (1 : Int32))), (.ref bb)]))
    refine Goes.go (fun _ k => XS.iload X9.here hx rfl (hb hby d3_96) rfl k) ?_
    show Goes _ _ _ _ _ _ _ (T9.setTop (mkF m 98 _ [(.int v73), (.long mk), (.long y), (.int (v15 + (1 : Int32))), (.ref bb)]))
    refine Goes.go (fun _ k => XS.lushr X9.here hx rfl (hb hby d3_98) rfl k) ?_
    show Goes _ _ _ _ _ _ _ (T9.setTop (mkF m 99 _ [(.long ((mk).toUInt64 >>> (v73 &&& 0x3f).toInt64.toUInt64).toInt64), (.long y), (.int (v15 + (1 : Int32))), (.ref bb)]))
    refine Goes.go (fun _ k => X9.ldc2J hx (v := (-1 : Int64)) hown (mvT hZ (hw _ (List.mem_of_getElem? (i := 18) rfl))) rfl (hb hby d3_99) k) ?_
    show Goes _ _ _ _ _ _ _ (T9.setTop (mkF m 102 _ [(.long (-1 : Int64)), (.long ((mk).toUInt64 >>> (v73 &&& 0x3f).toInt64.toUInt64).toInt64), (.long y), (.int (v15 + (1 : Int32))), (.ref bb)]))
    refine Goes.go (fun _ k => XS.lxor X9.here hx rfl (hb hby d3_102) rfl k) ?_
    show Goes _ _ _ _ _ _ _ (T9.setTop (mkF m 103 _ [(.long (((mk).toUInt64 >>> (v73 &&& 0x3f).toInt64.toUInt64).toInt64 ^^^ (-1 : Int64))), (.long y), (.int (v15 + (1 : Int32))), (.ref bb)]))
    refine Goes.go (fun _ k => XS.land X9.here hx rfl (hb hby d3_103) rfl k) ?_
    show Goes _ _ _ _ _ _ _ (T9.setTop (mkF m 104 _ [(.long (y &&& (((mk).toUInt64 >>> (v73 &&& 0x3f).toInt64.toUInt64).toInt64 ^^^ (-1 : Int64)))), (.int (v15 + (1 : Int32))), (.ref bb)]))
    refine Goes.go (fun _ k => XS.lloadN X9.here hx rfl (hb hby d3_104) rfl k) ?_
    show Goes _ _ _ _ _ _ _ (T9.setTop (mkF m 105 _ [(.long vv), (.long (y &&& (((mk).toUInt64 >>> (v73 &&& 0x3f).toInt64.toUInt64).toInt64 ^^^ (-1 : Int64)))), (.int (v15 + (1 : Int32))), (.ref bb)]))
    refine Goes.go (fun _ k => XS.iload X9.here hx rfl (hb hby d3_105) rfl k) ?_
    show Goes _ _ _ _ _ _ _ (T9.setTop (mkF m 107 _ [(.int v73), (.long vv), (.long (y &&& (((mk).toUInt64 >>> (v73 &&& 0x3f).toInt64.toUInt64).toInt64 ^^^ (-1 : Int64)))), (.int (v15 + (1 : Int32))), (.ref bb)]))
    refine Goes.go (fun _ k => XS.lushr X9.here hx rfl (hb hby d3_107) rfl k) ?_
    show Goes _ _ _ _ _ _ _ (T9.setTop (mkF m 108 _ [(.long ((vv).toUInt64 >>> (v73 &&& 0x3f).toInt64.toUInt64).toInt64), (.long (y &&& (((mk).toUInt64 >>> (v73 &&& 0x3f).toInt64.toUInt64).toInt64 ^^^ (-1 : Int64)))), (.int (v15 + (1 : Int32))), (.ref bb)]))
    refine Goes.go (fun _ k => XS.lor X9.here hx rfl (hb hby d3_108) rfl k) ?_
    show Goes _ _ _ _ _ _ _ (T9.setTop (mkF m 109 _ [(.long ((y &&& (((mk).toUInt64 >>> (v73 &&& 0x3f).toInt64.toUInt64).toInt64 ^^^ (-1 : Int64))) ||| ((vv).toUInt64 >>> (v73 &&& 0x3f).toInt64.toUInt64).toInt64)), (.int (v15 + (1 : Int32))), (.ref bb)]))
    obtain ⟨T10, h10, X10, e10, W10, A10, st10⟩ := own_stJ X9 hx hZ e9 A5 (j := (v15 + (1 : Int32))) (x := ((y &&& (((mk).toUInt64 >>> (v73 &&& 0x3f).toInt64.toUInt64).toInt64 ^^^ (-1 : Int64))) ||| ((vv).toUInt64 >>> (v73 &&& 0x3f).toInt64.toUInt64).toInt64)) (q3 c65).1 (by rw [List.length_set]; exact own_lt (q3 c65).2) (g := (mkF m 109 #[.val (.ref a), .val (.long ix), .second, .val (.long vv), .second, .val (.long v7), .second, .val (.int v15), .val (.int v23), .val (.int v73)] [(.long ((y &&& (((mk).toUInt64 >>> (v73 &&& 0x3f).toInt64.toUInt64).toInt64 ^^^ (-1 : Int64))) ||| ((vv).toUInt64 >>> (v73 &&& 0x3f).toInt64.toUInt64).toInt64)), (.int (v15 + (1 : Int32))), (.ref bb)])) rfl rfl (hb hby d3_109)
    have N10 := Fr.snoc X10 N5 gb
    have f_3 := Fld.other W10 f (Or.inl nab)
    have f_4 := Fld.other W10 f_1 (Or.inl nab)
    have f_5 := Fld.other W10 f_2 (Or.inl nab)
    have K10 := K5.wr W10 (Or.inl (List.mem_of_getElem? (i := 0) rfl))
    have Z10 : n0 ≤ h10.size := by rw [W10.size]; exact Z5
    refine Goes.go (st10) ?_
    show Goes _ _ _ _ _ _ _ (T10.setTop (mkF m 110 _ []))
    exact Goes.outV X10 hx hlk hret (hb hby d3_110) e10 ⟨rfl, N10, K10, A10.eq (by simp only [svF, sF1, sF2, e15, e23, if_pos c65, hv73])⟩ (by decide) (by decide)
  · skip
    refine Goes.go (fun _ k => XS.icmpYes X6.here hx rfl (pc0 := 65) (pc' := 110) rfl (hb hby d3_65) rfl (XT.ii_le_t c65) (by decide) (by decide) k) ?_
    show Goes _ _ _ _ _ _ _ (T6.setTop (mkF m 110 _ []))
    exact Goes.outV X6 hx hlk hret (hb hby d3_110) e6 ⟨rfl, N5, K5, A5.eq (by simp only [svF, sF1, sF2, e15, e23, if_neg c65])⟩ (by decide) (by decide)
theorem d5_0 : decode jdk_29_method_66_code 0 = .ok (.lload_n 0, 1) := by decide +kernel
theorem d5_1 : decode jdk_29_method_66_code 1 = .ok (.lload_n 2, 1) := by decide +kernel
theorem d5_2 : decode jdk_29_method_66_code 2 = .ok (.lcmp, 1) := by decide +kernel
theorem d5_3 : decode jdk_29_method_66_code 3 = .ok (.ifCond .lt 7, 3) := by decide +kernel
theorem d5_6 : decode jdk_29_method_66_code 6 = .ok (.lload_n 0, 1) := by decide +kernel
theorem d5_7 : decode jdk_29_method_66_code 7 = .ok (.goto 4, 3) := by decide +kernel
theorem d5_10 : decode jdk_29_method_66_code 10 = .ok (.lload_n 2, 1) := by decide +kernel
theorem d5_11 : decode jdk_29_method_66_code 11 = .ok (.lreturn, 1) := by decide +kernel
theorem ef_rm4 (m : MethodId) (p0 : Int64) (p1 : Int64) : entryFrame m #[(.long p0), (.long p1)] 4 = mkF m 0 #[.val (.long p0), .second, .val (.long p1), .second] [] := by first | (simp [entryFrame, mkF, argsToLocals, Value.category]; done) | rfl
def Q_rm4 (Z : State) (p0 : Int64) (p1 : Int64) (h0 : Heap) (n0 : Nat) (v : Option Value) (h : Heap) (L : List Loc) : Prop := v = some (.long (mxF p0 p1)) ∧ Fr n0 L ∧ h = h0
set_option maxRecDepth 65536 in
set_option maxHeartbeats 40000000 in
theorem rm4 (l : Launch) (Z : State) (a0 : Array Value) (hw : ∀ d ∈ tables_1, d.before a0 Z = true) (ws : List Jvm.Cond) (p0 : Int64) (p1 : Int64) (h0 : Heap) (n0 : Nat) (Z0 : n0 ≤ h0.size)  :
    MetFree l (⟨"java/lang/Math", "max", "(JJ)J"⟩ : MethodName) (head1 (Jvm.Cond.code (⟨"java/lang/Math", "max", "(JJ)J"⟩ : MethodName) jdk_29_method_66_code 4 (some .long) :: ws) ({ frames := 0, cells := 0, slots := 0, locals := 0 } : Room)) (fun aa U => aa = #[(.long p0), (.long p1)] ∧ Z.Warmed39 U.vm ∧ U.heap = h0) (fun _ _ _ _ _ => True) (fun _ U o U' => ∃ v L, o = .returned v ∧ Q_rm4 Z p0 p1 h0 n0 v U'.heap L ∧ FrameEnd U o U' L ({ frames := 0, cells := 0, slots := 0, locals := 0 } : Room).cells ({ frames := 0, cells := 0, slots := 0, locals := 0 } : Room).slots) := by
  refine MetFree.of_bodySF (Jvm.Free.JP.mathPlain rfl (by decide +kernel)) hisR ?_
  intro p e s m args below meth c s₁ Bd hml0 hP hK
  obtain ⟨rfl, hZ, hh⟩ := hP
  have hx := Bd.exec
  have hby := Bd.bytes
  have hml : c.maxLocals = 4 := hml0
  have hown : s.vm.findClass "java/lang/Math" = some m.cls := findClass_of_methodNamed Bd.named
  have hnm := (name_of_methodNamed Bd.named Bd.method).1
  have hlk : meth.locks = false := Bd.notSynchronized
  have hret := Bd.returns
  have X0 : Stand p l e ({ frames := 0, cells := 0, slots := 0, locals := 0 } : Room) s m #[(.long p0), (.long p1)] below meth c s₁ [] 0 0 := Stand.of_body Bd
  have e0 : s₁.heap = h0 := by rw [← hh, Bd.state]; rfl
  have N0 := Fr.nil n0
  have K0 : Keep h0 h0 [] := Keep.refl _ _
  show Goes p e below s (Q_rm4 Z p0 p1 h0 n0) ({ frames := 0, cells := 0, slots := 0, locals := 0 } : Room).cells ({ frames := 0, cells := 0, slots := 0, locals := 0 } : Room).slots _
  refine Goes.go (fun t k => castTop (ef_rm4 m p0 p1) k) ?_
  show Goes _ _ _ _ _ _ _ (s₁.setTop (mkF m 0 #[.val (.long p0), .second, .val (.long p1), .second] []))
  refine Goes.go (fun _ k => XS.lloadN X0.here hx rfl (hb hby d5_0) rfl k) ?_
  show Goes _ _ _ _ _ _ _ (s₁.setTop (mkF m 1 _ [(.long p0)]))
  refine Goes.go (fun _ k => XS.lloadN X0.here hx rfl (hb hby d5_1) rfl k) ?_
  show Goes _ _ _ _ _ _ _ (s₁.setTop (mkF m 2 _ [(.long p1), (.long p0)]))
  refine Goes.go (fun _ k => XT.lcmp X0.here hx rfl (hb hby d5_2) rfl k) ?_
  show Goes _ _ _ _ _ _ _ (s₁.setTop (mkF m 3 _ [(.int (XT.cmpL p0 p1))]))
  by_cases c3 : p0 < p1
  · skip
    refine Goes.go (fun _ k => XS.ifYes X0.here hx rfl (pc0 := 3) (pc' := 10) rfl (hb hby d5_3) rfl (XT.ll_lt_t c3) (by decide) (by decide) k) ?_
    show Goes _ _ _ _ _ _ _ (s₁.setTop (mkF m 10 _ []))
    refine Goes.go (fun _ k => XS.lloadN X0.here hx rfl (hb hby d5_10) rfl k) ?_
    show Goes _ _ _ _ _ _ _ (s₁.setTop (mkF m 11 _ [(.long p1)]))
    exact Goes.outJ X0 hx hlk hret (hb hby d5_11) e0 ⟨by rw [mxF, if_pos c3], N0, rfl⟩ (by decide) (by decide)
  · skip
    refine Goes.go (fun _ k => XS.ifNo X0.here hx rfl (hb hby d5_3) rfl (XT.ll_lt_f c3) k) ?_
    show Goes _ _ _ _ _ _ _ (s₁.setTop (mkF m 6 _ []))
    refine Goes.go (fun _ k => XS.lloadN X0.here hx rfl (hb hby d5_6) rfl k) ?_
    show Goes _ _ _ _ _ _ _ (s₁.setTop (mkF m 7 _ [(.long p0)]))
    refine Goes.go (fun _ k => XS.goto X0.here hx rfl (pc0 := 7) (pc' := 11) rfl (hb hby d5_7) (by decide) (by decide) k) ?_
    show Goes _ _ _ _ _ _ _ (s₁.setTop (mkF m 11 _ [(.long p0)]))
    exact Goes.outJ X0 hx hlk hret (hb hby d5_11) e0 ⟨by rw [mxF, if_neg c3], N0, rfl⟩ (by decide) (by decide)
theorem d6_0 : decode jdk_29_method_70_code 0 = .ok (.lload_n 0, 1) := by decide +kernel
theorem d6_1 : decode jdk_29_method_70_code 1 = .ok (.lload_n 2, 1) := by decide +kernel
theorem d6_2 : decode jdk_29_method_70_code 2 = .ok (.lcmp, 1) := by decide +kernel
theorem d6_3 : decode jdk_29_method_70_code 3 = .ok (.ifCond .gt 7, 3) := by decide +kernel
theorem d6_6 : decode jdk_29_method_70_code 6 = .ok (.lload_n 0, 1) := by decide +kernel
theorem d6_7 : decode jdk_29_method_70_code 7 = .ok (.goto 4, 3) := by decide +kernel
theorem d6_10 : decode jdk_29_method_70_code 10 = .ok (.lload_n 2, 1) := by decide +kernel
theorem d6_11 : decode jdk_29_method_70_code 11 = .ok (.lreturn, 1) := by decide +kernel
theorem ef_rm5 (m : MethodId) (p0 : Int64) (p1 : Int64) : entryFrame m #[(.long p0), (.long p1)] 4 = mkF m 0 #[.val (.long p0), .second, .val (.long p1), .second] [] := by first | (simp [entryFrame, mkF, argsToLocals, Value.category]; done) | rfl
def Q_rm5 (Z : State) (p0 : Int64) (p1 : Int64) (h0 : Heap) (n0 : Nat) (v : Option Value) (h : Heap) (L : List Loc) : Prop := v = some (.long (mnF p0 p1)) ∧ Fr n0 L ∧ h = h0
set_option maxRecDepth 65536 in
set_option maxHeartbeats 40000000 in
theorem rm5 (l : Launch) (Z : State) (a0 : Array Value) (hw : ∀ d ∈ tables_1, d.before a0 Z = true) (ws : List Jvm.Cond) (p0 : Int64) (p1 : Int64) (h0 : Heap) (n0 : Nat) (Z0 : n0 ≤ h0.size)  :
    MetFree l (⟨"java/lang/Math", "min", "(JJ)J"⟩ : MethodName) (head1 (Jvm.Cond.code (⟨"java/lang/Math", "min", "(JJ)J"⟩ : MethodName) jdk_29_method_70_code 4 (some .long) :: ws) ({ frames := 0, cells := 0, slots := 0, locals := 0 } : Room)) (fun aa U => aa = #[(.long p0), (.long p1)] ∧ Z.Warmed39 U.vm ∧ U.heap = h0) (fun _ _ _ _ _ => True) (fun _ U o U' => ∃ v L, o = .returned v ∧ Q_rm5 Z p0 p1 h0 n0 v U'.heap L ∧ FrameEnd U o U' L ({ frames := 0, cells := 0, slots := 0, locals := 0 } : Room).cells ({ frames := 0, cells := 0, slots := 0, locals := 0 } : Room).slots) := by
  refine MetFree.of_bodySF (Jvm.Free.JP.mathPlain rfl (by decide +kernel)) hisR ?_
  intro p e s m args below meth c s₁ Bd hml0 hP hK
  obtain ⟨rfl, hZ, hh⟩ := hP
  have hx := Bd.exec
  have hby := Bd.bytes
  have hml : c.maxLocals = 4 := hml0
  have hown : s.vm.findClass "java/lang/Math" = some m.cls := findClass_of_methodNamed Bd.named
  have hnm := (name_of_methodNamed Bd.named Bd.method).1
  have hlk : meth.locks = false := Bd.notSynchronized
  have hret := Bd.returns
  have X0 : Stand p l e ({ frames := 0, cells := 0, slots := 0, locals := 0 } : Room) s m #[(.long p0), (.long p1)] below meth c s₁ [] 0 0 := Stand.of_body Bd
  have e0 : s₁.heap = h0 := by rw [← hh, Bd.state]; rfl
  have N0 := Fr.nil n0
  have K0 : Keep h0 h0 [] := Keep.refl _ _
  show Goes p e below s (Q_rm5 Z p0 p1 h0 n0) ({ frames := 0, cells := 0, slots := 0, locals := 0 } : Room).cells ({ frames := 0, cells := 0, slots := 0, locals := 0 } : Room).slots _
  refine Goes.go (fun t k => castTop (ef_rm5 m p0 p1) k) ?_
  show Goes _ _ _ _ _ _ _ (s₁.setTop (mkF m 0 #[.val (.long p0), .second, .val (.long p1), .second] []))
  refine Goes.go (fun _ k => XS.lloadN X0.here hx rfl (hb hby d6_0) rfl k) ?_
  show Goes _ _ _ _ _ _ _ (s₁.setTop (mkF m 1 _ [(.long p0)]))
  refine Goes.go (fun _ k => XS.lloadN X0.here hx rfl (hb hby d6_1) rfl k) ?_
  show Goes _ _ _ _ _ _ _ (s₁.setTop (mkF m 2 _ [(.long p1), (.long p0)]))
  refine Goes.go (fun _ k => XT.lcmp X0.here hx rfl (hb hby d6_2) rfl k) ?_
  show Goes _ _ _ _ _ _ _ (s₁.setTop (mkF m 3 _ [(.int (XT.cmpL p0 p1))]))
  by_cases c3 : p1 < p0
  · skip
    refine Goes.go (fun _ k => XS.ifYes X0.here hx rfl (pc0 := 3) (pc' := 10) rfl (hb hby d6_3) rfl (XT.ll_gt_t c3) (by decide) (by decide) k) ?_
    show Goes _ _ _ _ _ _ _ (s₁.setTop (mkF m 10 _ []))
    refine Goes.go (fun _ k => XS.lloadN X0.here hx rfl (hb hby d6_10) rfl k) ?_
    show Goes _ _ _ _ _ _ _ (s₁.setTop (mkF m 11 _ [(.long p1)]))
    exact Goes.outJ X0 hx hlk hret (hb hby d6_11) e0 ⟨by rw [mnF, if_pos c3], N0, rfl⟩ (by decide) (by decide)
  · skip
    refine Goes.go (fun _ k => XS.ifNo X0.here hx rfl (hb hby d6_3) rfl (XT.ll_gt_f c3) k) ?_
    show Goes _ _ _ _ _ _ _ (s₁.setTop (mkF m 6 _ []))
    refine Goes.go (fun _ k => XS.lloadN X0.here hx rfl (hb hby d6_6) rfl k) ?_
    show Goes _ _ _ _ _ _ _ (s₁.setTop (mkF m 7 _ [(.long p0)]))
    refine Goes.go (fun _ k => XS.goto X0.here hx rfl (pc0 := 7) (pc' := 11) rfl (hb hby d6_7) (by decide) (by decide) k) ?_
    show Goes _ _ _ _ _ _ _ (s₁.setTop (mkF m 11 _ [(.long p0)]))
    exact Goes.outJ X0 hx hlk hret (hb hby d6_11) e0 ⟨by rw [mnF, if_neg c3], N0, rfl⟩ (by decide) (by decide)
theorem d4_0 : decode method_2_code 0 = .ok (.ldc2_w 7, 3) := by decide +kernel
theorem d4_3 : decode method_2_code 3 = .ok (.iload_n 2, 1) := by decide +kernel
theorem d4_4 : decode method_2_code 4 = .ok (.i2l, 1) := by decide +kernel
theorem d4_5 : decode method_2_code 5 = .ok (.lmul, 1) := by decide +kernel
theorem d4_6 : decode method_2_code 6 = .ok (.lstore 8, 2) := by decide +kernel
theorem d4_8 : decode method_2_code 8 = .ok (.lload_n 3, 1) := by decide +kernel
theorem d4_9 : decode method_2_code 9 = .ok (.lload 8, 2) := by decide +kernel
theorem d4_11 : decode method_2_code 11 = .ok (.invokestatic 9, 3) := by decide +kernel
theorem d4_14 : decode method_2_code 14 = .ok (.lload 8, 2) := by decide +kernel
theorem d4_16 : decode method_2_code 16 = .ok (.lsub, 1) := by decide +kernel
theorem d4_17 : decode method_2_code 17 = .ok (.lstore 10, 2) := by decide +kernel
theorem d4_19 : decode method_2_code 19 = .ok (.lload_n 3, 1) := by decide +kernel
theorem d4_20 : decode method_2_code 20 = .ok (.iload 5, 2) := by decide +kernel
theorem d4_22 : decode method_2_code 22 = .ok (.i2l, 1) := by decide +kernel
theorem d4_23 : decode method_2_code 23 = .ok (.ladd, 1) := by decide +kernel
theorem d4_24 : decode method_2_code 24 = .ok (.lload 8, 2) := by decide +kernel
theorem d4_26 : decode method_2_code 26 = .ok (.ldc2_w 7, 3) := by decide +kernel
theorem d4_29 : decode method_2_code 29 = .ok (.ladd, 1) := by decide +kernel
theorem d4_30 : decode method_2_code 30 = .ok (.invokestatic 15, 3) := by decide +kernel
theorem d4_33 : decode method_2_code 33 = .ok (.lload 8, 2) := by decide +kernel
theorem d4_35 : decode method_2_code 35 = .ok (.lsub, 1) := by decide +kernel
theorem d4_36 : decode method_2_code 36 = .ok (.lstore 12, 2) := by decide +kernel
theorem d4_38 : decode method_2_code 38 = .ok (.lload 10, 2) := by decide +kernel
theorem d4_40 : decode method_2_code 40 = .ok (.lload 12, 2) := by decide +kernel
theorem d4_42 : decode method_2_code 42 = .ok (.lcmp, 1) := by decide +kernel
theorem d4_43 : decode method_2_code 43 = .ok (.ifCond .lt 5, 3) := by decide +kernel
theorem d4_46 : decode method_2_code 46 = .ok (.lload_n 0, 1) := by decide +kernel
theorem d4_47 : decode method_2_code 47 = .ok (.lreturn, 1) := by decide +kernel
theorem d4_48 : decode method_2_code 48 = .ok (.lload 12, 2) := by decide +kernel
theorem d4_50 : decode method_2_code 50 = .ok (.lload 10, 2) := by decide +kernel
theorem d4_52 : decode method_2_code 52 = .ok (.lsub, 1) := by decide +kernel
theorem d4_53 : decode method_2_code 53 = .ok (.l2i, 1) := by decide +kernel
theorem d4_54 : decode method_2_code 54 = .ok (.istore 14, 2) := by decide +kernel
theorem d4_56 : decode method_2_code 56 = .ok (.iload 14, 2) := by decide +kernel
theorem d4_58 : decode method_2_code 58 = .ok (.bipush 64, 2) := by decide +kernel
theorem d4_60 : decode method_2_code 60 = .ok (.if_icmp .ne 9, 3) := by decide +kernel
theorem d4_63 : decode method_2_code 63 = .ok (.ldc2_w 18, 3) := by decide +kernel
theorem d4_66 : decode method_2_code 66 = .ok (.goto 13, 3) := by decide +kernel
theorem d4_69 : decode method_2_code 69 = .ok (.lconst 1, 1) := by decide +kernel
theorem d4_70 : decode method_2_code 70 = .ok (.iload 14, 2) := by decide +kernel
theorem d4_72 : decode method_2_code 72 = .ok (.lshl, 1) := by decide +kernel
theorem d4_73 : decode method_2_code 73 = .ok (.lconst 1, 1) := by decide +kernel
theorem d4_74 : decode method_2_code 74 = .ok (.lsub, 1) := by decide +kernel
theorem d4_75 : decode method_2_code 75 = .ok (.lload 10, 2) := by decide +kernel
theorem d4_77 : decode method_2_code 77 = .ok (.l2i, 1) := by decide +kernel
theorem d4_78 : decode method_2_code 78 = .ok (.lshl, 1) := by decide +kernel
theorem d4_79 : decode method_2_code 79 = .ok (.lstore 15, 2) := by decide +kernel
theorem d4_81 : decode method_2_code 81 = .ok (.lload 8, 2) := by decide +kernel
theorem d4_83 : decode method_2_code 83 = .ok (.lload_n 3, 1) := by decide +kernel
theorem d4_84 : decode method_2_code 84 = .ok (.lcmp, 1) := by decide +kernel
theorem d4_85 : decode method_2_code 85 = .ok (.ifCond .lt 14, 3) := by decide +kernel
theorem d4_88 : decode method_2_code 88 = .ok (.lload 6, 2) := by decide +kernel
theorem d4_90 : decode method_2_code 90 = .ok (.lload 8, 2) := by decide +kernel
theorem d4_92 : decode method_2_code 92 = .ok (.lload_n 3, 1) := by decide +kernel
theorem d4_93 : decode method_2_code 93 = .ok (.lsub, 1) := by decide +kernel
theorem d4_94 : decode method_2_code 94 = .ok (.l2i, 1) := by decide +kernel
theorem d4_95 : decode method_2_code 95 = .ok (.lushr, 1) := by decide +kernel
theorem d4_96 : decode method_2_code 96 = .ok (.goto 11, 3) := by decide +kernel
theorem d4_99 : decode method_2_code 99 = .ok (.lload 6, 2) := by decide +kernel
theorem d4_101 : decode method_2_code 101 = .ok (.lload_n 3, 1) := by decide +kernel
theorem d4_102 : decode method_2_code 102 = .ok (.lload 8, 2) := by decide +kernel
theorem d4_104 : decode method_2_code 104 = .ok (.lsub, 1) := by decide +kernel
theorem d4_105 : decode method_2_code 105 = .ok (.l2i, 1) := by decide +kernel
theorem d4_106 : decode method_2_code 106 = .ok (.lshl, 1) := by decide +kernel
theorem d4_107 : decode method_2_code 107 = .ok (.lstore 17, 2) := by decide +kernel
theorem d4_109 : decode method_2_code 109 = .ok (.lload_n 0, 1) := by decide +kernel
theorem d4_110 : decode method_2_code 110 = .ok (.lload 15, 2) := by decide +kernel
theorem d4_112 : decode method_2_code 112 = .ok (.ldc2_w 18, 3) := by decide +kernel
theorem d4_115 : decode method_2_code 115 = .ok (.lxor, 1) := by decide +kernel
theorem d4_116 : decode method_2_code 116 = .ok (.land, 1) := by decide +kernel
theorem d4_117 : decode method_2_code 117 = .ok (.lload 17, 2) := by decide +kernel
theorem d4_119 : decode method_2_code 119 = .ok (.lload 15, 2) := by decide +kernel
theorem d4_121 : decode method_2_code 121 = .ok (.land, 1) := by decide +kernel
theorem d4_122 : decode method_2_code 122 = .ok (.lor, 1) := by decide +kernel
theorem d4_123 : decode method_2_code 123 = .ok (.lreturn, 1) := by decide +kernel
theorem pn1 : plainName "com/example/galdict/galdict/model/PackedArraySetPinLaw" = true := by first | (simp [plainName, overriddenIn]; done) | decide +kernel
theorem ef_rm3 (m : MethodId) (p0 : Int64) (p1 : Int32) (p2 : Int64) (p3 : Int32) (p4 : Int64) : entryFrame m #[(.long p0), (.int p1), (.long p2), (.int p3), (.long p4)] 19 = mkF m 0 #[.val (.long p0), .second, .val (.int p1), .val (.long p2), .second, .val (.int p3), .val (.long p4), .second, .unset, .unset, .unset, .unset, .unset, .unset, .unset, .unset, .unset, .unset, .unset] [] := by first | (simp [entryFrame, mkF, argsToLocals, Value.category]; done) | rfl
def Q_rm3 (Z : State) (p0 : Int64) (p1 : Int32) (p2 : Int64) (p3 : Int32) (p4 : Int64) (h0 : Heap) (n0 : Nat) (v : Option Value) (h : Heap) (L : List Loc) : Prop := v = some (.long (exF p0 p1 p2 p3 p4)) ∧ Fr n0 L ∧ h = h0
set_option maxRecDepth 65536 in
set_option maxHeartbeats 40000000 in
theorem rm3 (l : Launch) (Z : State) (a0 : Array Value) (hw : ∀ d ∈ tables_1, d.before a0 Z = true) (ws : List Jvm.Cond) (p0 : Int64) (p1 : Int32) (p2 : Int64) (p3 : Int32) (p4 : Int64) (h0 : Heap) (n0 : Nat) (Z0 : n0 ≤ h0.size)  :
    MetFree l (⟨"com/example/galdict/galdict/model/PackedArraySetPinLaw", "expect", "(JIJIJ)J"⟩ : MethodName) (head1 (Jvm.Cond.code (⟨"com/example/galdict/galdict/model/PackedArraySetPinLaw", "expect", "(JIJIJ)J"⟩ : MethodName) method_2_code 19 (some .long) :: ws) ({ frames := 1, cells := 0, slots := 0, locals := 15 } : Room)) (fun aa U => aa = #[(.long p0), (.int p1), (.long p2), (.int p3), (.long p4)] ∧ Z.Warmed39 U.vm ∧ U.heap = h0) (fun _ _ _ _ _ => True) (fun _ U o U' => ∃ v L, o = .returned v ∧ Q_rm3 Z p0 p1 p2 p3 p4 h0 n0 v U'.heap L ∧ FrameEnd U o U' L ({ frames := 1, cells := 0, slots := 0, locals := 15 } : Room).cells ({ frames := 1, cells := 0, slots := 0, locals := 15 } : Room).slots) := by
  refine MetFree.of_bodySF (plainFor_of_name pn1) hisR ?_
  intro p e s m args below meth c s₁ Bd hml0 hP hK
  obtain ⟨rfl, hZ, hh⟩ := hP
  have hx := Bd.exec
  have hby := Bd.bytes
  have hml : c.maxLocals = 19 := hml0
  have hown : s.vm.findClass "com/example/galdict/galdict/model/PackedArraySetPinLaw" = some m.cls := findClass_of_methodNamed Bd.named
  have hnm := (name_of_methodNamed Bd.named Bd.method).1
  have hlk : meth.locks = false := Bd.notSynchronized
  have hret := Bd.returns
  have X0 : Stand p l e ({ frames := 1, cells := 0, slots := 0, locals := 15 } : Room) s m #[(.long p0), (.int p1), (.long p2), (.int p3), (.long p4)] below meth c s₁ [] 0 0 := Stand.of_body Bd
  have e0 : s₁.heap = h0 := by rw [← hh, Bd.state]; rfl
  have N0 := Fr.nil n0
  have K0 : Keep h0 h0 [] := Keep.refl _ _
  show Goes p e below s (Q_rm3 Z p0 p1 p2 p3 p4 h0 n0) ({ frames := 1, cells := 0, slots := 0, locals := 15 } : Room).cells ({ frames := 1, cells := 0, slots := 0, locals := 15 } : Room).slots _
  refine Goes.go (fun t k => castTop (ef_rm3 m p0 p1 p2 p3 p4) k) ?_
  show Goes _ _ _ _ _ _ _ (s₁.setTop (mkF m 0 #[.val (.long p0), .second, .val (.int p1), .val (.long p2), .second, .val (.int p3), .val (.long p4), .second, .unset, .unset, .unset, .unset, .unset, .unset, .unset, .unset, .unset, .unset, .unset] []))
  refine Goes.go (fun _ k => X0.ldc2J hx (v := (64 : Int64)) hown (mvT hZ (hw _ (List.mem_of_getElem? (i := 32) rfl))) rfl (hb hby d4_0) k) ?_
  show Goes _ _ _ _ _ _ _ (s₁.setTop (mkF m 3 _ [(.long (64 : Int64))]))
  refine Goes.go (fun _ k => XS.iloadN X0.here hx rfl (hb hby d4_3) rfl k) ?_
  show Goes _ _ _ _ _ _ _ (s₁.setTop (mkF m 4 _ [(.int p1), (.long (64 : Int64))]))
  refine Goes.go (fun _ k => XS.i2l X0.here hx rfl (hb hby d4_4) rfl k) ?_
  show Goes _ _ _ _ _ _ _ (s₁.setTop (mkF m 5 _ [(.long (p1).toInt64), (.long (64 : Int64))]))
  refine Goes.go (fun _ k => XS.lmul X0.here hx rfl (hb hby d4_5) rfl k) ?_
  show Goes _ _ _ _ _ _ _ (s₁.setTop (mkF m 6 _ [(.long ((64 : Int64) * (p1).toInt64))]))
  generalize hv6 : ((64 : Int64) * (p1).toInt64) = v6
  refine Goes.go (fun _ k => XS.lstore X0.here hx rfl (hb hby d4_6) rfl (l' := #[.val (.long p0), .second, .val (.int p1), .val (.long p2), .second, .val (.int p3), .val (.long p4), .second, .val (.long v6), .second, .unset, .unset, .unset, .unset, .unset, .unset, .unset, .unset, .unset]) rfl k) ?_
  show Goes _ _ _ _ _ _ _ (s₁.setTop (mkF m 8 #[.val (.long p0), .second, .val (.int p1), .val (.long p2), .second, .val (.int p3), .val (.long p4), .second, .val (.long v6), .second, .unset, .unset, .unset, .unset, .unset, .unset, .unset, .unset, .unset] []))
  refine Goes.go (fun _ k => XS.lloadN X0.here hx rfl (hb hby d4_8) rfl k) ?_
  show Goes _ _ _ _ _ _ _ (s₁.setTop (mkF m 9 _ [(.long p2)]))
  refine Goes.go (fun _ k => XS.lload X0.here hx rfl (hb hby d4_9) rfl k) ?_
  show Goes _ _ _ _ _ _ _ (s₁.setTop (mkF m 11 _ [(.long v6), (.long p2)]))
  obtain ⟨_, _, ⟨T1, L1, k1, n1⟩, -, X1, ⟨Lc1, hQ1, l1, y1, z1⟩, st1⟩ := Jvm.LawKit.callS X0 hx (y := (⟨"java/lang/Math", "max", "(JJ)J"⟩ : MethodName)) hown (mvT hZ (hw _ (List.mem_of_getElem? (i := 33) rfl))) (mvT hZ (hw _ (List.mem_of_getElem? (i := 34) rfl))) (mvT hZ (hw _ (List.mem_of_getElem? (i := 35) rfl))) (mvT hZ (hw _ (List.mem_of_getElem? (i := 36) rfl))) (by decide) (backOf (W := 0) (rm4 l Z a0 hw [] p2 v6 h0 n0 Z0) hZ (hw _ (List.mem_of_getElem? (i := 36) rfl)) (hw _ (List.mem_of_getElem? (i := 35) rfl)) (by decide) (by decide)) (g := (mkF m 11 #[.val (.long p0), .second, .val (.int p1), .val (.long p2), .second, .val (.int p3), .val (.long p4), .second, .val (.long v6), .second, .unset, .unset, .unset, .unset, .unset, .unset, .unset, .unset, .unset] [(.long v6), (.long p2)])) rfl (by rw [hml]; rfl) (argsL := [(.long p2), (.long v6)]) (rest := []) (lenOf pd4 rfl) rfl (by show 2 * 0 + _ ≤ _; exact Nat.le_of_eq rfl) (hb hby d4_11) (fun _ _ => ⟨rfl, e0, (by decide : 0 + 0 ≤ _), (by decide : 0 + 0 ≤ _)⟩)
  dsimp only [Pt.U, Pt.locs, Pt.cells, Pt.slots] at X1 l1 y1 z1 st1 hQ1
  subst l1 y1 z1
  obtain ⟨rfl, Nq1, hh1⟩ := hQ1
  have N1 := Fr.app N0 Nq1
  refine Goes.go (st1) ?_
  show Goes _ _ _ _ _ _ _ (T1.setTop (mkF m 14 _ [(.long (mxF p2 v6))]))
  refine Goes.go (fun _ k => XS.lload X1.here hx rfl (hb hby d4_14) rfl k) ?_
  show Goes _ _ _ _ _ _ _ (T1.setTop (mkF m 16 _ [(.long v6), (.long (mxF p2 v6))]))
  refine Goes.go (fun _ k => XS.lsub X1.here hx rfl (hb hby d4_16) rfl k) ?_
  show Goes _ _ _ _ _ _ _ (T1.setTop (mkF m 17 _ [(.long ((mxF p2 v6) - v6))]))
  generalize hv17 : ((mxF p2 v6) - v6) = v17
  refine Goes.go (fun _ k => XS.lstore X1.here hx rfl (hb hby d4_17) rfl (l' := #[.val (.long p0), .second, .val (.int p1), .val (.long p2), .second, .val (.int p3), .val (.long p4), .second, .val (.long v6), .second, .val (.long v17), .second, .unset, .unset, .unset, .unset, .unset, .unset, .unset]) rfl k) ?_
  show Goes _ _ _ _ _ _ _ (T1.setTop (mkF m 19 #[.val (.long p0), .second, .val (.int p1), .val (.long p2), .second, .val (.int p3), .val (.long p4), .second, .val (.long v6), .second, .val (.long v17), .second, .unset, .unset, .unset, .unset, .unset, .unset, .unset] []))
  refine Goes.go (fun _ k => XS.lloadN X1.here hx rfl (hb hby d4_19) rfl k) ?_
  show Goes _ _ _ _ _ _ _ (T1.setTop (mkF m 20 _ [(.long p2)]))
  refine Goes.go (fun _ k => XS.iload X1.here hx rfl (hb hby d4_20) rfl k) ?_
  show Goes _ _ _ _ _ _ _ (T1.setTop (mkF m 22 _ [(.int p3), (.long p2)]))
  refine Goes.go (fun _ k => XS.i2l X1.here hx rfl (hb hby d4_22) rfl k) ?_
  show Goes _ _ _ _ _ _ _ (T1.setTop (mkF m 23 _ [(.long (p3).toInt64), (.long p2)]))
  refine Goes.go (fun _ k => XS.ladd X1.here hx rfl (hb hby d4_23) rfl k) ?_
  show Goes _ _ _ _ _ _ _ (T1.setTop (mkF m 24 _ [(.long (p2 + (p3).toInt64))]))
  refine Goes.go (fun _ k => XS.lload X1.here hx rfl (hb hby d4_24) rfl k) ?_
  show Goes _ _ _ _ _ _ _ (T1.setTop (mkF m 26 _ [(.long v6), (.long (p2 + (p3).toInt64))]))
  refine Goes.go (fun _ k => X1.ldc2J hx (v := (64 : Int64)) hown (mvT hZ (hw _ (List.mem_of_getElem? (i := 32) rfl))) rfl (hb hby d4_26) k) ?_
  show Goes _ _ _ _ _ _ _ (T1.setTop (mkF m 29 _ [(.long (64 : Int64)), (.long v6), (.long (p2 + (p3).toInt64))]))
  refine Goes.go (fun _ k => XS.ladd X1.here hx rfl (hb hby d4_29) rfl k) ?_
  show Goes _ _ _ _ _ _ _ (T1.setTop (mkF m 30 _ [(.long (v6 + (64 : Int64))), (.long (p2 + (p3).toInt64))]))
  obtain ⟨_, _, ⟨T2, L2, k2, n2⟩, -, X2, ⟨Lc2, hQ2, l2, y2, z2⟩, st2⟩ := Jvm.LawKit.callS X1 hx (y := (⟨"java/lang/Math", "min", "(JJ)J"⟩ : MethodName)) hown (mvT hZ (hw _ (List.mem_of_getElem? (i := 37) rfl))) (mvT hZ (hw _ (List.mem_of_getElem? (i := 38) rfl))) (mvT hZ (hw _ (List.mem_of_getElem? (i := 35) rfl))) (mvT hZ (hw _ (List.mem_of_getElem? (i := 39) rfl))) (by decide) (backOf (W := 0) (rm5 l Z a0 hw [] (p2 + (p3).toInt64) (v6 + (64 : Int64)) h0 n0 Z0) hZ (hw _ (List.mem_of_getElem? (i := 39) rfl)) (hw _ (List.mem_of_getElem? (i := 35) rfl)) (by decide) (by decide)) (g := (mkF m 30 #[.val (.long p0), .second, .val (.int p1), .val (.long p2), .second, .val (.int p3), .val (.long p4), .second, .val (.long v6), .second, .val (.long v17), .second, .unset, .unset, .unset, .unset, .unset, .unset, .unset] [(.long (v6 + (64 : Int64))), (.long (p2 + (p3).toInt64))])) rfl (by rw [hml]; rfl) (argsL := [(.long (p2 + (p3).toInt64)), (.long (v6 + (64 : Int64)))]) (rest := []) (lenOf pd4 rfl) rfl (by show 2 * 0 + _ ≤ _; exact Nat.le_of_eq rfl) (hb hby d4_30) (fun _ _ => ⟨rfl, hh1, (by decide : 0 + 0 ≤ _), (by decide : 0 + 0 ≤ _)⟩)
  dsimp only [Pt.U, Pt.locs, Pt.cells, Pt.slots] at X2 l2 y2 z2 st2 hQ2
  subst l2 y2 z2
  obtain ⟨rfl, Nq2, hh2⟩ := hQ2
  have N2 := Fr.app N1 Nq2
  refine Goes.go (st2) ?_
  show Goes _ _ _ _ _ _ _ (T2.setTop (mkF m 33 _ [(.long (mnF (p2 + (p3).toInt64) (v6 + (64 : Int64))))]))
  refine Goes.go (fun _ k => XS.lload X2.here hx rfl (hb hby d4_33) rfl k) ?_
  show Goes _ _ _ _ _ _ _ (T2.setTop (mkF m 35 _ [(.long v6), (.long (mnF (p2 + (p3).toInt64) (v6 + (64 : Int64))))]))
  refine Goes.go (fun _ k => XS.lsub X2.here hx rfl (hb hby d4_35) rfl k) ?_
  show Goes _ _ _ _ _ _ _ (T2.setTop (mkF m 36 _ [(.long ((mnF (p2 + (p3).toInt64) (v6 + (64 : Int64))) - v6))]))
  generalize hv36 : ((mnF (p2 + (p3).toInt64) (v6 + (64 : Int64))) - v6) = v36
  refine Goes.go (fun _ k => XS.lstore X2.here hx rfl (hb hby d4_36) rfl (l' := #[.val (.long p0), .second, .val (.int p1), .val (.long p2), .second, .val (.int p3), .val (.long p4), .second, .val (.long v6), .second, .val (.long v17), .second, .val (.long v36), .second, .unset, .unset, .unset, .unset, .unset]) rfl k) ?_
  show Goes _ _ _ _ _ _ _ (T2.setTop (mkF m 38 #[.val (.long p0), .second, .val (.int p1), .val (.long p2), .second, .val (.int p3), .val (.long p4), .second, .val (.long v6), .second, .val (.long v17), .second, .val (.long v36), .second, .unset, .unset, .unset, .unset, .unset] []))
  refine Goes.go (fun _ k => XS.lload X2.here hx rfl (hb hby d4_38) rfl k) ?_
  show Goes _ _ _ _ _ _ _ (T2.setTop (mkF m 40 _ [(.long v17)]))
  refine Goes.go (fun _ k => XS.lload X2.here hx rfl (hb hby d4_40) rfl k) ?_
  show Goes _ _ _ _ _ _ _ (T2.setTop (mkF m 42 _ [(.long v36), (.long v17)]))
  refine Goes.go (fun _ k => XT.lcmp X2.here hx rfl (hb hby d4_42) rfl k) ?_
  show Goes _ _ _ _ _ _ _ (T2.setTop (mkF m 43 _ [(.int (XT.cmpL v17 v36))]))
  by_cases c43 : v17 < v36
  · skip
    refine Goes.go (fun _ k => XS.ifYes X2.here hx rfl (pc0 := 43) (pc' := 48) rfl (hb hby d4_43) rfl (XT.ll_lt_t c43) (by decide) (by decide) k) ?_
    show Goes _ _ _ _ _ _ _ (T2.setTop (mkF m 48 _ []))
    refine Goes.go (fun _ k => XS.lload X2.here hx rfl (hb hby d4_48) rfl k) ?_
    show Goes _ _ _ _ _ _ _ (T2.setTop (mkF m 50 _ [(.long v36)]))
    refine Goes.go (fun _ k => XS.lload X2.here hx rfl (hb hby d4_50) rfl k) ?_
    show Goes _ _ _ _ _ _ _ (T2.setTop (mkF m 52 _ [(.long v17), (.long v36)]))
    refine Goes.go (fun _ k => XS.lsub X2.here hx rfl (hb hby d4_52) rfl k) ?_
    show Goes _ _ _ _ _ _ _ (T2.setTop (mkF m 53 _ [(.long (v36 - v17))]))
    refine Goes.go (fun _ k => XS.l2i X2.here hx rfl (hb hby d4_53) rfl k) ?_
    show Goes _ _ _ _ _ _ _ (T2.setTop (mkF m 54 _ [(.int ((v36 - v17)).toInt32)]))
    generalize hv54 : ((v36 - v17)).toInt32 = v54
    refine Goes.go (fun _ k => XS.istore X2.here hx rfl (hb hby d4_54) rfl (l' := #[.val (.long p0), .second, .val (.int p1), .val (.long p2), .second, .val (.int p3), .val (.long p4), .second, .val (.long v6), .second, .val (.long v17), .second, .val (.long v36), .second, .val (.int v54), .unset, .unset, .unset, .unset]) rfl k) ?_
    show Goes _ _ _ _ _ _ _ (T2.setTop (mkF m 56 #[.val (.long p0), .second, .val (.int p1), .val (.long p2), .second, .val (.int p3), .val (.long p4), .second, .val (.long v6), .second, .val (.long v17), .second, .val (.long v36), .second, .val (.int v54), .unset, .unset, .unset, .unset] []))
    refine Goes.go (fun _ k => XS.iload X2.here hx rfl (hb hby d4_56) rfl k) ?_
    show Goes _ _ _ _ _ _ _ (T2.setTop (mkF m 58 _ [(.int v54)]))
    refine Goes.go (fun _ k => XS.bipush X2.here hx rfl (hb hby d4_58) k) ?_
    show Goes _ _ _ _ _ _ _ (T2.setTop (mkF m 60 _ [(.int (64 : Int32)), (.int v54)]))
    by_cases c60 : v54 = (64 : Int32)
    · skip
      refine Goes.go (fun _ k => XS.icmpNo X2.here hx rfl (hb hby d4_60) rfl (XT.ii_ne_f c60) k) ?_
      show Goes _ _ _ _ _ _ _ (T2.setTop (mkF m 63 _ []))
      refine Goes.go (fun _ k => X2.ldc2J hx (v := (-1 : Int64)) hown (mvT hZ (hw _ (List.mem_of_getElem? (i := 3) rfl))) rfl (hb hby d4_63) k) ?_
      show Goes _ _ _ _ _ _ _ (T2.setTop (mkF m 66 _ [(.long (-1 : Int64))]))
      refine Goes.go (fun _ k => XS.goto X2.here hx rfl (pc0 := 66) (pc' := 79) rfl (hb hby d4_66) (by decide) (by decide) k) ?_
      show Goes _ _ _ _ _ _ _ (T2.setTop (mkF m 79 _ [(.long (-1 : Int64))]))
      refine Goes.go (fun _ k => XS.lstore X2.here hx rfl (hb hby d4_79) rfl (l' := #[.val (.long p0), .second, .val (.int p1), .val (.long p2), .second, .val (.int p3), .val (.long p4), .second, .val (.long v6), .second, .val (.long v17), .second, .val (.long v36), .second, .val (.int v54), .val (.long (-1 : Int64)), .second, .unset, .unset]) rfl k) ?_
      show Goes _ _ _ _ _ _ _ (T2.setTop (mkF m 81 #[.val (.long p0), .second, .val (.int p1), .val (.long p2), .second, .val (.int p3), .val (.long p4), .second, .val (.long v6), .second, .val (.long v17), .second, .val (.long v36), .second, .val (.int v54), .val (.long (-1 : Int64)), .second, .unset, .unset] []))
      refine Goes.go (fun _ k => XS.lload X2.here hx rfl (hb hby d4_81) rfl k) ?_
      show Goes _ _ _ _ _ _ _ (T2.setTop (mkF m 83 _ [(.long v6)]))
      refine Goes.go (fun _ k => XS.lloadN X2.here hx rfl (hb hby d4_83) rfl k) ?_
      show Goes _ _ _ _ _ _ _ (T2.setTop (mkF m 84 _ [(.long p2), (.long v6)]))
      refine Goes.go (fun _ k => XT.lcmp X2.here hx rfl (hb hby d4_84) rfl k) ?_
      show Goes _ _ _ _ _ _ _ (T2.setTop (mkF m 85 _ [(.int (XT.cmpL v6 p2))]))
      by_cases c85 : v6 < p2
      · skip
        refine Goes.go (fun _ k => XS.ifYes X2.here hx rfl (pc0 := 85) (pc' := 99) rfl (hb hby d4_85) rfl (XT.ll_lt_t c85) (by decide) (by decide) k) ?_
        show Goes _ _ _ _ _ _ _ (T2.setTop (mkF m 99 _ []))
        refine Goes.go (fun _ k => XS.lload X2.here hx rfl (hb hby d4_99) rfl k) ?_
        show Goes _ _ _ _ _ _ _ (T2.setTop (mkF m 101 _ [(.long p4)]))
        refine Goes.go (fun _ k => XS.lloadN X2.here hx rfl (hb hby d4_101) rfl k) ?_
        show Goes _ _ _ _ _ _ _ (T2.setTop (mkF m 102 _ [(.long p2), (.long p4)]))
        refine Goes.go (fun _ k => XS.lload X2.here hx rfl (hb hby d4_102) rfl k) ?_
        show Goes _ _ _ _ _ _ _ (T2.setTop (mkF m 104 _ [(.long v6), (.long p2), (.long p4)]))
        refine Goes.go (fun _ k => XS.lsub X2.here hx rfl (hb hby d4_104) rfl k) ?_
        show Goes _ _ _ _ _ _ _ (T2.setTop (mkF m 105 _ [(.long (p2 - v6)), (.long p4)]))
        refine Goes.go (fun _ k => XS.l2i X2.here hx rfl (hb hby d4_105) rfl k) ?_
        show Goes _ _ _ _ _ _ _ (T2.setTop (mkF m 106 _ [(.int ((p2 - v6)).toInt32), (.long p4)]))
        refine Goes.go (fun _ k => XS.lshl X2.here hx rfl (hb hby d4_106) rfl k) ?_
        show Goes _ _ _ _ _ _ _ (T2.setTop (mkF m 107 _ [(.long (p4 <<< (((p2 - v6)).toInt32 &&& 0x3f).toInt64))]))
        generalize hv107 : (p4 <<< (((p2 - v6)).toInt32 &&& 0x3f).toInt64) = v107
        refine Goes.go (fun _ k => XS.lstore X2.here hx rfl (hb hby d4_107) rfl (l' := #[.val (.long p0), .second, .val (.int p1), .val (.long p2), .second, .val (.int p3), .val (.long p4), .second, .val (.long v6), .second, .val (.long v17), .second, .val (.long v36), .second, .val (.int v54), .val (.long (-1 : Int64)), .second, .val (.long v107), .second]) rfl k) ?_
        show Goes _ _ _ _ _ _ _ (T2.setTop (mkF m 109 #[.val (.long p0), .second, .val (.int p1), .val (.long p2), .second, .val (.int p3), .val (.long p4), .second, .val (.long v6), .second, .val (.long v17), .second, .val (.long v36), .second, .val (.int v54), .val (.long (-1 : Int64)), .second, .val (.long v107), .second] []))
        refine Goes.go (fun _ k => XS.lloadN X2.here hx rfl (hb hby d4_109) rfl k) ?_
        show Goes _ _ _ _ _ _ _ (T2.setTop (mkF m 110 _ [(.long p0)]))
        refine Goes.go (fun _ k => XS.lload X2.here hx rfl (hb hby d4_110) rfl k) ?_
        show Goes _ _ _ _ _ _ _ (T2.setTop (mkF m 112 _ [(.long (-1 : Int64)), (.long p0)]))
        refine Goes.go (fun _ k => X2.ldc2J hx (v := (-1 : Int64)) hown (mvT hZ (hw _ (List.mem_of_getElem? (i := 3) rfl))) rfl (hb hby d4_112) k) ?_
        show Goes _ _ _ _ _ _ _ (T2.setTop (mkF m 115 _ [(.long (-1 : Int64)), (.long (-1 : Int64)), (.long p0)]))
        refine Goes.go (fun _ k => XS.lxor X2.here hx rfl (hb hby d4_115) rfl k) ?_
        show Goes _ _ _ _ _ _ _ (T2.setTop (mkF m 116 _ [(.long ((-1 : Int64) ^^^ (-1 : Int64))), (.long p0)]))
        refine Goes.go (fun _ k => XS.land X2.here hx rfl (hb hby d4_116) rfl k) ?_
        show Goes _ _ _ _ _ _ _ (T2.setTop (mkF m 117 _ [(.long (p0 &&& ((-1 : Int64) ^^^ (-1 : Int64))))]))
        refine Goes.go (fun _ k => XS.lload X2.here hx rfl (hb hby d4_117) rfl k) ?_
        show Goes _ _ _ _ _ _ _ (T2.setTop (mkF m 119 _ [(.long v107), (.long (p0 &&& ((-1 : Int64) ^^^ (-1 : Int64))))]))
        refine Goes.go (fun _ k => XS.lload X2.here hx rfl (hb hby d4_119) rfl k) ?_
        show Goes _ _ _ _ _ _ _ (T2.setTop (mkF m 121 _ [(.long (-1 : Int64)), (.long v107), (.long (p0 &&& ((-1 : Int64) ^^^ (-1 : Int64))))]))
        refine Goes.go (fun _ k => XS.land X2.here hx rfl (hb hby d4_121) rfl k) ?_
        show Goes _ _ _ _ _ _ _ (T2.setTop (mkF m 122 _ [(.long (v107 &&& (-1 : Int64))), (.long (p0 &&& ((-1 : Int64) ^^^ (-1 : Int64))))]))
        refine Goes.go (fun _ k => XS.lor X2.here hx rfl (hb hby d4_122) rfl k) ?_
        show Goes _ _ _ _ _ _ _ (T2.setTop (mkF m 123 _ [(.long ((p0 &&& ((-1 : Int64) ^^^ (-1 : Int64))) ||| (v107 &&& (-1 : Int64))))]))
        exact Goes.outJ X2 hx hlk hret (hb hby d4_123) hh2 ⟨by simp only [exF, hv6, hv17, hv36, exG, if_pos c43, hv54, exM, if_pos c60, exS, if_pos c85, hv107, exH], N2, rfl⟩ (by decide) (by decide)
      · skip
        refine Goes.go (fun _ k => XS.ifNo X2.here hx rfl (hb hby d4_85) rfl (XT.ll_lt_f c85) k) ?_
        show Goes _ _ _ _ _ _ _ (T2.setTop (mkF m 88 _ []))
        refine Goes.go (fun _ k => XS.lload X2.here hx rfl (hb hby d4_88) rfl k) ?_
        show Goes _ _ _ _ _ _ _ (T2.setTop (mkF m 90 _ [(.long p4)]))
        refine Goes.go (fun _ k => XS.lload X2.here hx rfl (hb hby d4_90) rfl k) ?_
        show Goes _ _ _ _ _ _ _ (T2.setTop (mkF m 92 _ [(.long v6), (.long p4)]))
        refine Goes.go (fun _ k => XS.lloadN X2.here hx rfl (hb hby d4_92) rfl k) ?_
        show Goes _ _ _ _ _ _ _ (T2.setTop (mkF m 93 _ [(.long p2), (.long v6), (.long p4)]))
        refine Goes.go (fun _ k => XS.lsub X2.here hx rfl (hb hby d4_93) rfl k) ?_
        show Goes _ _ _ _ _ _ _ (T2.setTop (mkF m 94 _ [(.long (v6 - p2)), (.long p4)]))
        refine Goes.go (fun _ k => XS.l2i X2.here hx rfl (hb hby d4_94) rfl k) ?_
        show Goes _ _ _ _ _ _ _ (T2.setTop (mkF m 95 _ [(.int ((v6 - p2)).toInt32), (.long p4)]))
        refine Goes.go (fun _ k => XS.lushr X2.here hx rfl (hb hby d4_95) rfl k) ?_
        show Goes _ _ _ _ _ _ _ (T2.setTop (mkF m 96 _ [(.long ((p4).toUInt64 >>> (((v6 - p2)).toInt32 &&& 0x3f).toInt64.toUInt64).toInt64)]))
        refine Goes.go (fun _ k => XS.goto X2.here hx rfl (pc0 := 96) (pc' := 107) rfl (hb hby d4_96) (by decide) (by decide) k) ?_
        show Goes _ _ _ _ _ _ _ (T2.setTop (mkF m 107 _ [(.long ((p4).toUInt64 >>> (((v6 - p2)).toInt32 &&& 0x3f).toInt64.toUInt64).toInt64)]))
        generalize hv107 : ((p4).toUInt64 >>> (((v6 - p2)).toInt32 &&& 0x3f).toInt64.toUInt64).toInt64 = v107
        refine Goes.go (fun _ k => XS.lstore X2.here hx rfl (hb hby d4_107) rfl (l' := #[.val (.long p0), .second, .val (.int p1), .val (.long p2), .second, .val (.int p3), .val (.long p4), .second, .val (.long v6), .second, .val (.long v17), .second, .val (.long v36), .second, .val (.int v54), .val (.long (-1 : Int64)), .second, .val (.long v107), .second]) rfl k) ?_
        show Goes _ _ _ _ _ _ _ (T2.setTop (mkF m 109 #[.val (.long p0), .second, .val (.int p1), .val (.long p2), .second, .val (.int p3), .val (.long p4), .second, .val (.long v6), .second, .val (.long v17), .second, .val (.long v36), .second, .val (.int v54), .val (.long (-1 : Int64)), .second, .val (.long v107), .second] []))
        refine Goes.go (fun _ k => XS.lloadN X2.here hx rfl (hb hby d4_109) rfl k) ?_
        show Goes _ _ _ _ _ _ _ (T2.setTop (mkF m 110 _ [(.long p0)]))
        refine Goes.go (fun _ k => XS.lload X2.here hx rfl (hb hby d4_110) rfl k) ?_
        show Goes _ _ _ _ _ _ _ (T2.setTop (mkF m 112 _ [(.long (-1 : Int64)), (.long p0)]))
        refine Goes.go (fun _ k => X2.ldc2J hx (v := (-1 : Int64)) hown (mvT hZ (hw _ (List.mem_of_getElem? (i := 3) rfl))) rfl (hb hby d4_112) k) ?_
        show Goes _ _ _ _ _ _ _ (T2.setTop (mkF m 115 _ [(.long (-1 : Int64)), (.long (-1 : Int64)), (.long p0)]))
        refine Goes.go (fun _ k => XS.lxor X2.here hx rfl (hb hby d4_115) rfl k) ?_
        show Goes _ _ _ _ _ _ _ (T2.setTop (mkF m 116 _ [(.long ((-1 : Int64) ^^^ (-1 : Int64))), (.long p0)]))
        refine Goes.go (fun _ k => XS.land X2.here hx rfl (hb hby d4_116) rfl k) ?_
        show Goes _ _ _ _ _ _ _ (T2.setTop (mkF m 117 _ [(.long (p0 &&& ((-1 : Int64) ^^^ (-1 : Int64))))]))
        refine Goes.go (fun _ k => XS.lload X2.here hx rfl (hb hby d4_117) rfl k) ?_
        show Goes _ _ _ _ _ _ _ (T2.setTop (mkF m 119 _ [(.long v107), (.long (p0 &&& ((-1 : Int64) ^^^ (-1 : Int64))))]))
        refine Goes.go (fun _ k => XS.lload X2.here hx rfl (hb hby d4_119) rfl k) ?_
        show Goes _ _ _ _ _ _ _ (T2.setTop (mkF m 121 _ [(.long (-1 : Int64)), (.long v107), (.long (p0 &&& ((-1 : Int64) ^^^ (-1 : Int64))))]))
        refine Goes.go (fun _ k => XS.land X2.here hx rfl (hb hby d4_121) rfl k) ?_
        show Goes _ _ _ _ _ _ _ (T2.setTop (mkF m 122 _ [(.long (v107 &&& (-1 : Int64))), (.long (p0 &&& ((-1 : Int64) ^^^ (-1 : Int64))))]))
        refine Goes.go (fun _ k => XS.lor X2.here hx rfl (hb hby d4_122) rfl k) ?_
        show Goes _ _ _ _ _ _ _ (T2.setTop (mkF m 123 _ [(.long ((p0 &&& ((-1 : Int64) ^^^ (-1 : Int64))) ||| (v107 &&& (-1 : Int64))))]))
        exact Goes.outJ X2 hx hlk hret (hb hby d4_123) hh2 ⟨by simp only [exF, hv6, hv17, hv36, exG, if_pos c43, hv54, exM, if_pos c60, exS, if_neg c85, hv107, exH], N2, rfl⟩ (by decide) (by decide)
    · skip
      refine Goes.go (fun _ k => XS.icmpYes X2.here hx rfl (pc0 := 60) (pc' := 69) rfl (hb hby d4_60) rfl (XT.ii_ne_t c60) (by decide) (by decide) k) ?_
      show Goes _ _ _ _ _ _ _ (T2.setTop (mkF m 69 _ []))
      refine Goes.go (fun _ k => XS.lconst X2.here hx rfl (hb hby d4_69) k) ?_
      show Goes _ _ _ _ _ _ _ (T2.setTop (mkF m 70 _ [(.long (1 : Int64))]))
      refine Goes.go (fun _ k => XS.iload X2.here hx rfl (hb hby d4_70) rfl k) ?_
      show Goes _ _ _ _ _ _ _ (T2.setTop (mkF m 72 _ [(.int v54), (.long (1 : Int64))]))
      refine Goes.go (fun _ k => XS.lshl X2.here hx rfl (hb hby d4_72) rfl k) ?_
      show Goes _ _ _ _ _ _ _ (T2.setTop (mkF m 73 _ [(.long ((1 : Int64) <<< (v54 &&& 0x3f).toInt64))]))
      refine Goes.go (fun _ k => XS.lconst X2.here hx rfl (hb hby d4_73) k) ?_
      show Goes _ _ _ _ _ _ _ (T2.setTop (mkF m 74 _ [(.long (1 : Int64)), (.long ((1 : Int64) <<< (v54 &&& 0x3f).toInt64))]))
      refine Goes.go (fun _ k => XS.lsub X2.here hx rfl (hb hby d4_74) rfl k) ?_
      show Goes _ _ _ _ _ _ _ (T2.setTop (mkF m 75 _ [(.long (((1 : Int64) <<< (v54 &&& 0x3f).toInt64) - (1 : Int64)))]))
      refine Goes.go (fun _ k => XS.lload X2.here hx rfl (hb hby d4_75) rfl k) ?_
      show Goes _ _ _ _ _ _ _ (T2.setTop (mkF m 77 _ [(.long v17), (.long (((1 : Int64) <<< (v54 &&& 0x3f).toInt64) - (1 : Int64)))]))
      refine Goes.go (fun _ k => XS.l2i X2.here hx rfl (hb hby d4_77) rfl k) ?_
      show Goes _ _ _ _ _ _ _ (T2.setTop (mkF m 78 _ [(.int (v17).toInt32), (.long (((1 : Int64) <<< (v54 &&& 0x3f).toInt64) - (1 : Int64)))]))
      refine Goes.go (fun _ k => XS.lshl X2.here hx rfl (hb hby d4_78) rfl k) ?_
      show Goes _ _ _ _ _ _ _ (T2.setTop (mkF m 79 _ [(.long ((((1 : Int64) <<< (v54 &&& 0x3f).toInt64) - (1 : Int64)) <<< ((v17).toInt32 &&& 0x3f).toInt64))]))
      generalize hv79 : ((((1 : Int64) <<< (v54 &&& 0x3f).toInt64) - (1 : Int64)) <<< ((v17).toInt32 &&& 0x3f).toInt64) = v79
      refine Goes.go (fun _ k => XS.lstore X2.here hx rfl (hb hby d4_79) rfl (l' := #[.val (.long p0), .second, .val (.int p1), .val (.long p2), .second, .val (.int p3), .val (.long p4), .second, .val (.long v6), .second, .val (.long v17), .second, .val (.long v36), .second, .val (.int v54), .val (.long v79), .second, .unset, .unset]) rfl k) ?_
      show Goes _ _ _ _ _ _ _ (T2.setTop (mkF m 81 #[.val (.long p0), .second, .val (.int p1), .val (.long p2), .second, .val (.int p3), .val (.long p4), .second, .val (.long v6), .second, .val (.long v17), .second, .val (.long v36), .second, .val (.int v54), .val (.long v79), .second, .unset, .unset] []))
      refine Goes.go (fun _ k => XS.lload X2.here hx rfl (hb hby d4_81) rfl k) ?_
      show Goes _ _ _ _ _ _ _ (T2.setTop (mkF m 83 _ [(.long v6)]))
      refine Goes.go (fun _ k => XS.lloadN X2.here hx rfl (hb hby d4_83) rfl k) ?_
      show Goes _ _ _ _ _ _ _ (T2.setTop (mkF m 84 _ [(.long p2), (.long v6)]))
      refine Goes.go (fun _ k => XT.lcmp X2.here hx rfl (hb hby d4_84) rfl k) ?_
      show Goes _ _ _ _ _ _ _ (T2.setTop (mkF m 85 _ [(.int (XT.cmpL v6 p2))]))
      by_cases c85 : v6 < p2
      · skip
        refine Goes.go (fun _ k => XS.ifYes X2.here hx rfl (pc0 := 85) (pc' := 99) rfl (hb hby d4_85) rfl (XT.ll_lt_t c85) (by decide) (by decide) k) ?_
        show Goes _ _ _ _ _ _ _ (T2.setTop (mkF m 99 _ []))
        refine Goes.go (fun _ k => XS.lload X2.here hx rfl (hb hby d4_99) rfl k) ?_
        show Goes _ _ _ _ _ _ _ (T2.setTop (mkF m 101 _ [(.long p4)]))
        refine Goes.go (fun _ k => XS.lloadN X2.here hx rfl (hb hby d4_101) rfl k) ?_
        show Goes _ _ _ _ _ _ _ (T2.setTop (mkF m 102 _ [(.long p2), (.long p4)]))
        refine Goes.go (fun _ k => XS.lload X2.here hx rfl (hb hby d4_102) rfl k) ?_
        show Goes _ _ _ _ _ _ _ (T2.setTop (mkF m 104 _ [(.long v6), (.long p2), (.long p4)]))
        refine Goes.go (fun _ k => XS.lsub X2.here hx rfl (hb hby d4_104) rfl k) ?_
        show Goes _ _ _ _ _ _ _ (T2.setTop (mkF m 105 _ [(.long (p2 - v6)), (.long p4)]))
        refine Goes.go (fun _ k => XS.l2i X2.here hx rfl (hb hby d4_105) rfl k) ?_
        show Goes _ _ _ _ _ _ _ (T2.setTop (mkF m 106 _ [(.int ((p2 - v6)).toInt32), (.long p4)]))
        refine Goes.go (fun _ k => XS.lshl X2.here hx rfl (hb hby d4_106) rfl k) ?_
        show Goes _ _ _ _ _ _ _ (T2.setTop (mkF m 107 _ [(.long (p4 <<< (((p2 - v6)).toInt32 &&& 0x3f).toInt64))]))
        generalize hv107 : (p4 <<< (((p2 - v6)).toInt32 &&& 0x3f).toInt64) = v107
        refine Goes.go (fun _ k => XS.lstore X2.here hx rfl (hb hby d4_107) rfl (l' := #[.val (.long p0), .second, .val (.int p1), .val (.long p2), .second, .val (.int p3), .val (.long p4), .second, .val (.long v6), .second, .val (.long v17), .second, .val (.long v36), .second, .val (.int v54), .val (.long v79), .second, .val (.long v107), .second]) rfl k) ?_
        show Goes _ _ _ _ _ _ _ (T2.setTop (mkF m 109 #[.val (.long p0), .second, .val (.int p1), .val (.long p2), .second, .val (.int p3), .val (.long p4), .second, .val (.long v6), .second, .val (.long v17), .second, .val (.long v36), .second, .val (.int v54), .val (.long v79), .second, .val (.long v107), .second] []))
        refine Goes.go (fun _ k => XS.lloadN X2.here hx rfl (hb hby d4_109) rfl k) ?_
        show Goes _ _ _ _ _ _ _ (T2.setTop (mkF m 110 _ [(.long p0)]))
        refine Goes.go (fun _ k => XS.lload X2.here hx rfl (hb hby d4_110) rfl k) ?_
        show Goes _ _ _ _ _ _ _ (T2.setTop (mkF m 112 _ [(.long v79), (.long p0)]))
        refine Goes.go (fun _ k => X2.ldc2J hx (v := (-1 : Int64)) hown (mvT hZ (hw _ (List.mem_of_getElem? (i := 3) rfl))) rfl (hb hby d4_112) k) ?_
        show Goes _ _ _ _ _ _ _ (T2.setTop (mkF m 115 _ [(.long (-1 : Int64)), (.long v79), (.long p0)]))
        refine Goes.go (fun _ k => XS.lxor X2.here hx rfl (hb hby d4_115) rfl k) ?_
        show Goes _ _ _ _ _ _ _ (T2.setTop (mkF m 116 _ [(.long (v79 ^^^ (-1 : Int64))), (.long p0)]))
        refine Goes.go (fun _ k => XS.land X2.here hx rfl (hb hby d4_116) rfl k) ?_
        show Goes _ _ _ _ _ _ _ (T2.setTop (mkF m 117 _ [(.long (p0 &&& (v79 ^^^ (-1 : Int64))))]))
        refine Goes.go (fun _ k => XS.lload X2.here hx rfl (hb hby d4_117) rfl k) ?_
        show Goes _ _ _ _ _ _ _ (T2.setTop (mkF m 119 _ [(.long v107), (.long (p0 &&& (v79 ^^^ (-1 : Int64))))]))
        refine Goes.go (fun _ k => XS.lload X2.here hx rfl (hb hby d4_119) rfl k) ?_
        show Goes _ _ _ _ _ _ _ (T2.setTop (mkF m 121 _ [(.long v79), (.long v107), (.long (p0 &&& (v79 ^^^ (-1 : Int64))))]))
        refine Goes.go (fun _ k => XS.land X2.here hx rfl (hb hby d4_121) rfl k) ?_
        show Goes _ _ _ _ _ _ _ (T2.setTop (mkF m 122 _ [(.long (v107 &&& v79)), (.long (p0 &&& (v79 ^^^ (-1 : Int64))))]))
        refine Goes.go (fun _ k => XS.lor X2.here hx rfl (hb hby d4_122) rfl k) ?_
        show Goes _ _ _ _ _ _ _ (T2.setTop (mkF m 123 _ [(.long ((p0 &&& (v79 ^^^ (-1 : Int64))) ||| (v107 &&& v79)))]))
        exact Goes.outJ X2 hx hlk hret (hb hby d4_123) hh2 ⟨by simp only [exF, hv6, hv17, hv36, exG, if_pos c43, hv54, exM, if_neg c60, hv79, exS, if_pos c85, hv107, exH], N2, rfl⟩ (by decide) (by decide)
      · skip
        refine Goes.go (fun _ k => XS.ifNo X2.here hx rfl (hb hby d4_85) rfl (XT.ll_lt_f c85) k) ?_
        show Goes _ _ _ _ _ _ _ (T2.setTop (mkF m 88 _ []))
        refine Goes.go (fun _ k => XS.lload X2.here hx rfl (hb hby d4_88) rfl k) ?_
        show Goes _ _ _ _ _ _ _ (T2.setTop (mkF m 90 _ [(.long p4)]))
        refine Goes.go (fun _ k => XS.lload X2.here hx rfl (hb hby d4_90) rfl k) ?_
        show Goes _ _ _ _ _ _ _ (T2.setTop (mkF m 92 _ [(.long v6), (.long p4)]))
        refine Goes.go (fun _ k => XS.lloadN X2.here hx rfl (hb hby d4_92) rfl k) ?_
        show Goes _ _ _ _ _ _ _ (T2.setTop (mkF m 93 _ [(.long p2), (.long v6), (.long p4)]))
        refine Goes.go (fun _ k => XS.lsub X2.here hx rfl (hb hby d4_93) rfl k) ?_
        show Goes _ _ _ _ _ _ _ (T2.setTop (mkF m 94 _ [(.long (v6 - p2)), (.long p4)]))
        refine Goes.go (fun _ k => XS.l2i X2.here hx rfl (hb hby d4_94) rfl k) ?_
        show Goes _ _ _ _ _ _ _ (T2.setTop (mkF m 95 _ [(.int ((v6 - p2)).toInt32), (.long p4)]))
        refine Goes.go (fun _ k => XS.lushr X2.here hx rfl (hb hby d4_95) rfl k) ?_
        show Goes _ _ _ _ _ _ _ (T2.setTop (mkF m 96 _ [(.long ((p4).toUInt64 >>> (((v6 - p2)).toInt32 &&& 0x3f).toInt64.toUInt64).toInt64)]))
        refine Goes.go (fun _ k => XS.goto X2.here hx rfl (pc0 := 96) (pc' := 107) rfl (hb hby d4_96) (by decide) (by decide) k) ?_
        show Goes _ _ _ _ _ _ _ (T2.setTop (mkF m 107 _ [(.long ((p4).toUInt64 >>> (((v6 - p2)).toInt32 &&& 0x3f).toInt64.toUInt64).toInt64)]))
        generalize hv107 : ((p4).toUInt64 >>> (((v6 - p2)).toInt32 &&& 0x3f).toInt64.toUInt64).toInt64 = v107
        refine Goes.go (fun _ k => XS.lstore X2.here hx rfl (hb hby d4_107) rfl (l' := #[.val (.long p0), .second, .val (.int p1), .val (.long p2), .second, .val (.int p3), .val (.long p4), .second, .val (.long v6), .second, .val (.long v17), .second, .val (.long v36), .second, .val (.int v54), .val (.long v79), .second, .val (.long v107), .second]) rfl k) ?_
        show Goes _ _ _ _ _ _ _ (T2.setTop (mkF m 109 #[.val (.long p0), .second, .val (.int p1), .val (.long p2), .second, .val (.int p3), .val (.long p4), .second, .val (.long v6), .second, .val (.long v17), .second, .val (.long v36), .second, .val (.int v54), .val (.long v79), .second, .val (.long v107), .second] []))
        refine Goes.go (fun _ k => XS.lloadN X2.here hx rfl (hb hby d4_109) rfl k) ?_
        show Goes _ _ _ _ _ _ _ (T2.setTop (mkF m 110 _ [(.long p0)]))
        refine Goes.go (fun _ k => XS.lload X2.here hx rfl (hb hby d4_110) rfl k) ?_
        show Goes _ _ _ _ _ _ _ (T2.setTop (mkF m 112 _ [(.long v79), (.long p0)]))
        refine Goes.go (fun _ k => X2.ldc2J hx (v := (-1 : Int64)) hown (mvT hZ (hw _ (List.mem_of_getElem? (i := 3) rfl))) rfl (hb hby d4_112) k) ?_
        show Goes _ _ _ _ _ _ _ (T2.setTop (mkF m 115 _ [(.long (-1 : Int64)), (.long v79), (.long p0)]))
        refine Goes.go (fun _ k => XS.lxor X2.here hx rfl (hb hby d4_115) rfl k) ?_
        show Goes _ _ _ _ _ _ _ (T2.setTop (mkF m 116 _ [(.long (v79 ^^^ (-1 : Int64))), (.long p0)]))
        refine Goes.go (fun _ k => XS.land X2.here hx rfl (hb hby d4_116) rfl k) ?_
        show Goes _ _ _ _ _ _ _ (T2.setTop (mkF m 117 _ [(.long (p0 &&& (v79 ^^^ (-1 : Int64))))]))
        refine Goes.go (fun _ k => XS.lload X2.here hx rfl (hb hby d4_117) rfl k) ?_
        show Goes _ _ _ _ _ _ _ (T2.setTop (mkF m 119 _ [(.long v107), (.long (p0 &&& (v79 ^^^ (-1 : Int64))))]))
        refine Goes.go (fun _ k => XS.lload X2.here hx rfl (hb hby d4_119) rfl k) ?_
        show Goes _ _ _ _ _ _ _ (T2.setTop (mkF m 121 _ [(.long v79), (.long v107), (.long (p0 &&& (v79 ^^^ (-1 : Int64))))]))
        refine Goes.go (fun _ k => XS.land X2.here hx rfl (hb hby d4_121) rfl k) ?_
        show Goes _ _ _ _ _ _ _ (T2.setTop (mkF m 122 _ [(.long (v107 &&& v79)), (.long (p0 &&& (v79 ^^^ (-1 : Int64))))]))
        refine Goes.go (fun _ k => XS.lor X2.here hx rfl (hb hby d4_122) rfl k) ?_
        show Goes _ _ _ _ _ _ _ (T2.setTop (mkF m 123 _ [(.long ((p0 &&& (v79 ^^^ (-1 : Int64))) ||| (v107 &&& v79)))]))
        exact Goes.outJ X2 hx hlk hret (hb hby d4_123) hh2 ⟨by simp only [exF, hv6, hv17, hv36, exG, if_pos c43, hv54, exM, if_neg c60, hv79, exS, if_neg c85, hv107, exH], N2, rfl⟩ (by decide) (by decide)
  · skip
    refine Goes.go (fun _ k => XS.ifNo X2.here hx rfl (hb hby d4_43) rfl (XT.ll_lt_f c43) k) ?_
    show Goes _ _ _ _ _ _ _ (T2.setTop (mkF m 46 _ []))
    refine Goes.go (fun _ k => XS.lloadN X2.here hx rfl (hb hby d4_46) rfl k) ?_
    show Goes _ _ _ _ _ _ _ (T2.setTop (mkF m 47 _ [(.long p0)]))
    exact Goes.outJ X2 hx hlk hret (hb hby d4_47) hh2 ⟨by simp only [exF, hv6, hv17, hv36, exG, if_neg c43], N2, rfl⟩ (by decide) (by decide)
theorem ef_rm0 (m : MethodId) (p0 : Int32) (p1 : Int32) (p2 : Int64) (p3 : Int64) (p4 : Int64) (p5 : Int64) : entryFrame m #[(.int p0), (.int p1), (.long p2), (.long p3), (.long p4), (.long p5)] maxLocals = mkF m 0 #[.val (.int p0), .val (.int p1), .val (.long p2), .second, .val (.long p3), .second, .val (.long p4), .second, .val (.long p5), .second, .unset, .unset, .unset, .unset, .unset, .unset, .unset, .unset, .unset, .unset, .unset, .unset, .unset, .unset, .unset, .unset, .unset, .unset] [] := by first | (simp [entryFrame, mkF, argsToLocals, Value.category, maxLocals]; done) | rfl
def Q_rm0 (Z : State) (p0 : Int32) (p1 : Int32) (p2 : Int64) (p3 : Int64) (p4 : Int64) (p5 : Int64) (h0 : Heap) (n0 : Nat) (v : Option Value) (h : Heap) (L : List Loc) : Prop := v = some (.int 1) ∧ Fr n0 L
set_option maxRecDepth 65536 in
set_option maxHeartbeats 40000000 in
theorem rm0 (l : Launch) (Z : State) (a0 : Array Value) (hw : ∀ d ∈ tables_1, d.before a0 Z = true) (ws : List Jvm.Cond) (p0 : Int32) (p1 : Int32) (p2 : Int64) (p3 : Int64) (p4 : Int64) (p5 : Int64) (h0 : Heap) (n0 : Nat) (Z0 : n0 ≤ h0.size)  :
    MetFree l x (head1 (Jvm.Cond.code x code maxLocals ret :: ws) room_1) (fun aa U => aa = #[(.int p0), (.int p1), (.long p2), (.long p3), (.long p4), (.long p5)] ∧ Z.Warmed39 U.vm ∧ U.heap = h0) (fun _ _ _ _ _ => True) (fun _ U o U' => ∃ v L, o = .returned v ∧ Q_rm0 Z p0 p1 p2 p3 p4 p5 h0 n0 v U'.heap L ∧ FrameEnd U o U' L room_1.cells room_1.slots) := by
  refine MetFree.of_bodySF (plainFor_of_name pn1) hisR ?_
  intro p e s m args below meth c s₁ Bd hml0 hP hK
  obtain ⟨rfl, hZ, hh⟩ := hP
  have hx := Bd.exec
  have hby := Bd.bytes
  have hml : c.maxLocals = 28 := hml0
  have hown : s.vm.findClass "com/example/galdict/galdict/model/PackedArraySetPinLaw" = some m.cls := findClass_of_methodNamed Bd.named
  have hnm := (name_of_methodNamed Bd.named Bd.method).1
  have hlk : meth.locks = false := Bd.notSynchronized
  have hret := Bd.returns
  have X0 : Stand p l e room_1 s m #[(.int p0), (.int p1), (.long p2), (.long p3), (.long p4), (.long p5)] below meth c s₁ [] 0 0 := Stand.of_body Bd
  have e0 : s₁.heap = h0 := by rw [← hh, Bd.state]; rfl
  have N0 := Fr.nil n0
  have K0 : Keep h0 h0 [] := Keep.refl _ _
  show Goes p e below s (Q_rm0 Z p0 p1 p2 p3 p4 p5 h0 n0) room_1.cells room_1.slots _
  refine Goes.go (fun t k => castTop (ef_rm0 m p0 p1 p2 p3 p4 p5) k) ?_
  show Goes _ _ _ _ _ _ _ (s₁.setTop (mkF m 0 #[.val (.int p0), .val (.int p1), .val (.long p2), .second, .val (.long p3), .second, .val (.long p4), .second, .val (.long p5), .second, .unset, .unset, .unset, .unset, .unset, .unset, .unset, .unset, .unset, .unset, .unset, .unset, .unset, .unset, .unset, .unset, .unset, .unset] []))
  refine Goes.go (fun _ k => XS.iloadN X0.here hx rfl (hb hby at_0) rfl k) ?_
  show Goes _ _ _ _ _ _ _ (s₁.setTop (mkF m 1 _ [(.int p0)]))
  refine Goes.go (fun _ k => XS.bipush X0.here hx rfl (hb hby at_1) k) ?_
  show Goes _ _ _ _ _ _ _ (s₁.setTop (mkF m 3 _ [(.int (63 : Int32)), (.int p0)]))
  refine Goes.go (fun _ k => XS.iand X0.here hx rfl (hb hby at_3) rfl k) ?_
  show Goes _ _ _ _ _ _ _ (s₁.setTop (mkF m 4 _ [(.int (p0 &&& (63 : Int32)))]))
  refine Goes.go (fun _ k => XS.iconst X0.here hx rfl (hb hby at_4) k) ?_
  show Goes _ _ _ _ _ _ _ (s₁.setTop (mkF m 5 _ [(.int (1 : Int32)), (.int (p0 &&& (63 : Int32)))]))
  refine Goes.go (fun _ k => XS.iadd X0.here hx rfl (hb hby at_5) rfl k) ?_
  show Goes _ _ _ _ _ _ _ (s₁.setTop (mkF m 6 _ [(.int ((p0 &&& (63 : Int32)) + (1 : Int32)))]))
  generalize hv6 : ((p0 &&& (63 : Int32)) + (1 : Int32)) = v6
  refine Goes.go (fun _ k => XS.istore X0.here hx rfl (hb hby at_6) rfl (l' := #[.val (.int p0), .val (.int p1), .val (.long p2), .second, .val (.long p3), .second, .val (.long p4), .second, .val (.long p5), .second, .val (.int v6), .unset, .unset, .unset, .unset, .unset, .unset, .unset, .unset, .unset, .unset, .unset, .unset, .unset, .unset, .unset, .unset, .unset]) rfl k) ?_
  show Goes _ _ _ _ _ _ _ (s₁.setTop (mkF m 8 #[.val (.int p0), .val (.int p1), .val (.long p2), .second, .val (.long p3), .second, .val (.long p4), .second, .val (.long p5), .second, .val (.int v6), .unset, .unset, .unset, .unset, .unset, .unset, .unset, .unset, .unset, .unset, .unset, .unset, .unset, .unset, .unset, .unset, .unset] []))
  obtain ⟨w', hw1, hw2, hw3⟩ := own_wi2 p0
  rw [hv6] at hw1
  refine Goes.go (fun _ k => X0.ldc2J hx (v := (192 : Int64)) hown (mvT hZ (hw _ (List.mem_of_getElem? (i := 0) rfl))) rfl (hb hby at_8) k) ?_
  show Goes _ _ _ _ _ _ _ (s₁.setTop (mkF m 11 _ [(.long (192 : Int64))]))
  refine Goes.go (fun _ k => XS.iload X0.here hx rfl (hb hby at_11) rfl k) ?_
  show Goes _ _ _ _ _ _ _ (s₁.setTop (mkF m 13 _ [(.int v6), (.long (192 : Int64))]))
  refine Goes.go (fun _ k => XS.i2l X0.here hx rfl (hb hby at_13) rfl k) ?_
  show Goes _ _ _ _ _ _ _ (s₁.setTop (mkF m 14 _ [(.long (v6).toInt64), (.long (192 : Int64))]))
  refine Goes.go (fun _ k => XS.ldiv X0.here hx rfl (hb hby at_14) rfl (own_wnz hw1 hw2) k) ?_
  show Goes _ _ _ _ _ _ _ (s₁.setTop (mkF m 15 _ [(.long ((192 : Int64) / (v6).toInt64))]))
  generalize hv15 : ((192 : Int64) / (v6).toInt64) = v15
  refine Goes.go (fun _ k => XS.lstore X0.here hx rfl (hb hby at_15) rfl (l' := #[.val (.int p0), .val (.int p1), .val (.long p2), .second, .val (.long p3), .second, .val (.long p4), .second, .val (.long p5), .second, .val (.int v6), .val (.long v15), .second, .unset, .unset, .unset, .unset, .unset, .unset, .unset, .unset, .unset, .unset, .unset, .unset, .unset, .unset, .unset]) rfl k) ?_
  show Goes _ _ _ _ _ _ _ (s₁.setTop (mkF m 17 #[.val (.int p0), .val (.int p1), .val (.long p2), .second, .val (.long p3), .second, .val (.long p4), .second, .val (.long p5), .second, .val (.int v6), .val (.long v15), .second, .unset, .unset, .unset, .unset, .unset, .unset, .unset, .unset, .unset, .unset, .unset, .unset, .unset, .unset, .unset] []))
  have hn := own_nlen hw1 hw2 hw3
  rw [hv15] at hn
  have hn0 := own_len0 hw2 hw3
  refine Goes.go (fun _ k => XS.iloadN X0.here hx rfl (hb hby at_17) rfl k) ?_
  show Goes _ _ _ _ _ _ _ (s₁.setTop (mkF m 18 _ [(.int p1)]))
  refine Goes.go (fun _ k => X0.ldcI hx (v := (2147483647 : Int32)) hown (mvT hZ (hw _ (List.mem_of_getElem? (i := 1) rfl))) rfl (hb hby at_18) k) ?_
  show Goes _ _ _ _ _ _ _ (s₁.setTop (mkF m 20 _ [(.int (2147483647 : Int32)), (.int p1)]))
  refine Goes.go (fun _ k => XS.iand X0.here hx rfl (hb hby at_20) rfl k) ?_
  show Goes _ _ _ _ _ _ _ (s₁.setTop (mkF m 21 _ [(.int (p1 &&& (2147483647 : Int32)))]))
  refine Goes.go (fun _ k => XS.lload X0.here hx rfl (hb hby at_21) rfl k) ?_
  show Goes _ _ _ _ _ _ _ (s₁.setTop (mkF m 23 _ [(.long v15), (.int (p1 &&& (2147483647 : Int32)))]))
  refine Goes.go (fun _ k => XS.l2i X0.here hx rfl (hb hby at_23) rfl k) ?_
  show Goes _ _ _ _ _ _ _ (s₁.setTop (mkF m 24 _ [(.int (v15).toInt32), (.int (p1 &&& (2147483647 : Int32)))]))
  refine Goes.go (fun _ k => iremM X0 hx rfl (hb hby at_24) rfl (own_n32 hn hn0.1 hn0.2.2).2 k) ?_
  show Goes _ _ _ _ _ _ _ (s₁.setTop (mkF m 25 _ [(.int ((p1 &&& (2147483647 : Int32)) % (v15).toInt32))]))
  refine Goes.go (fun _ k => XS.i2l X0.here hx rfl (hb hby at_25) rfl k) ?_
  show Goes _ _ _ _ _ _ _ (s₁.setTop (mkF m 26 _ [(.long (((p1 &&& (2147483647 : Int32)) % (v15).toInt32)).toInt64)]))
  generalize hv26 : (((p1 &&& (2147483647 : Int32)) % (v15).toInt32)).toInt64 = v26
  refine Goes.go (fun _ k => XS.lstore X0.here hx rfl (hb hby at_26) rfl (l' := #[.val (.int p0), .val (.int p1), .val (.long p2), .second, .val (.long p3), .second, .val (.long p4), .second, .val (.long p5), .second, .val (.int v6), .val (.long v15), .second, .val (.long v26), .second, .unset, .unset, .unset, .unset, .unset, .unset, .unset, .unset, .unset, .unset, .unset, .unset, .unset]) rfl k) ?_
  show Goes _ _ _ _ _ _ _ (s₁.setTop (mkF m 28 #[.val (.int p0), .val (.int p1), .val (.long p2), .second, .val (.long p3), .second, .val (.long p4), .second, .val (.long p5), .second, .val (.int v6), .val (.long v15), .second, .val (.long v26), .second, .unset, .unset, .unset, .unset, .unset, .unset, .unset, .unset, .unset, .unset, .unset, .unset, .unset] []))
  obtain ⟨i, hi1, hi2⟩ := own_ix2 p1 hn hn0.1 hn0.2.2 hv26
  obtain ⟨hm, hm2⟩ := own_mul hi1 hw1 hi2 hn0.2.1 hw3 hn0.2.2
  refine Goes.go (fun _ k => XS.iload X0.here hx rfl (hb hby at_28) rfl k) ?_
  show Goes _ _ _ _ _ _ _ (s₁.setTop (mkF m 30 _ [(.int v6)]))
  refine Goes.go (fun _ k => XS.bipush X0.here hx rfl (hb hby at_30) k) ?_
  show Goes _ _ _ _ _ _ _ (s₁.setTop (mkF m 32 _ [(.int (64 : Int32)), (.int v6)]))
  by_cases c32 : v6 = (64 : Int32)
  · skip
    refine Goes.go (fun _ k => XS.icmpNo X0.here hx rfl (hb hby at_32) rfl (XT.ii_ne_f c32) k) ?_
    show Goes _ _ _ _ _ _ _ (s₁.setTop (mkF m 35 _ []))
    refine Goes.go (fun _ k => X0.ldc2J hx (v := (-1 : Int64)) hown (mvT hZ (hw _ (List.mem_of_getElem? (i := 3) rfl))) rfl (hb hby at_35) k) ?_
    show Goes _ _ _ _ _ _ _ (s₁.setTop (mkF m 38 _ [(.long (-1 : Int64))]))
    refine Goes.go (fun _ k => XS.goto X0.here hx rfl (pc0 := 38) (pc' := 47) rfl (hb hby at_38) (by decide) (by decide) k) ?_
    show Goes _ _ _ _ _ _ _ (s₁.setTop (mkF m 47 _ [(.long (-1 : Int64))]))
    refine Goes.go (fun _ k => XS.lstore X0.here hx rfl (hb hby at_47) rfl (l' := #[.val (.int p0), .val (.int p1), .val (.long p2), .second, .val (.long p3), .second, .val (.long p4), .second, .val (.long p5), .second, .val (.int v6), .val (.long v15), .second, .val (.long v26), .second, .val (.long (-1 : Int64)), .second, .unset, .unset, .unset, .unset, .unset, .unset, .unset, .unset, .unset, .unset, .unset]) rfl k) ?_
    show Goes _ _ _ _ _ _ _ (s₁.setTop (mkF m 49 #[.val (.int p0), .val (.int p1), .val (.long p2), .second, .val (.long p3), .second, .val (.long p4), .second, .val (.long p5), .second, .val (.int v6), .val (.long v15), .second, .val (.long v26), .second, .val (.long (-1 : Int64)), .second, .unset, .unset, .unset, .unset, .unset, .unset, .unset, .unset, .unset, .unset, .unset] []))
    refine Goes.go (fun _ k => XS.lloadN X0.here hx rfl (hb hby at_49) rfl k) ?_
    show Goes _ _ _ _ _ _ _ (s₁.setTop (mkF m 50 _ [(.long p2)]))
    refine Goes.go (fun _ k => XS.lload X0.here hx rfl (hb hby at_50) rfl k) ?_
    show Goes _ _ _ _ _ _ _ (s₁.setTop (mkF m 52 _ [(.long (-1 : Int64)), (.long p2)]))
    refine Goes.go (fun _ k => XS.land X0.here hx rfl (hb hby at_52) rfl k) ?_
    show Goes _ _ _ _ _ _ _ (s₁.setTop (mkF m 53 _ [(.long (p2 &&& (-1 : Int64)))]))
    generalize hv53 : (p2 &&& (-1 : Int64)) = v53
    refine Goes.go (fun _ k => XS.lstore X0.here hx rfl (hb hby at_53) rfl (l' := #[.val (.int p0), .val (.int p1), .val (.long p2), .second, .val (.long p3), .second, .val (.long p4), .second, .val (.long p5), .second, .val (.int v6), .val (.long v15), .second, .val (.long v26), .second, .val (.long (-1 : Int64)), .second, .val (.long v53), .second, .unset, .unset, .unset, .unset, .unset, .unset, .unset, .unset, .unset]) rfl k) ?_
    show Goes _ _ _ _ _ _ _ (s₁.setTop (mkF m 55 #[.val (.int p0), .val (.int p1), .val (.long p2), .second, .val (.long p3), .second, .val (.long p4), .second, .val (.long p5), .second, .val (.int v6), .val (.long v15), .second, .val (.long v26), .second, .val (.long (-1 : Int64)), .second, .val (.long v53), .second, .unset, .unset, .unset, .unset, .unset, .unset, .unset, .unset, .unset] []))
    have hvb : ∀ t, w' ≤ t → lbit v53 t = false := own_v1 (q := p2) hw1 c32
    refine Goes.go (fun _ k => XS.lload X0.here hx rfl (hb hby at_55) rfl k) ?_
    show Goes _ _ _ _ _ _ _ (s₁.setTop (mkF m 57 _ [(.long v15)]))
    refine Goes.go (fun _ k => XS.iload X0.here hx rfl (hb hby at_57) rfl k) ?_
    show Goes _ _ _ _ _ _ _ (s₁.setTop (mkF m 59 _ [(.int v6), (.long v15)]))
    refine Goes.go (fun _ k => XS.i2l X0.here hx rfl (hb hby at_59) rfl k) ?_
    show Goes _ _ _ _ _ _ _ (s₁.setTop (mkF m 60 _ [(.long (v6).toInt64), (.long v15)]))
    refine Goes.go (fun _ k => XS.lmul X0.here hx rfl (hb hby at_60) rfl k) ?_
    show Goes _ _ _ _ _ _ _ (s₁.setTop (mkF m 61 _ [(.long (v15 * (v6).toInt64))]))
    refine Goes.go (fun _ k => X0.ldc2J hx (v := (128 : Int64)) hown (mvT hZ (hw _ (List.mem_of_getElem? (i := 2) rfl))) rfl (hb hby at_61) k) ?_
    show Goes _ _ _ _ _ _ _ (s₁.setTop (mkF m 64 _ [(.long (128 : Int64)), (.long (v15 * (v6).toInt64))]))
    refine Goes.go (fun _ k => XS.lsub X0.here hx rfl (hb hby at_64) rfl k) ?_
    show Goes _ _ _ _ _ _ _ (s₁.setTop (mkF m 65 _ [(.long ((v15 * (v6).toInt64) - (128 : Int64)))]))
    refine Goes.go (fun _ k => XS.l2i X0.here hx rfl (hb hby at_65) rfl k) ?_
    show Goes _ _ _ _ _ _ _ (s₁.setTop (mkF m 66 _ [(.int (((v15 * (v6).toInt64) - (128 : Int64))).toInt32)]))
    generalize hv66 : (((v15 * (v6).toInt64) - (128 : Int64))).toInt32 = v66
    refine Goes.go (fun _ k => XS.istore X0.here hx rfl (hb hby at_66) rfl (l' := #[.val (.int p0), .val (.int p1), .val (.long p2), .second, .val (.long p3), .second, .val (.long p4), .second, .val (.long p5), .second, .val (.int v6), .val (.long v15), .second, .val (.long v26), .second, .val (.long (-1 : Int64)), .second, .val (.long v53), .second, .val (.int v66), .unset, .unset, .unset, .unset, .unset, .unset, .unset, .unset]) rfl k) ?_
    show Goes _ _ _ _ _ _ _ (s₁.setTop (mkF m 68 #[.val (.int p0), .val (.int p1), .val (.long p2), .second, .val (.long p3), .second, .val (.long p4), .second, .val (.long p5), .second, .val (.int v6), .val (.long v15), .second, .val (.long v26), .second, .val (.long (-1 : Int64)), .second, .val (.long v53), .second, .val (.int v66), .unset, .unset, .unset, .unset, .unset, .unset, .unset, .unset] []))
    refine Goes.go (fun _ k => XS.iload X0.here hx rfl (hb hby at_68) rfl k) ?_
    show Goes _ _ _ _ _ _ _ (s₁.setTop (mkF m 70 _ [(.int v66)]))
    refine Goes.go (fun _ k => XS.bipush X0.here hx rfl (hb hby at_70) k) ?_
    show Goes _ _ _ _ _ _ _ (s₁.setTop (mkF m 72 _ [(.int (64 : Int32)), (.int v66)]))
    by_cases c72 : v66 = (64 : Int32)
    · skip
      refine Goes.go (fun _ k => XS.icmpNo X0.here hx rfl (hb hby at_72) rfl (XT.ii_ne_f c72) k) ?_
      show Goes _ _ _ _ _ _ _ (s₁.setTop (mkF m 75 _ []))
      refine Goes.go (fun _ k => X0.ldc2J hx (v := (-1 : Int64)) hown (mvT hZ (hw _ (List.mem_of_getElem? (i := 3) rfl))) rfl (hb hby at_75) k) ?_
      show Goes _ _ _ _ _ _ _ (s₁.setTop (mkF m 78 _ [(.long (-1 : Int64))]))
      refine Goes.go (fun _ k => XS.goto X0.here hx rfl (pc0 := 78) (pc' := 87) rfl (hb hby at_78) (by decide) (by decide) k) ?_
      show Goes _ _ _ _ _ _ _ (s₁.setTop (mkF m 87 _ [(.long (-1 : Int64))]))
      refine Goes.go (fun _ k => XS.lstore X0.here hx rfl (hb hby at_87) rfl (l' := #[.val (.int p0), .val (.int p1), .val (.long p2), .second, .val (.long p3), .second, .val (.long p4), .second, .val (.long p5), .second, .val (.int v6), .val (.long v15), .second, .val (.long v26), .second, .val (.long (-1 : Int64)), .second, .val (.long v53), .second, .val (.int v66), .val (.long (-1 : Int64)), .second, .unset, .unset, .unset, .unset, .unset, .unset]) rfl k) ?_
      show Goes _ _ _ _ _ _ _ (s₁.setTop (mkF m 89 #[.val (.int p0), .val (.int p1), .val (.long p2), .second, .val (.long p3), .second, .val (.long p4), .second, .val (.long p5), .second, .val (.int v6), .val (.long v15), .second, .val (.long v26), .second, .val (.long (-1 : Int64)), .second, .val (.long v53), .second, .val (.int v66), .val (.long (-1 : Int64)), .second, .unset, .unset, .unset, .unset, .unset, .unset] []))
      refine Goes.go (fun _ k => XS.lload X0.here hx rfl (hb hby at_89) rfl k) ?_
      show Goes _ _ _ _ _ _ _ (s₁.setTop (mkF m 91 _ [(.long p5)]))
      refine Goes.go (fun _ k => XS.lload X0.here hx rfl (hb hby at_91) rfl k) ?_
      show Goes _ _ _ _ _ _ _ (s₁.setTop (mkF m 93 _ [(.long (-1 : Int64)), (.long p5)]))
      refine Goes.go (fun _ k => XS.land X0.here hx rfl (hb hby at_93) rfl k) ?_
      show Goes _ _ _ _ _ _ _ (s₁.setTop (mkF m 94 _ [(.long (p5 &&& (-1 : Int64)))]))
      generalize hv94 : (p5 &&& (-1 : Int64)) = v94
      refine Goes.go (fun _ k => XS.lstore X0.here hx rfl (hb hby at_94) rfl (l' := #[.val (.int p0), .val (.int p1), .val (.long p2), .second, .val (.long p3), .second, .val (.long p4), .second, .val (.long p5), .second, .val (.int v6), .val (.long v15), .second, .val (.long v26), .second, .val (.long (-1 : Int64)), .second, .val (.long v53), .second, .val (.int v66), .val (.long (-1 : Int64)), .second, .val (.long v94), .second, .unset, .unset, .unset, .unset]) rfl k) ?_
      show Goes _ _ _ _ _ _ _ (s₁.setTop (mkF m 96 #[.val (.int p0), .val (.int p1), .val (.long p2), .second, .val (.long p3), .second, .val (.long p4), .second, .val (.long p5), .second, .val (.int v6), .val (.long v15), .second, .val (.long v26), .second, .val (.long (-1 : Int64)), .second, .val (.long v53), .second, .val (.int v66), .val (.long (-1 : Int64)), .second, .val (.long v94), .second, .unset, .unset, .unset, .unset] []))
      refine Goes.go (fun _ k => XS.iconst X0.here hx rfl (hb hby at_96) k) ?_
      show Goes _ _ _ _ _ _ _ (s₁.setTop (mkF m 97 _ [(.int (3 : Int32))]))
      obtain ⟨T1, h1, X1, e1, E1, A1, st1⟩ := own_newP X0 hx hZ (aty := .long) (hw _ (List.mem_of_getElem? (i := 4) rfl)) e0 (g := (mkF m 97 #[.val (.int p0), .val (.int p1), .val (.long p2), .second, .val (.long p3), .second, .val (.long p4), .second, .val (.long p5), .second, .val (.int v6), .val (.long v15), .second, .val (.long v26), .second, .val (.long (-1 : Int64)), .second, .val (.long v53), .second, .val (.int v66), .val (.long (-1 : Int64)), .second, .val (.long v94), .second, .unset, .unset, .unset, .unset] [(.int (3 : Int32))])) rfl (hb hby at_97) rfl (n := (3 : Int32)) (by decide) (cap := 3) (by decide) (by decide) (by decide) (by decide)
      obtain ⟨ar97, gar97⟩ : ∃ z, z = h0.size := ⟨_, rfl⟩
      rw [← gar97] at A1 st1
      have Z1 : n0 ≤ h1.size := Nat.le_trans Z0 E1.1
      have ge_ar97 : n0 ≤ ar97 := Nat.le_trans Z0 (Nat.le_of_eq gar97.symm)
      have f : Arl Z h1 ar97 .long [(.long (0 : Int64)), (.long (0 : Int64)), (.long (0 : Int64))] := A1
      refine Goes.go (st1) ?_
      show Goes _ _ _ _ _ _ _ (T1.setTop (mkF m 99 _ [(.ref ar97)]))
      refine Goes.go (fun _ k => XS.astore X1.here hx rfl (hb hby at_99) rfl rfl (l' := #[.val (.int p0), .val (.int p1), .val (.long p2), .second, .val (.long p3), .second, .val (.long p4), .second, .val (.long p5), .second, .val (.int v6), .val (.long v15), .second, .val (.long v26), .second, .val (.long (-1 : Int64)), .second, .val (.long v53), .second, .val (.int v66), .val (.long (-1 : Int64)), .second, .val (.long v94), .second, .val (.ref ar97), .unset, .unset, .unset]) rfl k) ?_
      show Goes _ _ _ _ _ _ _ (T1.setTop (mkF m 101 #[.val (.int p0), .val (.int p1), .val (.long p2), .second, .val (.long p3), .second, .val (.long p4), .second, .val (.long p5), .second, .val (.int v6), .val (.long v15), .second, .val (.long v26), .second, .val (.long (-1 : Int64)), .second, .val (.long v53), .second, .val (.int v66), .val (.long (-1 : Int64)), .second, .val (.long v94), .second, .val (.ref ar97), .unset, .unset, .unset] []))
      refine Goes.go (fun _ k => XS.aload X1.here hx rfl (hb hby at_101) rfl rfl k) ?_
      show Goes _ _ _ _ _ _ _ (T1.setTop (mkF m 103 _ [(.ref ar97)]))
      refine Goes.go (fun _ k => XS.iconst X1.here hx rfl (hb hby at_103) k) ?_
      show Goes _ _ _ _ _ _ _ (T1.setTop (mkF m 104 _ [(.int (0 : Int32)), (.ref ar97)]))
      refine Goes.go (fun _ k => XS.lload X1.here hx rfl (hb hby at_104) rfl k) ?_
      show Goes _ _ _ _ _ _ _ (T1.setTop (mkF m 106 _ [(.long p3), (.int (0 : Int32)), (.ref ar97)]))
      obtain ⟨T2, h2, X2, e2, W2, A2, st2⟩ := own_stJ X1 hx hZ e1 f (j := (0 : Int32)) (x := p3) (by decide) (show (0 : Nat) < 3 by decide) (g := (mkF m 106 #[.val (.int p0), .val (.int p1), .val (.long p2), .second, .val (.long p3), .second, .val (.long p4), .second, .val (.long p5), .second, .val (.int v6), .val (.long v15), .second, .val (.long v26), .second, .val (.long (-1 : Int64)), .second, .val (.long v53), .second, .val (.int v66), .val (.long (-1 : Int64)), .second, .val (.long v94), .second, .val (.ref ar97), .unset, .unset, .unset] [(.long p3), (.int (0 : Int32)), (.ref ar97)])) rfl rfl (hb hby at_106)
      have N2 := Fr.snoc X2 N0 ge_ar97
      have Z2 : n0 ≤ h2.size := by rw [W2.size]; exact Z1
      have f_1 : Arl Z h2 ar97 .long [(.long p3), (.long (0 : Int64)), (.long (0 : Int64))] := A2
      refine Goes.go (st2) ?_
      show Goes _ _ _ _ _ _ _ (T2.setTop (mkF m 107 _ []))
      refine Goes.go (fun _ k => XS.aload X2.here hx rfl (hb hby at_107) rfl rfl k) ?_
      show Goes _ _ _ _ _ _ _ (T2.setTop (mkF m 109 _ [(.ref ar97)]))
      refine Goes.go (fun _ k => XS.iconst X2.here hx rfl (hb hby at_109) k) ?_
      show Goes _ _ _ _ _ _ _ (T2.setTop (mkF m 110 _ [(.int (1 : Int32)), (.ref ar97)]))
      refine Goes.go (fun _ k => XS.lload X2.here hx rfl (hb hby at_110) rfl k) ?_
      show Goes _ _ _ _ _ _ _ (T2.setTop (mkF m 112 _ [(.long p4), (.int (1 : Int32)), (.ref ar97)]))
      obtain ⟨T3, h3, X3, e3, W3, A3, st3⟩ := own_stJ X2 hx hZ e2 f_1 (j := (1 : Int32)) (x := p4) (by decide) (show (1 : Nat) < 3 by decide) (g := (mkF m 112 #[.val (.int p0), .val (.int p1), .val (.long p2), .second, .val (.long p3), .second, .val (.long p4), .second, .val (.long p5), .second, .val (.int v6), .val (.long v15), .second, .val (.long v26), .second, .val (.long (-1 : Int64)), .second, .val (.long v53), .second, .val (.int v66), .val (.long (-1 : Int64)), .second, .val (.long v94), .second, .val (.ref ar97), .unset, .unset, .unset] [(.long p4), (.int (1 : Int32)), (.ref ar97)])) rfl rfl (hb hby at_112)
      have N3 := Fr.snoc X3 N2 ge_ar97
      have Z3 : n0 ≤ h3.size := by rw [W3.size]; exact Z2
      have f_2 : Arl Z h3 ar97 .long [(.long p3), (.long p4), (.long (0 : Int64))] := A3
      refine Goes.go (st3) ?_
      show Goes _ _ _ _ _ _ _ (T3.setTop (mkF m 113 _ []))
      refine Goes.go (fun _ k => XS.aload X3.here hx rfl (hb hby at_113) rfl rfl k) ?_
      show Goes _ _ _ _ _ _ _ (T3.setTop (mkF m 115 _ [(.ref ar97)]))
      refine Goes.go (fun _ k => XS.iconst X3.here hx rfl (hb hby at_115) k) ?_
      show Goes _ _ _ _ _ _ _ (T3.setTop (mkF m 116 _ [(.int (2 : Int32)), (.ref ar97)]))
      refine Goes.go (fun _ k => XS.lload X3.here hx rfl (hb hby at_116) rfl k) ?_
      show Goes _ _ _ _ _ _ _ (T3.setTop (mkF m 118 _ [(.long v94), (.int (2 : Int32)), (.ref ar97)]))
      obtain ⟨T4, h4, X4, e4, W4, A4, st4⟩ := own_stJ X3 hx hZ e3 f_2 (j := (2 : Int32)) (x := v94) (by decide) (show (2 : Nat) < 3 by decide) (g := (mkF m 118 #[.val (.int p0), .val (.int p1), .val (.long p2), .second, .val (.long p3), .second, .val (.long p4), .second, .val (.long p5), .second, .val (.int v6), .val (.long v15), .second, .val (.long v26), .second, .val (.long (-1 : Int64)), .second, .val (.long v53), .second, .val (.int v66), .val (.long (-1 : Int64)), .second, .val (.long v94), .second, .val (.ref ar97), .unset, .unset, .unset] [(.long v94), (.int (2 : Int32)), (.ref ar97)])) rfl rfl (hb hby at_118)
      have N4 := Fr.snoc X4 N3 ge_ar97
      have Z4 : n0 ≤ h4.size := by rw [W4.size]; exact Z3
      have f_3 : Arl Z h4 ar97 .long [(.long p3), (.long p4), (.long v94)] := A4
      refine Goes.go (st4) ?_
      show Goes _ _ _ _ _ _ _ (T4.setTop (mkF m 119 _ []))
      obtain ⟨T5, h5, X5, e5, E5, A5, D5, -, st5⟩ := newO X4 hx hZ hown (hw _ (List.mem_of_getElem? (i := 5) rfl)) (hw _ (List.mem_of_getElem? (i := 6) rfl)) (hw _ (List.mem_of_getElem? (i := 7) rfl)) e4 (g := (mkF m 119 #[.val (.int p0), .val (.int p1), .val (.long p2), .second, .val (.long p3), .second, .val (.long p4), .second, .val (.long p5), .second, .val (.int v6), .val (.long v15), .second, .val (.long v26), .second, .val (.long (-1 : Int64)), .second, .val (.long v53), .second, .val (.int v66), .val (.long (-1 : Int64)), .second, .val (.long v94), .second, .val (.ref ar97), .unset, .unset, .unset] [])) rfl (hb hby at_119) (by decide) (by decide)
      obtain ⟨ob119, gob119⟩ : ∃ z, z = h4.size := ⟨_, rfl⟩
      rw [← gob119] at A5 D5 st5
      have ne_ar97_ob119 : ar97 ≠ ob119 := by rw [gob119]; exact Nat.ne_of_lt f_3.lt
      have f_4 := f_3.ext E5
      have Z5 : n0 ≤ h5.size := Nat.le_trans Z4 E5.1
      have ge_ob119 : n0 ≤ ob119 := Nat.le_trans Z4 (Nat.le_of_eq gob119.symm)
      have f_5 : Fld Z h5 ob119 "com/example/galdict/galdict/model/PackedArray" "length" "J" (.long (0 : Int64)) := D5 (Or.inr (hw _ (List.mem_of_getElem? (i := 15) rfl))) (ty := .long) (by decide)
      have f_6 : Fld Z h5 ob119 "com/example/galdict/galdict/model/PackedArray" "width" "I" (.int (0 : Int32)) := D5 (Or.inr (hw _ (List.mem_of_getElem? (i := 17) rfl))) (ty := .int) (by decide)
      have f_7 : Fld Z h5 ob119 "com/example/galdict/galdict/model/PackedArray" "mask" "J" (.long (0 : Int64)) := D5 (Or.inr (hw _ (List.mem_of_getElem? (i := 20) rfl))) (ty := .long) (by decide)
      have f_8 : Fld Z h5 ob119 "com/example/galdict/galdict/model/PackedArray" "words" "[J" .null := D5 (Or.inr (hw _ (List.mem_of_getElem? (i := 22) rfl))) (ty := (.array .long)) (by decide)
      refine Goes.go (st5) ?_
      show Goes _ _ _ _ _ _ _ (T5.setTop (mkF m 122 _ [(.ref ob119)]))
      refine Goes.go (fun _ k => XS.dup X5.here hx rfl (hb hby at_122) rfl rfl k) ?_
      show Goes _ _ _ _ _ _ _ (T5.setTop (mkF m 123 _ [(.ref ob119), (.ref ob119)]))
      refine Goes.go (fun _ k => XS.lload X5.here hx rfl (hb hby at_123) rfl k) ?_
      show Goes _ _ _ _ _ _ _ (T5.setTop (mkF m 125 _ [(.long v15), (.ref ob119), (.ref ob119)]))
      refine Goes.go (fun _ k => XS.iload X5.here hx rfl (hb hby at_125) rfl k) ?_
      show Goes _ _ _ _ _ _ _ (T5.setTop (mkF m 127 _ [(.int v6), (.long v15), (.ref ob119), (.ref ob119)]))
      refine Goes.go (fun _ k => XS.aload X5.here hx rfl (hb hby at_127) rfl rfl k) ?_
      show Goes _ _ _ _ _ _ _ (T5.setTop (mkF m 129 _ [(.ref ar97), (.int v6), (.long v15), (.ref ob119), (.ref ob119)]))
      obtain ⟨_, _, ⟨T6, L6, k6, n6⟩, -, X6, ⟨Lc6, hQ6, l6, y6, z6⟩, st6⟩ := X5.specialBack hx (y := (⟨"com/example/galdict/galdict/model/PackedArray", "<init>", "(JI[J)V"⟩ : MethodName)) rfl hown (mvT hZ (hw _ (List.mem_of_getElem? (i := 8) rfl))) (mvT hZ (hw _ (List.mem_of_getElem? (i := 9) rfl))) (mvT hZ (hw _ (List.mem_of_getElem? (i := 10) rfl))) (by decide) (backOf (W := 1) (rm1 l Z a0 hw [] ob119 v15 v6 ar97 h5 n0 Z5 A5 f_5 f_6 f_7 f_8 ge_ob119) hZ (hw _ (List.mem_of_getElem? (i := 10) rfl)) (hw _ (List.mem_of_getElem? (i := 7) rfl)) (by decide) (by decide)) (g := (mkF m 129 #[.val (.int p0), .val (.int p1), .val (.long p2), .second, .val (.long p3), .second, .val (.long p4), .second, .val (.long p5), .second, .val (.int v6), .val (.long v15), .second, .val (.long v26), .second, .val (.long (-1 : Int64)), .second, .val (.long v53), .second, .val (.int v66), .val (.long (-1 : Int64)), .second, .val (.long v94), .second, .val (.ref ar97), .unset, .unset, .unset] [(.ref ar97), (.int v6), (.long v15), (.ref ob119), (.ref ob119)])) rfl (by rw [hml]; rfl) (Steps.refl _) (a := ob119) (argsL := [(.long v15), (.int v6), (.ref ar97)]) (rest := [(.ref ob119)]) (lenOf pd0 rfl) rfl (by show 2 * 0 + _ ≤ _; exact Nat.le_of_eq rfl) (hb hby at_129) (fun _ _ => ⟨rfl, e5, (by decide : 2 + 0 ≤ _), (by decide : 7 + 0 ≤ _)⟩)
      dsimp only [Pt.U, Pt.locs, Pt.cells, Pt.slots] at X6 l6 y6 z6 st6 hQ6
      subst l6 y6 z6
      obtain ⟨rfl, Nq6, Kq6, Eq6, Fq6_0, Fq6_1, Fq6_2, Fq6_3⟩ := hQ6
      have N6 := Fr.app N4 Nq6
      have Z6 : n0 ≤ T6.heap.size := Nat.le_trans Z5 Kq6.1
      have f_9 := Arl.keep f_4 Kq6 (ninS ne_ar97_ob119 nin0)
      refine Goes.go (fun _ k => st6.trans k) ?_
      show Goes _ _ _ _ _ _ _ (T6.setTop (mkF m 132 _ [(.ref ob119)]))
      refine Goes.go (fun _ k => XS.astore X6.here hx rfl (hb hby at_132) rfl rfl (l' := #[.val (.int p0), .val (.int p1), .val (.long p2), .second, .val (.long p3), .second, .val (.long p4), .second, .val (.long p5), .second, .val (.int v6), .val (.long v15), .second, .val (.long v26), .second, .val (.long (-1 : Int64)), .second, .val (.long v53), .second, .val (.int v66), .val (.long (-1 : Int64)), .second, .val (.long v94), .second, .val (.ref ar97), .val (.ref ob119), .unset, .unset]) rfl k) ?_
      show Goes _ _ _ _ _ _ _ (T6.setTop (mkF m 134 #[.val (.int p0), .val (.int p1), .val (.long p2), .second, .val (.long p3), .second, .val (.long p4), .second, .val (.long p5), .second, .val (.int v6), .val (.long v15), .second, .val (.long v26), .second, .val (.long (-1 : Int64)), .second, .val (.long v53), .second, .val (.int v66), .val (.long (-1 : Int64)), .second, .val (.long v94), .second, .val (.ref ar97), .val (.ref ob119), .unset, .unset] []))
      refine Goes.go (fun _ k => XS.aload X6.here hx rfl (hb hby at_134) rfl rfl k) ?_
      show Goes _ _ _ _ _ _ _ (T6.setTop (mkF m 136 _ [(.ref ob119)]))
      refine Goes.go (fun _ k => XS.lload X6.here hx rfl (hb hby at_136) rfl k) ?_
      show Goes _ _ _ _ _ _ _ (T6.setTop (mkF m 138 _ [(.long v26), (.ref ob119)]))
      refine Goes.go (fun _ k => XS.lload X6.here hx rfl (hb hby at_138) rfl k) ?_
      show Goes _ _ _ _ _ _ _ (T6.setTop (mkF m 140 _ [(.long v53), (.long v26), (.ref ob119)]))
      obtain ⟨cq7, kq7, qa7, qb7, qc7⟩ := isOf hZ rfl Eq6
      obtain ⟨_, _, ⟨T7, L7, k7, n7⟩, -, X7, ⟨Lc7, hQ7, l7, y7, z7⟩, st7⟩ := X6.virtualBack hx (y := (⟨"com/example/galdict/galdict/model/PackedArray", "set", "(JJ)V"⟩ : MethodName)) (z := (⟨"com/example/galdict/galdict/model/PackedArray", "set", "(JJ)V"⟩ : MethodName)) hown (mvT hZ (hw _ (List.mem_of_getElem? (i := 23) rfl))) (mvT hZ (hw _ (List.mem_of_getElem? (i := 24) rfl))) (notFace_of_selects (args := #[]) (mvT hZ (hw _ (List.mem_of_getElem? (i := 26) rfl)))) (mvT hZ (hw _ (List.mem_of_getElem? (i := 26) rfl))) (mvT hZ (hw _ (List.mem_of_getElem? (i := 25) rfl))) (by decide) (backOf (W := 0) (rm2 l Z a0 hw [] ob119 v26 v53 v6 (((-1 : Int64)).toUInt64 >>> (((64 : Int32) - v6) &&& 0x3f).toInt64.toUInt64).toInt64 ar97 _ (wAt p3 p4 v94 (i * w' / 64)) (wAt p3 p4 v94 (i * w' / 64 + 1)) T6.heap n0 Z6 Fq6_1 Fq6_2 Fq6_3 f_9 ne_ar97_ob119.symm ge_ar97 (own_q1 hm (by omega)) (own_q2 (f := Value.long) hm (by omega)) (own_q3 (f := Value.long) hm hw1 hw2 hw3 hm2)) hZ (hw _ (List.mem_of_getElem? (i := 27) rfl)) (hw _ (List.mem_of_getElem? (i := 7) rfl)) (by decide) (by decide)) qa7 qc7 (g := (mkF m 140 #[.val (.int p0), .val (.int p1), .val (.long p2), .second, .val (.long p3), .second, .val (.long p4), .second, .val (.long p5), .second, .val (.int v6), .val (.long v15), .second, .val (.long v26), .second, .val (.long (-1 : Int64)), .second, .val (.long v53), .second, .val (.int v66), .val (.long (-1 : Int64)), .second, .val (.long v94), .second, .val (.ref ar97), .val (.ref ob119), .unset, .unset] [(.long v53), (.long v26), (.ref ob119)])) rfl (by rw [hml]; rfl) (Steps.refl _) (argsL := [(.long v26), (.long v53)]) (rest := []) (lenOf pd2 rfl) rfl (by show 2 * 0 + _ ≤ _; exact Nat.le_of_eq rfl) (hb hby at_140) (fun _ _ => ⟨rfl, rfl, (by decide : 2 + 0 ≤ _), (by decide : 7 + 0 ≤ _)⟩)
      dsimp only [Pt.U, Pt.locs, Pt.cells, Pt.slots] at X7 l7 y7 z7 st7 hQ7
      subst l7 y7 z7
      obtain ⟨rfl, Nq7, Kq7, Aq7⟩ := hQ7
      have N7 := Fr.app N6 Nq7
      have Z7 : n0 ≤ T7.heap.size := Nat.le_trans Z6 Kq7.1
      have f_10 := Exa.keep Eq6 Kq7
      have f_11 := Fld.keep Fq6_0 Kq7 (ninS ne_ar97_ob119.symm nin0)
      have f_12 := Fld.keep Fq6_1 Kq7 (ninS ne_ar97_ob119.symm nin0)
      have f_13 := Fld.keep Fq6_2 Kq7 (ninS ne_ar97_ob119.symm nin0)
      have f_14 := Fld.keep Fq6_3 Kq7 (ninS ne_ar97_ob119.symm nin0)
      refine Goes.go (fun _ k => st7.trans k) ?_
      show Goes _ _ _ _ _ _ _ (T7.setTop (mkF m 143 _ []))
      refine Goes.go (fun _ k => XS.lload X7.here hx rfl (hb hby at_143) rfl k) ?_
      show Goes _ _ _ _ _ _ _ (T7.setTop (mkF m 145 _ [(.long v26)]))
      refine Goes.go (fun _ k => XS.iload X7.here hx rfl (hb hby at_145) rfl k) ?_
      show Goes _ _ _ _ _ _ _ (T7.setTop (mkF m 147 _ [(.int v6), (.long v26)]))
      refine Goes.go (fun _ k => XS.i2l X7.here hx rfl (hb hby at_147) rfl k) ?_
      show Goes _ _ _ _ _ _ _ (T7.setTop (mkF m 148 _ [(.long (v6).toInt64), (.long v26)]))
      refine Goes.go (fun _ k => XS.lmul X7.here hx rfl (hb hby at_148) rfl k) ?_
      show Goes _ _ _ _ _ _ _ (T7.setTop (mkF m 149 _ [(.long (v26 * (v6).toInt64))]))
      generalize hv149 : (v26 * (v6).toInt64) = v149
      refine Goes.go (fun _ k => XS.lstore X7.here hx rfl (hb hby at_149) rfl (l' := #[.val (.int p0), .val (.int p1), .val (.long p2), .second, .val (.long p3), .second, .val (.long p4), .second, .val (.long p5), .second, .val (.int v6), .val (.long v15), .second, .val (.long v26), .second, .val (.long (-1 : Int64)), .second, .val (.long v53), .second, .val (.int v66), .val (.long (-1 : Int64)), .second, .val (.long v94), .second, .val (.ref ar97), .val (.ref ob119), .val (.long v149), .second]) rfl k) ?_
      show Goes _ _ _ _ _ _ _ (T7.setTop (mkF m 151 #[.val (.int p0), .val (.int p1), .val (.long p2), .second, .val (.long p3), .second, .val (.long p4), .second, .val (.long p5), .second, .val (.int v6), .val (.long v15), .second, .val (.long v26), .second, .val (.long (-1 : Int64)), .second, .val (.long v53), .second, .val (.int v66), .val (.long (-1 : Int64)), .second, .val (.long v94), .second, .val (.ref ar97), .val (.ref ob119), .val (.long v149), .second] []))
      refine Goes.go (fun _ k => XS.aload X7.here hx rfl (hb hby at_151) rfl rfl k) ?_
      show Goes _ _ _ _ _ _ _ (T7.setTop (mkF m 153 _ [(.ref ar97)]))
      refine Goes.go (fun _ k => XS.iconst X7.here hx rfl (hb hby at_153) k) ?_
      show Goes _ _ _ _ _ _ _ (T7.setTop (mkF m 154 _ [(.int (0 : Int32)), (.ref ar97)]))
      refine Goes.go (own_ldJ X7 hx hZ rfl Aq7 (j := (0 : Int32)) (v := (.long (nwF p3 p4 v94 v26 v53 v6 (((-1 : Int64)).toUInt64 >>> (((64 : Int32) - v6) &&& 0x3f).toInt64.toUInt64).toInt64 (i * w') 0))) (by decide) (sv_at (f := Value.long) (j := 0) hm hw1 hw2 hw3 hm2 (by decide)) rfl rfl (hb hby at_154)) ?_
      show Goes _ _ _ _ _ _ _ (T7.setTop (mkF m 155 _ [(.long (nwF p3 p4 v94 v26 v53 v6 (((-1 : Int64)).toUInt64 >>> (((64 : Int32) - v6) &&& 0x3f).toInt64.toUInt64).toInt64 (i * w') 0))]))
      refine Goes.go (fun _ k => XS.lload X7.here hx rfl (hb hby at_155) rfl k) ?_
      show Goes _ _ _ _ _ _ _ (T7.setTop (mkF m 157 _ [(.long p3), (.long (nwF p3 p4 v94 v26 v53 v6 (((-1 : Int64)).toUInt64 >>> (((64 : Int32) - v6) &&& 0x3f).toInt64.toUInt64).toInt64 (i * w') 0))]))
      refine Goes.go (fun _ k => XS.iconst X7.here hx rfl (hb hby at_157) k) ?_
      show Goes _ _ _ _ _ _ _ (T7.setTop (mkF m 158 _ [(.int (0 : Int32)), (.long p3), (.long (nwF p3 p4 v94 v26 v53 v6 (((-1 : Int64)).toUInt64 >>> (((64 : Int32) - v6) &&& 0x3f).toInt64.toUInt64).toInt64 (i * w') 0))]))
      refine Goes.go (fun _ k => XS.lload X7.here hx rfl (hb hby at_158) rfl k) ?_
      show Goes _ _ _ _ _ _ _ (T7.setTop (mkF m 160 _ [(.long v149), (.int (0 : Int32)), (.long p3), (.long (nwF p3 p4 v94 v26 v53 v6 (((-1 : Int64)).toUInt64 >>> (((64 : Int32) - v6) &&& 0x3f).toInt64.toUInt64).toInt64 (i * w') 0))]))
      refine Goes.go (fun _ k => XS.iload X7.here hx rfl (hb hby at_160) rfl k) ?_
      show Goes _ _ _ _ _ _ _ (T7.setTop (mkF m 162 _ [(.int v6), (.long v149), (.int (0 : Int32)), (.long p3), (.long (nwF p3 p4 v94 v26 v53 v6 (((-1 : Int64)).toUInt64 >>> (((64 : Int32) - v6) &&& 0x3f).toInt64.toUInt64).toInt64 (i * w') 0))]))
      refine Goes.go (fun _ k => XS.lload X7.here hx rfl (hb hby at_162) rfl k) ?_
      show Goes _ _ _ _ _ _ _ (T7.setTop (mkF m 164 _ [(.long v53), (.int v6), (.long v149), (.int (0 : Int32)), (.long p3), (.long (nwF p3 p4 v94 v26 v53 v6 (((-1 : Int64)).toUInt64 >>> (((64 : Int32) - v6) &&& 0x3f).toInt64.toUInt64).toInt64 (i * w') 0))]))
      obtain ⟨_, _, ⟨T8, L8, k8, n8⟩, -, X8, ⟨Lc8, hQ8, l8, y8, z8⟩, st8⟩ := Jvm.LawKit.callS X7 hx (y := (⟨"com/example/galdict/galdict/model/PackedArraySetPinLaw", "expect", "(JIJIJ)J"⟩ : MethodName)) hown (mvT hZ (hw _ (List.mem_of_getElem? (i := 28) rfl))) (mvT hZ (hw _ (List.mem_of_getElem? (i := 29) rfl))) (mvT hZ (hw _ (List.mem_of_getElem? (i := 30) rfl))) (mvT hZ (hw _ (List.mem_of_getElem? (i := 31) rfl))) (by decide) (backOf (W := 2) (rm3 l Z a0 hw [] p3 (0 : Int32) v149 v6 v53 T7.heap n0 Z7) hZ (hw _ (List.mem_of_getElem? (i := 31) rfl)) (hw _ (List.mem_of_getElem? (i := 30) rfl)) (by decide) (by decide)) (g := (mkF m 164 #[.val (.int p0), .val (.int p1), .val (.long p2), .second, .val (.long p3), .second, .val (.long p4), .second, .val (.long p5), .second, .val (.int v6), .val (.long v15), .second, .val (.long v26), .second, .val (.long (-1 : Int64)), .second, .val (.long v53), .second, .val (.int v66), .val (.long (-1 : Int64)), .second, .val (.long v94), .second, .val (.ref ar97), .val (.ref ob119), .val (.long v149), .second] [(.long v53), (.int v6), (.long v149), (.int (0 : Int32)), (.long p3), (.long (nwF p3 p4 v94 v26 v53 v6 (((-1 : Int64)).toUInt64 >>> (((64 : Int32) - v6) &&& 0x3f).toInt64.toUInt64).toInt64 (i * w') 0))])) rfl (by rw [hml]; rfl) (argsL := [(.long p3), (.int (0 : Int32)), (.long v149), (.int v6), (.long v53)]) (rest := [(.long (nwF p3 p4 v94 v26 v53 v6 (((-1 : Int64)).toUInt64 >>> (((64 : Int32) - v6) &&& 0x3f).toInt64.toUInt64).toInt64 (i * w') 0))]) (lenOf pd3 rfl) rfl (by show 2 * 0 + _ ≤ _; exact Nat.le_of_eq rfl) (hb hby at_164) (fun _ _ => ⟨rfl, rfl, (by decide : 2 + 0 ≤ _), (by decide : 7 + 0 ≤ _)⟩)
      dsimp only [Pt.U, Pt.locs, Pt.cells, Pt.slots] at X8 l8 y8 z8 st8 hQ8
      subst l8 y8 z8
      obtain ⟨rfl, Nq8, hh8⟩ := hQ8
      have N8 := Fr.app N7 Nq8
      refine Goes.go (st8) ?_
      show Goes _ _ _ _ _ _ _ (T8.setTop (mkF m 167 _ [(.long (exF p3 (0 : Int32) v149 v6 v53)), (.long (nwF p3 p4 v94 v26 v53 v6 (((-1 : Int64)).toUInt64 >>> (((64 : Int32) - v6) &&& 0x3f).toInt64.toUInt64).toInt64 (i * w') 0))]))
      refine Goes.go (fun _ k => XT.lcmp X8.here hx rfl (hb hby at_167) rfl k) ?_
      show Goes _ _ _ _ _ _ _ (T8.setTop (mkF m 168 _ [(.int (XT.cmpL (nwF p3 p4 v94 v26 v53 v6 (((-1 : Int64)).toUInt64 >>> (((64 : Int32) - v6) &&& 0x3f).toInt64.toUInt64).toInt64 (i * w') 0) (exF p3 (0 : Int32) v149 v6 v53)))]))
      refine Goes.go (fun _ k => XS.ifNo X8.here hx rfl (hb hby at_168) rfl (XT.ll_ne_f (own_eq 0 rfl (by decide) (by decide) hm hv149 hw1 hw2 hw3 hm2 hvb)) k) ?_
      show Goes _ _ _ _ _ _ _ (T8.setTop (mkF m 171 _ []))
      refine Goes.go (fun _ k => XS.aload X8.here hx rfl (hb hby at_171) rfl rfl k) ?_
      show Goes _ _ _ _ _ _ _ (T8.setTop (mkF m 173 _ [(.ref ar97)]))
      refine Goes.go (fun _ k => XS.iconst X8.here hx rfl (hb hby at_173) k) ?_
      show Goes _ _ _ _ _ _ _ (T8.setTop (mkF m 174 _ [(.int (1 : Int32)), (.ref ar97)]))
      refine Goes.go (own_ldJ X8 hx hZ hh8 Aq7 (j := (1 : Int32)) (v := (.long (nwF p3 p4 v94 v26 v53 v6 (((-1 : Int64)).toUInt64 >>> (((64 : Int32) - v6) &&& 0x3f).toInt64.toUInt64).toInt64 (i * w') 1))) (by decide) (sv_at (f := Value.long) (j := 1) hm hw1 hw2 hw3 hm2 (by decide)) rfl rfl (hb hby at_174)) ?_
      show Goes _ _ _ _ _ _ _ (T8.setTop (mkF m 175 _ [(.long (nwF p3 p4 v94 v26 v53 v6 (((-1 : Int64)).toUInt64 >>> (((64 : Int32) - v6) &&& 0x3f).toInt64.toUInt64).toInt64 (i * w') 1))]))
      refine Goes.go (fun _ k => XS.lload X8.here hx rfl (hb hby at_175) rfl k) ?_
      show Goes _ _ _ _ _ _ _ (T8.setTop (mkF m 177 _ [(.long p4), (.long (nwF p3 p4 v94 v26 v53 v6 (((-1 : Int64)).toUInt64 >>> (((64 : Int32) - v6) &&& 0x3f).toInt64.toUInt64).toInt64 (i * w') 1))]))
      refine Goes.go (fun _ k => XS.iconst X8.here hx rfl (hb hby at_177) k) ?_
      show Goes _ _ _ _ _ _ _ (T8.setTop (mkF m 178 _ [(.int (1 : Int32)), (.long p4), (.long (nwF p3 p4 v94 v26 v53 v6 (((-1 : Int64)).toUInt64 >>> (((64 : Int32) - v6) &&& 0x3f).toInt64.toUInt64).toInt64 (i * w') 1))]))
      refine Goes.go (fun _ k => XS.lload X8.here hx rfl (hb hby at_178) rfl k) ?_
      show Goes _ _ _ _ _ _ _ (T8.setTop (mkF m 180 _ [(.long v149), (.int (1 : Int32)), (.long p4), (.long (nwF p3 p4 v94 v26 v53 v6 (((-1 : Int64)).toUInt64 >>> (((64 : Int32) - v6) &&& 0x3f).toInt64.toUInt64).toInt64 (i * w') 1))]))
      refine Goes.go (fun _ k => XS.iload X8.here hx rfl (hb hby at_180) rfl k) ?_
      show Goes _ _ _ _ _ _ _ (T8.setTop (mkF m 182 _ [(.int v6), (.long v149), (.int (1 : Int32)), (.long p4), (.long (nwF p3 p4 v94 v26 v53 v6 (((-1 : Int64)).toUInt64 >>> (((64 : Int32) - v6) &&& 0x3f).toInt64.toUInt64).toInt64 (i * w') 1))]))
      refine Goes.go (fun _ k => XS.lload X8.here hx rfl (hb hby at_182) rfl k) ?_
      show Goes _ _ _ _ _ _ _ (T8.setTop (mkF m 184 _ [(.long v53), (.int v6), (.long v149), (.int (1 : Int32)), (.long p4), (.long (nwF p3 p4 v94 v26 v53 v6 (((-1 : Int64)).toUInt64 >>> (((64 : Int32) - v6) &&& 0x3f).toInt64.toUInt64).toInt64 (i * w') 1))]))
      obtain ⟨_, _, ⟨T9, L9, k9, n9⟩, -, X9, ⟨Lc9, hQ9, l9, y9, z9⟩, st9⟩ := Jvm.LawKit.callS X8 hx (y := (⟨"com/example/galdict/galdict/model/PackedArraySetPinLaw", "expect", "(JIJIJ)J"⟩ : MethodName)) hown (mvT hZ (hw _ (List.mem_of_getElem? (i := 28) rfl))) (mvT hZ (hw _ (List.mem_of_getElem? (i := 29) rfl))) (mvT hZ (hw _ (List.mem_of_getElem? (i := 30) rfl))) (mvT hZ (hw _ (List.mem_of_getElem? (i := 31) rfl))) (by decide) (backOf (W := 2) (rm3 l Z a0 hw [] p4 (1 : Int32) v149 v6 v53 T7.heap n0 Z7) hZ (hw _ (List.mem_of_getElem? (i := 31) rfl)) (hw _ (List.mem_of_getElem? (i := 30) rfl)) (by decide) (by decide)) (g := (mkF m 184 #[.val (.int p0), .val (.int p1), .val (.long p2), .second, .val (.long p3), .second, .val (.long p4), .second, .val (.long p5), .second, .val (.int v6), .val (.long v15), .second, .val (.long v26), .second, .val (.long (-1 : Int64)), .second, .val (.long v53), .second, .val (.int v66), .val (.long (-1 : Int64)), .second, .val (.long v94), .second, .val (.ref ar97), .val (.ref ob119), .val (.long v149), .second] [(.long v53), (.int v6), (.long v149), (.int (1 : Int32)), (.long p4), (.long (nwF p3 p4 v94 v26 v53 v6 (((-1 : Int64)).toUInt64 >>> (((64 : Int32) - v6) &&& 0x3f).toInt64.toUInt64).toInt64 (i * w') 1))])) rfl (by rw [hml]; rfl) (argsL := [(.long p4), (.int (1 : Int32)), (.long v149), (.int v6), (.long v53)]) (rest := [(.long (nwF p3 p4 v94 v26 v53 v6 (((-1 : Int64)).toUInt64 >>> (((64 : Int32) - v6) &&& 0x3f).toInt64.toUInt64).toInt64 (i * w') 1))]) (lenOf pd3 rfl) rfl (by show 2 * 0 + _ ≤ _; exact Nat.le_of_eq rfl) (hb hby at_184) (fun _ _ => ⟨rfl, hh8, (by decide : 2 + 0 ≤ _), (by decide : 7 + 0 ≤ _)⟩)
      dsimp only [Pt.U, Pt.locs, Pt.cells, Pt.slots] at X9 l9 y9 z9 st9 hQ9
      subst l9 y9 z9
      obtain ⟨rfl, Nq9, hh9⟩ := hQ9
      have N9 := Fr.app N8 Nq9
      refine Goes.go (st9) ?_
      show Goes _ _ _ _ _ _ _ (T9.setTop (mkF m 187 _ [(.long (exF p4 (1 : Int32) v149 v6 v53)), (.long (nwF p3 p4 v94 v26 v53 v6 (((-1 : Int64)).toUInt64 >>> (((64 : Int32) - v6) &&& 0x3f).toInt64.toUInt64).toInt64 (i * w') 1))]))
      refine Goes.go (fun _ k => XT.lcmp X9.here hx rfl (hb hby at_187) rfl k) ?_
      show Goes _ _ _ _ _ _ _ (T9.setTop (mkF m 188 _ [(.int (XT.cmpL (nwF p3 p4 v94 v26 v53 v6 (((-1 : Int64)).toUInt64 >>> (((64 : Int32) - v6) &&& 0x3f).toInt64.toUInt64).toInt64 (i * w') 1) (exF p4 (1 : Int32) v149 v6 v53)))]))
      refine Goes.go (fun _ k => XS.ifNo X9.here hx rfl (hb hby at_188) rfl (XT.ll_ne_f (own_eq 1 rfl (by decide) (by decide) hm hv149 hw1 hw2 hw3 hm2 hvb)) k) ?_
      show Goes _ _ _ _ _ _ _ (T9.setTop (mkF m 191 _ []))
      refine Goes.go (fun _ k => XS.aload X9.here hx rfl (hb hby at_191) rfl rfl k) ?_
      show Goes _ _ _ _ _ _ _ (T9.setTop (mkF m 193 _ [(.ref ar97)]))
      refine Goes.go (fun _ k => XS.iconst X9.here hx rfl (hb hby at_193) k) ?_
      show Goes _ _ _ _ _ _ _ (T9.setTop (mkF m 194 _ [(.int (2 : Int32)), (.ref ar97)]))
      refine Goes.go (own_ldJ X9 hx hZ hh9 Aq7 (j := (2 : Int32)) (v := (.long (nwF p3 p4 v94 v26 v53 v6 (((-1 : Int64)).toUInt64 >>> (((64 : Int32) - v6) &&& 0x3f).toInt64.toUInt64).toInt64 (i * w') 2))) (by decide) (sv_at (f := Value.long) (j := 2) hm hw1 hw2 hw3 hm2 (by decide)) rfl rfl (hb hby at_194)) ?_
      show Goes _ _ _ _ _ _ _ (T9.setTop (mkF m 195 _ [(.long (nwF p3 p4 v94 v26 v53 v6 (((-1 : Int64)).toUInt64 >>> (((64 : Int32) - v6) &&& 0x3f).toInt64.toUInt64).toInt64 (i * w') 2))]))
      refine Goes.go (fun _ k => XS.lload X9.here hx rfl (hb hby at_195) rfl k) ?_
      show Goes _ _ _ _ _ _ _ (T9.setTop (mkF m 197 _ [(.long v94), (.long (nwF p3 p4 v94 v26 v53 v6 (((-1 : Int64)).toUInt64 >>> (((64 : Int32) - v6) &&& 0x3f).toInt64.toUInt64).toInt64 (i * w') 2))]))
      refine Goes.go (fun _ k => XS.iconst X9.here hx rfl (hb hby at_197) k) ?_
      show Goes _ _ _ _ _ _ _ (T9.setTop (mkF m 198 _ [(.int (2 : Int32)), (.long v94), (.long (nwF p3 p4 v94 v26 v53 v6 (((-1 : Int64)).toUInt64 >>> (((64 : Int32) - v6) &&& 0x3f).toInt64.toUInt64).toInt64 (i * w') 2))]))
      refine Goes.go (fun _ k => XS.lload X9.here hx rfl (hb hby at_198) rfl k) ?_
      show Goes _ _ _ _ _ _ _ (T9.setTop (mkF m 200 _ [(.long v149), (.int (2 : Int32)), (.long v94), (.long (nwF p3 p4 v94 v26 v53 v6 (((-1 : Int64)).toUInt64 >>> (((64 : Int32) - v6) &&& 0x3f).toInt64.toUInt64).toInt64 (i * w') 2))]))
      refine Goes.go (fun _ k => XS.iload X9.here hx rfl (hb hby at_200) rfl k) ?_
      show Goes _ _ _ _ _ _ _ (T9.setTop (mkF m 202 _ [(.int v6), (.long v149), (.int (2 : Int32)), (.long v94), (.long (nwF p3 p4 v94 v26 v53 v6 (((-1 : Int64)).toUInt64 >>> (((64 : Int32) - v6) &&& 0x3f).toInt64.toUInt64).toInt64 (i * w') 2))]))
      refine Goes.go (fun _ k => XS.lload X9.here hx rfl (hb hby at_202) rfl k) ?_
      show Goes _ _ _ _ _ _ _ (T9.setTop (mkF m 204 _ [(.long v53), (.int v6), (.long v149), (.int (2 : Int32)), (.long v94), (.long (nwF p3 p4 v94 v26 v53 v6 (((-1 : Int64)).toUInt64 >>> (((64 : Int32) - v6) &&& 0x3f).toInt64.toUInt64).toInt64 (i * w') 2))]))
      obtain ⟨_, _, ⟨T10, L10, k10, n10⟩, -, X10, ⟨Lc10, hQ10, l10, y10, z10⟩, st10⟩ := Jvm.LawKit.callS X9 hx (y := (⟨"com/example/galdict/galdict/model/PackedArraySetPinLaw", "expect", "(JIJIJ)J"⟩ : MethodName)) hown (mvT hZ (hw _ (List.mem_of_getElem? (i := 28) rfl))) (mvT hZ (hw _ (List.mem_of_getElem? (i := 29) rfl))) (mvT hZ (hw _ (List.mem_of_getElem? (i := 30) rfl))) (mvT hZ (hw _ (List.mem_of_getElem? (i := 31) rfl))) (by decide) (backOf (W := 2) (rm3 l Z a0 hw [] v94 (2 : Int32) v149 v6 v53 T7.heap n0 Z7) hZ (hw _ (List.mem_of_getElem? (i := 31) rfl)) (hw _ (List.mem_of_getElem? (i := 30) rfl)) (by decide) (by decide)) (g := (mkF m 204 #[.val (.int p0), .val (.int p1), .val (.long p2), .second, .val (.long p3), .second, .val (.long p4), .second, .val (.long p5), .second, .val (.int v6), .val (.long v15), .second, .val (.long v26), .second, .val (.long (-1 : Int64)), .second, .val (.long v53), .second, .val (.int v66), .val (.long (-1 : Int64)), .second, .val (.long v94), .second, .val (.ref ar97), .val (.ref ob119), .val (.long v149), .second] [(.long v53), (.int v6), (.long v149), (.int (2 : Int32)), (.long v94), (.long (nwF p3 p4 v94 v26 v53 v6 (((-1 : Int64)).toUInt64 >>> (((64 : Int32) - v6) &&& 0x3f).toInt64.toUInt64).toInt64 (i * w') 2))])) rfl (by rw [hml]; rfl) (argsL := [(.long v94), (.int (2 : Int32)), (.long v149), (.int v6), (.long v53)]) (rest := [(.long (nwF p3 p4 v94 v26 v53 v6 (((-1 : Int64)).toUInt64 >>> (((64 : Int32) - v6) &&& 0x3f).toInt64.toUInt64).toInt64 (i * w') 2))]) (lenOf pd3 rfl) rfl (by show 2 * 0 + _ ≤ _; exact Nat.le_of_eq rfl) (hb hby at_204) (fun _ _ => ⟨rfl, hh9, (by decide : 2 + 0 ≤ _), (by decide : 7 + 0 ≤ _)⟩)
      dsimp only [Pt.U, Pt.locs, Pt.cells, Pt.slots] at X10 l10 y10 z10 st10 hQ10
      subst l10 y10 z10
      obtain ⟨rfl, Nq10, hh10⟩ := hQ10
      have N10 := Fr.app N9 Nq10
      refine Goes.go (st10) ?_
      show Goes _ _ _ _ _ _ _ (T10.setTop (mkF m 207 _ [(.long (exF v94 (2 : Int32) v149 v6 v53)), (.long (nwF p3 p4 v94 v26 v53 v6 (((-1 : Int64)).toUInt64 >>> (((64 : Int32) - v6) &&& 0x3f).toInt64.toUInt64).toInt64 (i * w') 2))]))
      refine Goes.go (fun _ k => XT.lcmp X10.here hx rfl (hb hby at_207) rfl k) ?_
      show Goes _ _ _ _ _ _ _ (T10.setTop (mkF m 208 _ [(.int (XT.cmpL (nwF p3 p4 v94 v26 v53 v6 (((-1 : Int64)).toUInt64 >>> (((64 : Int32) - v6) &&& 0x3f).toInt64.toUInt64).toInt64 (i * w') 2) (exF v94 (2 : Int32) v149 v6 v53)))]))
      refine Goes.go (fun _ k => XS.ifNo X10.here hx rfl (hb hby at_208) rfl (XT.ll_ne_f (own_eq 2 rfl (by decide) (by decide) hm hv149 hw1 hw2 hw3 hm2 hvb)) k) ?_
      show Goes _ _ _ _ _ _ _ (T10.setTop (mkF m 211 _ []))
      refine Goes.go (fun _ k => XS.iconst X10.here hx rfl (hb hby at_211) k) ?_
      show Goes _ _ _ _ _ _ _ (T10.setTop (mkF m 212 _ [(.int (1 : Int32))]))
      refine Goes.go (fun _ k => XS.goto X10.here hx rfl (pc0 := 212) (pc' := 216) rfl (hb hby at_212) (by decide) (by decide) k) ?_
      show Goes _ _ _ _ _ _ _ (T10.setTop (mkF m 216 _ [(.int (1 : Int32))]))
      exact Goes.outZ X10 hx hlk hret rfl (hb hby at_216) hh10 ⟨rfl, N10⟩ (by decide) (by decide)
    · skip
      refine Goes.go (fun _ k => XS.icmpYes X0.here hx rfl (pc0 := 72) (pc' := 81) rfl (hb hby at_72) rfl (XT.ii_ne_t c72) (by decide) (by decide) k) ?_
      show Goes _ _ _ _ _ _ _ (s₁.setTop (mkF m 81 _ []))
      refine Goes.go (fun _ k => XS.lconst X0.here hx rfl (hb hby at_81) k) ?_
      show Goes _ _ _ _ _ _ _ (s₁.setTop (mkF m 82 _ [(.long (1 : Int64))]))
      refine Goes.go (fun _ k => XS.iload X0.here hx rfl (hb hby at_82) rfl k) ?_
      show Goes _ _ _ _ _ _ _ (s₁.setTop (mkF m 84 _ [(.int v66), (.long (1 : Int64))]))
      refine Goes.go (fun _ k => XS.lshl X0.here hx rfl (hb hby at_84) rfl k) ?_
      show Goes _ _ _ _ _ _ _ (s₁.setTop (mkF m 85 _ [(.long ((1 : Int64) <<< (v66 &&& 0x3f).toInt64))]))
      refine Goes.go (fun _ k => XS.lconst X0.here hx rfl (hb hby at_85) k) ?_
      show Goes _ _ _ _ _ _ _ (s₁.setTop (mkF m 86 _ [(.long (1 : Int64)), (.long ((1 : Int64) <<< (v66 &&& 0x3f).toInt64))]))
      refine Goes.go (fun _ k => XS.lsub X0.here hx rfl (hb hby at_86) rfl k) ?_
      show Goes _ _ _ _ _ _ _ (s₁.setTop (mkF m 87 _ [(.long (((1 : Int64) <<< (v66 &&& 0x3f).toInt64) - (1 : Int64)))]))
      generalize hv87 : (((1 : Int64) <<< (v66 &&& 0x3f).toInt64) - (1 : Int64)) = v87
      refine Goes.go (fun _ k => XS.lstore X0.here hx rfl (hb hby at_87) rfl (l' := #[.val (.int p0), .val (.int p1), .val (.long p2), .second, .val (.long p3), .second, .val (.long p4), .second, .val (.long p5), .second, .val (.int v6), .val (.long v15), .second, .val (.long v26), .second, .val (.long (-1 : Int64)), .second, .val (.long v53), .second, .val (.int v66), .val (.long v87), .second, .unset, .unset, .unset, .unset, .unset, .unset]) rfl k) ?_
      show Goes _ _ _ _ _ _ _ (s₁.setTop (mkF m 89 #[.val (.int p0), .val (.int p1), .val (.long p2), .second, .val (.long p3), .second, .val (.long p4), .second, .val (.long p5), .second, .val (.int v6), .val (.long v15), .second, .val (.long v26), .second, .val (.long (-1 : Int64)), .second, .val (.long v53), .second, .val (.int v66), .val (.long v87), .second, .unset, .unset, .unset, .unset, .unset, .unset] []))
      refine Goes.go (fun _ k => XS.lload X0.here hx rfl (hb hby at_89) rfl k) ?_
      show Goes _ _ _ _ _ _ _ (s₁.setTop (mkF m 91 _ [(.long p5)]))
      refine Goes.go (fun _ k => XS.lload X0.here hx rfl (hb hby at_91) rfl k) ?_
      show Goes _ _ _ _ _ _ _ (s₁.setTop (mkF m 93 _ [(.long v87), (.long p5)]))
      refine Goes.go (fun _ k => XS.land X0.here hx rfl (hb hby at_93) rfl k) ?_
      show Goes _ _ _ _ _ _ _ (s₁.setTop (mkF m 94 _ [(.long (p5 &&& v87))]))
      generalize hv94 : (p5 &&& v87) = v94
      refine Goes.go (fun _ k => XS.lstore X0.here hx rfl (hb hby at_94) rfl (l' := #[.val (.int p0), .val (.int p1), .val (.long p2), .second, .val (.long p3), .second, .val (.long p4), .second, .val (.long p5), .second, .val (.int v6), .val (.long v15), .second, .val (.long v26), .second, .val (.long (-1 : Int64)), .second, .val (.long v53), .second, .val (.int v66), .val (.long v87), .second, .val (.long v94), .second, .unset, .unset, .unset, .unset]) rfl k) ?_
      show Goes _ _ _ _ _ _ _ (s₁.setTop (mkF m 96 #[.val (.int p0), .val (.int p1), .val (.long p2), .second, .val (.long p3), .second, .val (.long p4), .second, .val (.long p5), .second, .val (.int v6), .val (.long v15), .second, .val (.long v26), .second, .val (.long (-1 : Int64)), .second, .val (.long v53), .second, .val (.int v66), .val (.long v87), .second, .val (.long v94), .second, .unset, .unset, .unset, .unset] []))
      refine Goes.go (fun _ k => XS.iconst X0.here hx rfl (hb hby at_96) k) ?_
      show Goes _ _ _ _ _ _ _ (s₁.setTop (mkF m 97 _ [(.int (3 : Int32))]))
      obtain ⟨T1, h1, X1, e1, E1, A1, st1⟩ := own_newP X0 hx hZ (aty := .long) (hw _ (List.mem_of_getElem? (i := 4) rfl)) e0 (g := (mkF m 97 #[.val (.int p0), .val (.int p1), .val (.long p2), .second, .val (.long p3), .second, .val (.long p4), .second, .val (.long p5), .second, .val (.int v6), .val (.long v15), .second, .val (.long v26), .second, .val (.long (-1 : Int64)), .second, .val (.long v53), .second, .val (.int v66), .val (.long v87), .second, .val (.long v94), .second, .unset, .unset, .unset, .unset] [(.int (3 : Int32))])) rfl (hb hby at_97) rfl (n := (3 : Int32)) (by decide) (cap := 3) (by decide) (by decide) (by decide) (by decide)
      obtain ⟨ar97, gar97⟩ : ∃ z, z = h0.size := ⟨_, rfl⟩
      rw [← gar97] at A1 st1
      have Z1 : n0 ≤ h1.size := Nat.le_trans Z0 E1.1
      have ge_ar97 : n0 ≤ ar97 := Nat.le_trans Z0 (Nat.le_of_eq gar97.symm)
      have f : Arl Z h1 ar97 .long [(.long (0 : Int64)), (.long (0 : Int64)), (.long (0 : Int64))] := A1
      refine Goes.go (st1) ?_
      show Goes _ _ _ _ _ _ _ (T1.setTop (mkF m 99 _ [(.ref ar97)]))
      refine Goes.go (fun _ k => XS.astore X1.here hx rfl (hb hby at_99) rfl rfl (l' := #[.val (.int p0), .val (.int p1), .val (.long p2), .second, .val (.long p3), .second, .val (.long p4), .second, .val (.long p5), .second, .val (.int v6), .val (.long v15), .second, .val (.long v26), .second, .val (.long (-1 : Int64)), .second, .val (.long v53), .second, .val (.int v66), .val (.long v87), .second, .val (.long v94), .second, .val (.ref ar97), .unset, .unset, .unset]) rfl k) ?_
      show Goes _ _ _ _ _ _ _ (T1.setTop (mkF m 101 #[.val (.int p0), .val (.int p1), .val (.long p2), .second, .val (.long p3), .second, .val (.long p4), .second, .val (.long p5), .second, .val (.int v6), .val (.long v15), .second, .val (.long v26), .second, .val (.long (-1 : Int64)), .second, .val (.long v53), .second, .val (.int v66), .val (.long v87), .second, .val (.long v94), .second, .val (.ref ar97), .unset, .unset, .unset] []))
      refine Goes.go (fun _ k => XS.aload X1.here hx rfl (hb hby at_101) rfl rfl k) ?_
      show Goes _ _ _ _ _ _ _ (T1.setTop (mkF m 103 _ [(.ref ar97)]))
      refine Goes.go (fun _ k => XS.iconst X1.here hx rfl (hb hby at_103) k) ?_
      show Goes _ _ _ _ _ _ _ (T1.setTop (mkF m 104 _ [(.int (0 : Int32)), (.ref ar97)]))
      refine Goes.go (fun _ k => XS.lload X1.here hx rfl (hb hby at_104) rfl k) ?_
      show Goes _ _ _ _ _ _ _ (T1.setTop (mkF m 106 _ [(.long p3), (.int (0 : Int32)), (.ref ar97)]))
      obtain ⟨T2, h2, X2, e2, W2, A2, st2⟩ := own_stJ X1 hx hZ e1 f (j := (0 : Int32)) (x := p3) (by decide) (show (0 : Nat) < 3 by decide) (g := (mkF m 106 #[.val (.int p0), .val (.int p1), .val (.long p2), .second, .val (.long p3), .second, .val (.long p4), .second, .val (.long p5), .second, .val (.int v6), .val (.long v15), .second, .val (.long v26), .second, .val (.long (-1 : Int64)), .second, .val (.long v53), .second, .val (.int v66), .val (.long v87), .second, .val (.long v94), .second, .val (.ref ar97), .unset, .unset, .unset] [(.long p3), (.int (0 : Int32)), (.ref ar97)])) rfl rfl (hb hby at_106)
      have N2 := Fr.snoc X2 N0 ge_ar97
      have Z2 : n0 ≤ h2.size := by rw [W2.size]; exact Z1
      have f_1 : Arl Z h2 ar97 .long [(.long p3), (.long (0 : Int64)), (.long (0 : Int64))] := A2
      refine Goes.go (st2) ?_
      show Goes _ _ _ _ _ _ _ (T2.setTop (mkF m 107 _ []))
      refine Goes.go (fun _ k => XS.aload X2.here hx rfl (hb hby at_107) rfl rfl k) ?_
      show Goes _ _ _ _ _ _ _ (T2.setTop (mkF m 109 _ [(.ref ar97)]))
      refine Goes.go (fun _ k => XS.iconst X2.here hx rfl (hb hby at_109) k) ?_
      show Goes _ _ _ _ _ _ _ (T2.setTop (mkF m 110 _ [(.int (1 : Int32)), (.ref ar97)]))
      refine Goes.go (fun _ k => XS.lload X2.here hx rfl (hb hby at_110) rfl k) ?_
      show Goes _ _ _ _ _ _ _ (T2.setTop (mkF m 112 _ [(.long p4), (.int (1 : Int32)), (.ref ar97)]))
      obtain ⟨T3, h3, X3, e3, W3, A3, st3⟩ := own_stJ X2 hx hZ e2 f_1 (j := (1 : Int32)) (x := p4) (by decide) (show (1 : Nat) < 3 by decide) (g := (mkF m 112 #[.val (.int p0), .val (.int p1), .val (.long p2), .second, .val (.long p3), .second, .val (.long p4), .second, .val (.long p5), .second, .val (.int v6), .val (.long v15), .second, .val (.long v26), .second, .val (.long (-1 : Int64)), .second, .val (.long v53), .second, .val (.int v66), .val (.long v87), .second, .val (.long v94), .second, .val (.ref ar97), .unset, .unset, .unset] [(.long p4), (.int (1 : Int32)), (.ref ar97)])) rfl rfl (hb hby at_112)
      have N3 := Fr.snoc X3 N2 ge_ar97
      have Z3 : n0 ≤ h3.size := by rw [W3.size]; exact Z2
      have f_2 : Arl Z h3 ar97 .long [(.long p3), (.long p4), (.long (0 : Int64))] := A3
      refine Goes.go (st3) ?_
      show Goes _ _ _ _ _ _ _ (T3.setTop (mkF m 113 _ []))
      refine Goes.go (fun _ k => XS.aload X3.here hx rfl (hb hby at_113) rfl rfl k) ?_
      show Goes _ _ _ _ _ _ _ (T3.setTop (mkF m 115 _ [(.ref ar97)]))
      refine Goes.go (fun _ k => XS.iconst X3.here hx rfl (hb hby at_115) k) ?_
      show Goes _ _ _ _ _ _ _ (T3.setTop (mkF m 116 _ [(.int (2 : Int32)), (.ref ar97)]))
      refine Goes.go (fun _ k => XS.lload X3.here hx rfl (hb hby at_116) rfl k) ?_
      show Goes _ _ _ _ _ _ _ (T3.setTop (mkF m 118 _ [(.long v94), (.int (2 : Int32)), (.ref ar97)]))
      obtain ⟨T4, h4, X4, e4, W4, A4, st4⟩ := own_stJ X3 hx hZ e3 f_2 (j := (2 : Int32)) (x := v94) (by decide) (show (2 : Nat) < 3 by decide) (g := (mkF m 118 #[.val (.int p0), .val (.int p1), .val (.long p2), .second, .val (.long p3), .second, .val (.long p4), .second, .val (.long p5), .second, .val (.int v6), .val (.long v15), .second, .val (.long v26), .second, .val (.long (-1 : Int64)), .second, .val (.long v53), .second, .val (.int v66), .val (.long v87), .second, .val (.long v94), .second, .val (.ref ar97), .unset, .unset, .unset] [(.long v94), (.int (2 : Int32)), (.ref ar97)])) rfl rfl (hb hby at_118)
      have N4 := Fr.snoc X4 N3 ge_ar97
      have Z4 : n0 ≤ h4.size := by rw [W4.size]; exact Z3
      have f_3 : Arl Z h4 ar97 .long [(.long p3), (.long p4), (.long v94)] := A4
      refine Goes.go (st4) ?_
      show Goes _ _ _ _ _ _ _ (T4.setTop (mkF m 119 _ []))
      obtain ⟨T5, h5, X5, e5, E5, A5, D5, -, st5⟩ := newO X4 hx hZ hown (hw _ (List.mem_of_getElem? (i := 5) rfl)) (hw _ (List.mem_of_getElem? (i := 6) rfl)) (hw _ (List.mem_of_getElem? (i := 7) rfl)) e4 (g := (mkF m 119 #[.val (.int p0), .val (.int p1), .val (.long p2), .second, .val (.long p3), .second, .val (.long p4), .second, .val (.long p5), .second, .val (.int v6), .val (.long v15), .second, .val (.long v26), .second, .val (.long (-1 : Int64)), .second, .val (.long v53), .second, .val (.int v66), .val (.long v87), .second, .val (.long v94), .second, .val (.ref ar97), .unset, .unset, .unset] [])) rfl (hb hby at_119) (by decide) (by decide)
      obtain ⟨ob119, gob119⟩ : ∃ z, z = h4.size := ⟨_, rfl⟩
      rw [← gob119] at A5 D5 st5
      have ne_ar97_ob119 : ar97 ≠ ob119 := by rw [gob119]; exact Nat.ne_of_lt f_3.lt
      have f_4 := f_3.ext E5
      have Z5 : n0 ≤ h5.size := Nat.le_trans Z4 E5.1
      have ge_ob119 : n0 ≤ ob119 := Nat.le_trans Z4 (Nat.le_of_eq gob119.symm)
      have f_5 : Fld Z h5 ob119 "com/example/galdict/galdict/model/PackedArray" "length" "J" (.long (0 : Int64)) := D5 (Or.inr (hw _ (List.mem_of_getElem? (i := 15) rfl))) (ty := .long) (by decide)
      have f_6 : Fld Z h5 ob119 "com/example/galdict/galdict/model/PackedArray" "width" "I" (.int (0 : Int32)) := D5 (Or.inr (hw _ (List.mem_of_getElem? (i := 17) rfl))) (ty := .int) (by decide)
      have f_7 : Fld Z h5 ob119 "com/example/galdict/galdict/model/PackedArray" "mask" "J" (.long (0 : Int64)) := D5 (Or.inr (hw _ (List.mem_of_getElem? (i := 20) rfl))) (ty := .long) (by decide)
      have f_8 : Fld Z h5 ob119 "com/example/galdict/galdict/model/PackedArray" "words" "[J" .null := D5 (Or.inr (hw _ (List.mem_of_getElem? (i := 22) rfl))) (ty := (.array .long)) (by decide)
      refine Goes.go (st5) ?_
      show Goes _ _ _ _ _ _ _ (T5.setTop (mkF m 122 _ [(.ref ob119)]))
      refine Goes.go (fun _ k => XS.dup X5.here hx rfl (hb hby at_122) rfl rfl k) ?_
      show Goes _ _ _ _ _ _ _ (T5.setTop (mkF m 123 _ [(.ref ob119), (.ref ob119)]))
      refine Goes.go (fun _ k => XS.lload X5.here hx rfl (hb hby at_123) rfl k) ?_
      show Goes _ _ _ _ _ _ _ (T5.setTop (mkF m 125 _ [(.long v15), (.ref ob119), (.ref ob119)]))
      refine Goes.go (fun _ k => XS.iload X5.here hx rfl (hb hby at_125) rfl k) ?_
      show Goes _ _ _ _ _ _ _ (T5.setTop (mkF m 127 _ [(.int v6), (.long v15), (.ref ob119), (.ref ob119)]))
      refine Goes.go (fun _ k => XS.aload X5.here hx rfl (hb hby at_127) rfl rfl k) ?_
      show Goes _ _ _ _ _ _ _ (T5.setTop (mkF m 129 _ [(.ref ar97), (.int v6), (.long v15), (.ref ob119), (.ref ob119)]))
      obtain ⟨_, _, ⟨T6, L6, k6, n6⟩, -, X6, ⟨Lc6, hQ6, l6, y6, z6⟩, st6⟩ := X5.specialBack hx (y := (⟨"com/example/galdict/galdict/model/PackedArray", "<init>", "(JI[J)V"⟩ : MethodName)) rfl hown (mvT hZ (hw _ (List.mem_of_getElem? (i := 8) rfl))) (mvT hZ (hw _ (List.mem_of_getElem? (i := 9) rfl))) (mvT hZ (hw _ (List.mem_of_getElem? (i := 10) rfl))) (by decide) (backOf (W := 1) (rm1 l Z a0 hw [] ob119 v15 v6 ar97 h5 n0 Z5 A5 f_5 f_6 f_7 f_8 ge_ob119) hZ (hw _ (List.mem_of_getElem? (i := 10) rfl)) (hw _ (List.mem_of_getElem? (i := 7) rfl)) (by decide) (by decide)) (g := (mkF m 129 #[.val (.int p0), .val (.int p1), .val (.long p2), .second, .val (.long p3), .second, .val (.long p4), .second, .val (.long p5), .second, .val (.int v6), .val (.long v15), .second, .val (.long v26), .second, .val (.long (-1 : Int64)), .second, .val (.long v53), .second, .val (.int v66), .val (.long v87), .second, .val (.long v94), .second, .val (.ref ar97), .unset, .unset, .unset] [(.ref ar97), (.int v6), (.long v15), (.ref ob119), (.ref ob119)])) rfl (by rw [hml]; rfl) (Steps.refl _) (a := ob119) (argsL := [(.long v15), (.int v6), (.ref ar97)]) (rest := [(.ref ob119)]) (lenOf pd0 rfl) rfl (by show 2 * 0 + _ ≤ _; exact Nat.le_of_eq rfl) (hb hby at_129) (fun _ _ => ⟨rfl, e5, (by decide : 2 + 0 ≤ _), (by decide : 7 + 0 ≤ _)⟩)
      dsimp only [Pt.U, Pt.locs, Pt.cells, Pt.slots] at X6 l6 y6 z6 st6 hQ6
      subst l6 y6 z6
      obtain ⟨rfl, Nq6, Kq6, Eq6, Fq6_0, Fq6_1, Fq6_2, Fq6_3⟩ := hQ6
      have N6 := Fr.app N4 Nq6
      have Z6 : n0 ≤ T6.heap.size := Nat.le_trans Z5 Kq6.1
      have f_9 := Arl.keep f_4 Kq6 (ninS ne_ar97_ob119 nin0)
      refine Goes.go (fun _ k => st6.trans k) ?_
      show Goes _ _ _ _ _ _ _ (T6.setTop (mkF m 132 _ [(.ref ob119)]))
      refine Goes.go (fun _ k => XS.astore X6.here hx rfl (hb hby at_132) rfl rfl (l' := #[.val (.int p0), .val (.int p1), .val (.long p2), .second, .val (.long p3), .second, .val (.long p4), .second, .val (.long p5), .second, .val (.int v6), .val (.long v15), .second, .val (.long v26), .second, .val (.long (-1 : Int64)), .second, .val (.long v53), .second, .val (.int v66), .val (.long v87), .second, .val (.long v94), .second, .val (.ref ar97), .val (.ref ob119), .unset, .unset]) rfl k) ?_
      show Goes _ _ _ _ _ _ _ (T6.setTop (mkF m 134 #[.val (.int p0), .val (.int p1), .val (.long p2), .second, .val (.long p3), .second, .val (.long p4), .second, .val (.long p5), .second, .val (.int v6), .val (.long v15), .second, .val (.long v26), .second, .val (.long (-1 : Int64)), .second, .val (.long v53), .second, .val (.int v66), .val (.long v87), .second, .val (.long v94), .second, .val (.ref ar97), .val (.ref ob119), .unset, .unset] []))
      refine Goes.go (fun _ k => XS.aload X6.here hx rfl (hb hby at_134) rfl rfl k) ?_
      show Goes _ _ _ _ _ _ _ (T6.setTop (mkF m 136 _ [(.ref ob119)]))
      refine Goes.go (fun _ k => XS.lload X6.here hx rfl (hb hby at_136) rfl k) ?_
      show Goes _ _ _ _ _ _ _ (T6.setTop (mkF m 138 _ [(.long v26), (.ref ob119)]))
      refine Goes.go (fun _ k => XS.lload X6.here hx rfl (hb hby at_138) rfl k) ?_
      show Goes _ _ _ _ _ _ _ (T6.setTop (mkF m 140 _ [(.long v53), (.long v26), (.ref ob119)]))
      obtain ⟨cq7, kq7, qa7, qb7, qc7⟩ := isOf hZ rfl Eq6
      obtain ⟨_, _, ⟨T7, L7, k7, n7⟩, -, X7, ⟨Lc7, hQ7, l7, y7, z7⟩, st7⟩ := X6.virtualBack hx (y := (⟨"com/example/galdict/galdict/model/PackedArray", "set", "(JJ)V"⟩ : MethodName)) (z := (⟨"com/example/galdict/galdict/model/PackedArray", "set", "(JJ)V"⟩ : MethodName)) hown (mvT hZ (hw _ (List.mem_of_getElem? (i := 23) rfl))) (mvT hZ (hw _ (List.mem_of_getElem? (i := 24) rfl))) (notFace_of_selects (args := #[]) (mvT hZ (hw _ (List.mem_of_getElem? (i := 26) rfl)))) (mvT hZ (hw _ (List.mem_of_getElem? (i := 26) rfl))) (mvT hZ (hw _ (List.mem_of_getElem? (i := 25) rfl))) (by decide) (backOf (W := 0) (rm2 l Z a0 hw [] ob119 v26 v53 v6 (((-1 : Int64)).toUInt64 >>> (((64 : Int32) - v6) &&& 0x3f).toInt64.toUInt64).toInt64 ar97 _ (wAt p3 p4 v94 (i * w' / 64)) (wAt p3 p4 v94 (i * w' / 64 + 1)) T6.heap n0 Z6 Fq6_1 Fq6_2 Fq6_3 f_9 ne_ar97_ob119.symm ge_ar97 (own_q1 hm (by omega)) (own_q2 (f := Value.long) hm (by omega)) (own_q3 (f := Value.long) hm hw1 hw2 hw3 hm2)) hZ (hw _ (List.mem_of_getElem? (i := 27) rfl)) (hw _ (List.mem_of_getElem? (i := 7) rfl)) (by decide) (by decide)) qa7 qc7 (g := (mkF m 140 #[.val (.int p0), .val (.int p1), .val (.long p2), .second, .val (.long p3), .second, .val (.long p4), .second, .val (.long p5), .second, .val (.int v6), .val (.long v15), .second, .val (.long v26), .second, .val (.long (-1 : Int64)), .second, .val (.long v53), .second, .val (.int v66), .val (.long v87), .second, .val (.long v94), .second, .val (.ref ar97), .val (.ref ob119), .unset, .unset] [(.long v53), (.long v26), (.ref ob119)])) rfl (by rw [hml]; rfl) (Steps.refl _) (argsL := [(.long v26), (.long v53)]) (rest := []) (lenOf pd2 rfl) rfl (by show 2 * 0 + _ ≤ _; exact Nat.le_of_eq rfl) (hb hby at_140) (fun _ _ => ⟨rfl, rfl, (by decide : 2 + 0 ≤ _), (by decide : 7 + 0 ≤ _)⟩)
      dsimp only [Pt.U, Pt.locs, Pt.cells, Pt.slots] at X7 l7 y7 z7 st7 hQ7
      subst l7 y7 z7
      obtain ⟨rfl, Nq7, Kq7, Aq7⟩ := hQ7
      have N7 := Fr.app N6 Nq7
      have Z7 : n0 ≤ T7.heap.size := Nat.le_trans Z6 Kq7.1
      have f_10 := Exa.keep Eq6 Kq7
      have f_11 := Fld.keep Fq6_0 Kq7 (ninS ne_ar97_ob119.symm nin0)
      have f_12 := Fld.keep Fq6_1 Kq7 (ninS ne_ar97_ob119.symm nin0)
      have f_13 := Fld.keep Fq6_2 Kq7 (ninS ne_ar97_ob119.symm nin0)
      have f_14 := Fld.keep Fq6_3 Kq7 (ninS ne_ar97_ob119.symm nin0)
      refine Goes.go (fun _ k => st7.trans k) ?_
      show Goes _ _ _ _ _ _ _ (T7.setTop (mkF m 143 _ []))
      refine Goes.go (fun _ k => XS.lload X7.here hx rfl (hb hby at_143) rfl k) ?_
      show Goes _ _ _ _ _ _ _ (T7.setTop (mkF m 145 _ [(.long v26)]))
      refine Goes.go (fun _ k => XS.iload X7.here hx rfl (hb hby at_145) rfl k) ?_
      show Goes _ _ _ _ _ _ _ (T7.setTop (mkF m 147 _ [(.int v6), (.long v26)]))
      refine Goes.go (fun _ k => XS.i2l X7.here hx rfl (hb hby at_147) rfl k) ?_
      show Goes _ _ _ _ _ _ _ (T7.setTop (mkF m 148 _ [(.long (v6).toInt64), (.long v26)]))
      refine Goes.go (fun _ k => XS.lmul X7.here hx rfl (hb hby at_148) rfl k) ?_
      show Goes _ _ _ _ _ _ _ (T7.setTop (mkF m 149 _ [(.long (v26 * (v6).toInt64))]))
      generalize hv149 : (v26 * (v6).toInt64) = v149
      refine Goes.go (fun _ k => XS.lstore X7.here hx rfl (hb hby at_149) rfl (l' := #[.val (.int p0), .val (.int p1), .val (.long p2), .second, .val (.long p3), .second, .val (.long p4), .second, .val (.long p5), .second, .val (.int v6), .val (.long v15), .second, .val (.long v26), .second, .val (.long (-1 : Int64)), .second, .val (.long v53), .second, .val (.int v66), .val (.long v87), .second, .val (.long v94), .second, .val (.ref ar97), .val (.ref ob119), .val (.long v149), .second]) rfl k) ?_
      show Goes _ _ _ _ _ _ _ (T7.setTop (mkF m 151 #[.val (.int p0), .val (.int p1), .val (.long p2), .second, .val (.long p3), .second, .val (.long p4), .second, .val (.long p5), .second, .val (.int v6), .val (.long v15), .second, .val (.long v26), .second, .val (.long (-1 : Int64)), .second, .val (.long v53), .second, .val (.int v66), .val (.long v87), .second, .val (.long v94), .second, .val (.ref ar97), .val (.ref ob119), .val (.long v149), .second] []))
      refine Goes.go (fun _ k => XS.aload X7.here hx rfl (hb hby at_151) rfl rfl k) ?_
      show Goes _ _ _ _ _ _ _ (T7.setTop (mkF m 153 _ [(.ref ar97)]))
      refine Goes.go (fun _ k => XS.iconst X7.here hx rfl (hb hby at_153) k) ?_
      show Goes _ _ _ _ _ _ _ (T7.setTop (mkF m 154 _ [(.int (0 : Int32)), (.ref ar97)]))
      refine Goes.go (own_ldJ X7 hx hZ rfl Aq7 (j := (0 : Int32)) (v := (.long (nwF p3 p4 v94 v26 v53 v6 (((-1 : Int64)).toUInt64 >>> (((64 : Int32) - v6) &&& 0x3f).toInt64.toUInt64).toInt64 (i * w') 0))) (by decide) (sv_at (f := Value.long) (j := 0) hm hw1 hw2 hw3 hm2 (by decide)) rfl rfl (hb hby at_154)) ?_
      show Goes _ _ _ _ _ _ _ (T7.setTop (mkF m 155 _ [(.long (nwF p3 p4 v94 v26 v53 v6 (((-1 : Int64)).toUInt64 >>> (((64 : Int32) - v6) &&& 0x3f).toInt64.toUInt64).toInt64 (i * w') 0))]))
      refine Goes.go (fun _ k => XS.lload X7.here hx rfl (hb hby at_155) rfl k) ?_
      show Goes _ _ _ _ _ _ _ (T7.setTop (mkF m 157 _ [(.long p3), (.long (nwF p3 p4 v94 v26 v53 v6 (((-1 : Int64)).toUInt64 >>> (((64 : Int32) - v6) &&& 0x3f).toInt64.toUInt64).toInt64 (i * w') 0))]))
      refine Goes.go (fun _ k => XS.iconst X7.here hx rfl (hb hby at_157) k) ?_
      show Goes _ _ _ _ _ _ _ (T7.setTop (mkF m 158 _ [(.int (0 : Int32)), (.long p3), (.long (nwF p3 p4 v94 v26 v53 v6 (((-1 : Int64)).toUInt64 >>> (((64 : Int32) - v6) &&& 0x3f).toInt64.toUInt64).toInt64 (i * w') 0))]))
      refine Goes.go (fun _ k => XS.lload X7.here hx rfl (hb hby at_158) rfl k) ?_
      show Goes _ _ _ _ _ _ _ (T7.setTop (mkF m 160 _ [(.long v149), (.int (0 : Int32)), (.long p3), (.long (nwF p3 p4 v94 v26 v53 v6 (((-1 : Int64)).toUInt64 >>> (((64 : Int32) - v6) &&& 0x3f).toInt64.toUInt64).toInt64 (i * w') 0))]))
      refine Goes.go (fun _ k => XS.iload X7.here hx rfl (hb hby at_160) rfl k) ?_
      show Goes _ _ _ _ _ _ _ (T7.setTop (mkF m 162 _ [(.int v6), (.long v149), (.int (0 : Int32)), (.long p3), (.long (nwF p3 p4 v94 v26 v53 v6 (((-1 : Int64)).toUInt64 >>> (((64 : Int32) - v6) &&& 0x3f).toInt64.toUInt64).toInt64 (i * w') 0))]))
      refine Goes.go (fun _ k => XS.lload X7.here hx rfl (hb hby at_162) rfl k) ?_
      show Goes _ _ _ _ _ _ _ (T7.setTop (mkF m 164 _ [(.long v53), (.int v6), (.long v149), (.int (0 : Int32)), (.long p3), (.long (nwF p3 p4 v94 v26 v53 v6 (((-1 : Int64)).toUInt64 >>> (((64 : Int32) - v6) &&& 0x3f).toInt64.toUInt64).toInt64 (i * w') 0))]))
      obtain ⟨_, _, ⟨T8, L8, k8, n8⟩, -, X8, ⟨Lc8, hQ8, l8, y8, z8⟩, st8⟩ := Jvm.LawKit.callS X7 hx (y := (⟨"com/example/galdict/galdict/model/PackedArraySetPinLaw", "expect", "(JIJIJ)J"⟩ : MethodName)) hown (mvT hZ (hw _ (List.mem_of_getElem? (i := 28) rfl))) (mvT hZ (hw _ (List.mem_of_getElem? (i := 29) rfl))) (mvT hZ (hw _ (List.mem_of_getElem? (i := 30) rfl))) (mvT hZ (hw _ (List.mem_of_getElem? (i := 31) rfl))) (by decide) (backOf (W := 2) (rm3 l Z a0 hw [] p3 (0 : Int32) v149 v6 v53 T7.heap n0 Z7) hZ (hw _ (List.mem_of_getElem? (i := 31) rfl)) (hw _ (List.mem_of_getElem? (i := 30) rfl)) (by decide) (by decide)) (g := (mkF m 164 #[.val (.int p0), .val (.int p1), .val (.long p2), .second, .val (.long p3), .second, .val (.long p4), .second, .val (.long p5), .second, .val (.int v6), .val (.long v15), .second, .val (.long v26), .second, .val (.long (-1 : Int64)), .second, .val (.long v53), .second, .val (.int v66), .val (.long v87), .second, .val (.long v94), .second, .val (.ref ar97), .val (.ref ob119), .val (.long v149), .second] [(.long v53), (.int v6), (.long v149), (.int (0 : Int32)), (.long p3), (.long (nwF p3 p4 v94 v26 v53 v6 (((-1 : Int64)).toUInt64 >>> (((64 : Int32) - v6) &&& 0x3f).toInt64.toUInt64).toInt64 (i * w') 0))])) rfl (by rw [hml]; rfl) (argsL := [(.long p3), (.int (0 : Int32)), (.long v149), (.int v6), (.long v53)]) (rest := [(.long (nwF p3 p4 v94 v26 v53 v6 (((-1 : Int64)).toUInt64 >>> (((64 : Int32) - v6) &&& 0x3f).toInt64.toUInt64).toInt64 (i * w') 0))]) (lenOf pd3 rfl) rfl (by show 2 * 0 + _ ≤ _; exact Nat.le_of_eq rfl) (hb hby at_164) (fun _ _ => ⟨rfl, rfl, (by decide : 2 + 0 ≤ _), (by decide : 7 + 0 ≤ _)⟩)
      dsimp only [Pt.U, Pt.locs, Pt.cells, Pt.slots] at X8 l8 y8 z8 st8 hQ8
      subst l8 y8 z8
      obtain ⟨rfl, Nq8, hh8⟩ := hQ8
      have N8 := Fr.app N7 Nq8
      refine Goes.go (st8) ?_
      show Goes _ _ _ _ _ _ _ (T8.setTop (mkF m 167 _ [(.long (exF p3 (0 : Int32) v149 v6 v53)), (.long (nwF p3 p4 v94 v26 v53 v6 (((-1 : Int64)).toUInt64 >>> (((64 : Int32) - v6) &&& 0x3f).toInt64.toUInt64).toInt64 (i * w') 0))]))
      refine Goes.go (fun _ k => XT.lcmp X8.here hx rfl (hb hby at_167) rfl k) ?_
      show Goes _ _ _ _ _ _ _ (T8.setTop (mkF m 168 _ [(.int (XT.cmpL (nwF p3 p4 v94 v26 v53 v6 (((-1 : Int64)).toUInt64 >>> (((64 : Int32) - v6) &&& 0x3f).toInt64.toUInt64).toInt64 (i * w') 0) (exF p3 (0 : Int32) v149 v6 v53)))]))
      refine Goes.go (fun _ k => XS.ifNo X8.here hx rfl (hb hby at_168) rfl (XT.ll_ne_f (own_eq 0 rfl (by decide) (by decide) hm hv149 hw1 hw2 hw3 hm2 hvb)) k) ?_
      show Goes _ _ _ _ _ _ _ (T8.setTop (mkF m 171 _ []))
      refine Goes.go (fun _ k => XS.aload X8.here hx rfl (hb hby at_171) rfl rfl k) ?_
      show Goes _ _ _ _ _ _ _ (T8.setTop (mkF m 173 _ [(.ref ar97)]))
      refine Goes.go (fun _ k => XS.iconst X8.here hx rfl (hb hby at_173) k) ?_
      show Goes _ _ _ _ _ _ _ (T8.setTop (mkF m 174 _ [(.int (1 : Int32)), (.ref ar97)]))
      refine Goes.go (own_ldJ X8 hx hZ hh8 Aq7 (j := (1 : Int32)) (v := (.long (nwF p3 p4 v94 v26 v53 v6 (((-1 : Int64)).toUInt64 >>> (((64 : Int32) - v6) &&& 0x3f).toInt64.toUInt64).toInt64 (i * w') 1))) (by decide) (sv_at (f := Value.long) (j := 1) hm hw1 hw2 hw3 hm2 (by decide)) rfl rfl (hb hby at_174)) ?_
      show Goes _ _ _ _ _ _ _ (T8.setTop (mkF m 175 _ [(.long (nwF p3 p4 v94 v26 v53 v6 (((-1 : Int64)).toUInt64 >>> (((64 : Int32) - v6) &&& 0x3f).toInt64.toUInt64).toInt64 (i * w') 1))]))
      refine Goes.go (fun _ k => XS.lload X8.here hx rfl (hb hby at_175) rfl k) ?_
      show Goes _ _ _ _ _ _ _ (T8.setTop (mkF m 177 _ [(.long p4), (.long (nwF p3 p4 v94 v26 v53 v6 (((-1 : Int64)).toUInt64 >>> (((64 : Int32) - v6) &&& 0x3f).toInt64.toUInt64).toInt64 (i * w') 1))]))
      refine Goes.go (fun _ k => XS.iconst X8.here hx rfl (hb hby at_177) k) ?_
      show Goes _ _ _ _ _ _ _ (T8.setTop (mkF m 178 _ [(.int (1 : Int32)), (.long p4), (.long (nwF p3 p4 v94 v26 v53 v6 (((-1 : Int64)).toUInt64 >>> (((64 : Int32) - v6) &&& 0x3f).toInt64.toUInt64).toInt64 (i * w') 1))]))
      refine Goes.go (fun _ k => XS.lload X8.here hx rfl (hb hby at_178) rfl k) ?_
      show Goes _ _ _ _ _ _ _ (T8.setTop (mkF m 180 _ [(.long v149), (.int (1 : Int32)), (.long p4), (.long (nwF p3 p4 v94 v26 v53 v6 (((-1 : Int64)).toUInt64 >>> (((64 : Int32) - v6) &&& 0x3f).toInt64.toUInt64).toInt64 (i * w') 1))]))
      refine Goes.go (fun _ k => XS.iload X8.here hx rfl (hb hby at_180) rfl k) ?_
      show Goes _ _ _ _ _ _ _ (T8.setTop (mkF m 182 _ [(.int v6), (.long v149), (.int (1 : Int32)), (.long p4), (.long (nwF p3 p4 v94 v26 v53 v6 (((-1 : Int64)).toUInt64 >>> (((64 : Int32) - v6) &&& 0x3f).toInt64.toUInt64).toInt64 (i * w') 1))]))
      refine Goes.go (fun _ k => XS.lload X8.here hx rfl (hb hby at_182) rfl k) ?_
      show Goes _ _ _ _ _ _ _ (T8.setTop (mkF m 184 _ [(.long v53), (.int v6), (.long v149), (.int (1 : Int32)), (.long p4), (.long (nwF p3 p4 v94 v26 v53 v6 (((-1 : Int64)).toUInt64 >>> (((64 : Int32) - v6) &&& 0x3f).toInt64.toUInt64).toInt64 (i * w') 1))]))
      obtain ⟨_, _, ⟨T9, L9, k9, n9⟩, -, X9, ⟨Lc9, hQ9, l9, y9, z9⟩, st9⟩ := Jvm.LawKit.callS X8 hx (y := (⟨"com/example/galdict/galdict/model/PackedArraySetPinLaw", "expect", "(JIJIJ)J"⟩ : MethodName)) hown (mvT hZ (hw _ (List.mem_of_getElem? (i := 28) rfl))) (mvT hZ (hw _ (List.mem_of_getElem? (i := 29) rfl))) (mvT hZ (hw _ (List.mem_of_getElem? (i := 30) rfl))) (mvT hZ (hw _ (List.mem_of_getElem? (i := 31) rfl))) (by decide) (backOf (W := 2) (rm3 l Z a0 hw [] p4 (1 : Int32) v149 v6 v53 T7.heap n0 Z7) hZ (hw _ (List.mem_of_getElem? (i := 31) rfl)) (hw _ (List.mem_of_getElem? (i := 30) rfl)) (by decide) (by decide)) (g := (mkF m 184 #[.val (.int p0), .val (.int p1), .val (.long p2), .second, .val (.long p3), .second, .val (.long p4), .second, .val (.long p5), .second, .val (.int v6), .val (.long v15), .second, .val (.long v26), .second, .val (.long (-1 : Int64)), .second, .val (.long v53), .second, .val (.int v66), .val (.long v87), .second, .val (.long v94), .second, .val (.ref ar97), .val (.ref ob119), .val (.long v149), .second] [(.long v53), (.int v6), (.long v149), (.int (1 : Int32)), (.long p4), (.long (nwF p3 p4 v94 v26 v53 v6 (((-1 : Int64)).toUInt64 >>> (((64 : Int32) - v6) &&& 0x3f).toInt64.toUInt64).toInt64 (i * w') 1))])) rfl (by rw [hml]; rfl) (argsL := [(.long p4), (.int (1 : Int32)), (.long v149), (.int v6), (.long v53)]) (rest := [(.long (nwF p3 p4 v94 v26 v53 v6 (((-1 : Int64)).toUInt64 >>> (((64 : Int32) - v6) &&& 0x3f).toInt64.toUInt64).toInt64 (i * w') 1))]) (lenOf pd3 rfl) rfl (by show 2 * 0 + _ ≤ _; exact Nat.le_of_eq rfl) (hb hby at_184) (fun _ _ => ⟨rfl, hh8, (by decide : 2 + 0 ≤ _), (by decide : 7 + 0 ≤ _)⟩)
      dsimp only [Pt.U, Pt.locs, Pt.cells, Pt.slots] at X9 l9 y9 z9 st9 hQ9
      subst l9 y9 z9
      obtain ⟨rfl, Nq9, hh9⟩ := hQ9
      have N9 := Fr.app N8 Nq9
      refine Goes.go (st9) ?_
      show Goes _ _ _ _ _ _ _ (T9.setTop (mkF m 187 _ [(.long (exF p4 (1 : Int32) v149 v6 v53)), (.long (nwF p3 p4 v94 v26 v53 v6 (((-1 : Int64)).toUInt64 >>> (((64 : Int32) - v6) &&& 0x3f).toInt64.toUInt64).toInt64 (i * w') 1))]))
      refine Goes.go (fun _ k => XT.lcmp X9.here hx rfl (hb hby at_187) rfl k) ?_
      show Goes _ _ _ _ _ _ _ (T9.setTop (mkF m 188 _ [(.int (XT.cmpL (nwF p3 p4 v94 v26 v53 v6 (((-1 : Int64)).toUInt64 >>> (((64 : Int32) - v6) &&& 0x3f).toInt64.toUInt64).toInt64 (i * w') 1) (exF p4 (1 : Int32) v149 v6 v53)))]))
      refine Goes.go (fun _ k => XS.ifNo X9.here hx rfl (hb hby at_188) rfl (XT.ll_ne_f (own_eq 1 rfl (by decide) (by decide) hm hv149 hw1 hw2 hw3 hm2 hvb)) k) ?_
      show Goes _ _ _ _ _ _ _ (T9.setTop (mkF m 191 _ []))
      refine Goes.go (fun _ k => XS.aload X9.here hx rfl (hb hby at_191) rfl rfl k) ?_
      show Goes _ _ _ _ _ _ _ (T9.setTop (mkF m 193 _ [(.ref ar97)]))
      refine Goes.go (fun _ k => XS.iconst X9.here hx rfl (hb hby at_193) k) ?_
      show Goes _ _ _ _ _ _ _ (T9.setTop (mkF m 194 _ [(.int (2 : Int32)), (.ref ar97)]))
      refine Goes.go (own_ldJ X9 hx hZ hh9 Aq7 (j := (2 : Int32)) (v := (.long (nwF p3 p4 v94 v26 v53 v6 (((-1 : Int64)).toUInt64 >>> (((64 : Int32) - v6) &&& 0x3f).toInt64.toUInt64).toInt64 (i * w') 2))) (by decide) (sv_at (f := Value.long) (j := 2) hm hw1 hw2 hw3 hm2 (by decide)) rfl rfl (hb hby at_194)) ?_
      show Goes _ _ _ _ _ _ _ (T9.setTop (mkF m 195 _ [(.long (nwF p3 p4 v94 v26 v53 v6 (((-1 : Int64)).toUInt64 >>> (((64 : Int32) - v6) &&& 0x3f).toInt64.toUInt64).toInt64 (i * w') 2))]))
      refine Goes.go (fun _ k => XS.lload X9.here hx rfl (hb hby at_195) rfl k) ?_
      show Goes _ _ _ _ _ _ _ (T9.setTop (mkF m 197 _ [(.long v94), (.long (nwF p3 p4 v94 v26 v53 v6 (((-1 : Int64)).toUInt64 >>> (((64 : Int32) - v6) &&& 0x3f).toInt64.toUInt64).toInt64 (i * w') 2))]))
      refine Goes.go (fun _ k => XS.iconst X9.here hx rfl (hb hby at_197) k) ?_
      show Goes _ _ _ _ _ _ _ (T9.setTop (mkF m 198 _ [(.int (2 : Int32)), (.long v94), (.long (nwF p3 p4 v94 v26 v53 v6 (((-1 : Int64)).toUInt64 >>> (((64 : Int32) - v6) &&& 0x3f).toInt64.toUInt64).toInt64 (i * w') 2))]))
      refine Goes.go (fun _ k => XS.lload X9.here hx rfl (hb hby at_198) rfl k) ?_
      show Goes _ _ _ _ _ _ _ (T9.setTop (mkF m 200 _ [(.long v149), (.int (2 : Int32)), (.long v94), (.long (nwF p3 p4 v94 v26 v53 v6 (((-1 : Int64)).toUInt64 >>> (((64 : Int32) - v6) &&& 0x3f).toInt64.toUInt64).toInt64 (i * w') 2))]))
      refine Goes.go (fun _ k => XS.iload X9.here hx rfl (hb hby at_200) rfl k) ?_
      show Goes _ _ _ _ _ _ _ (T9.setTop (mkF m 202 _ [(.int v6), (.long v149), (.int (2 : Int32)), (.long v94), (.long (nwF p3 p4 v94 v26 v53 v6 (((-1 : Int64)).toUInt64 >>> (((64 : Int32) - v6) &&& 0x3f).toInt64.toUInt64).toInt64 (i * w') 2))]))
      refine Goes.go (fun _ k => XS.lload X9.here hx rfl (hb hby at_202) rfl k) ?_
      show Goes _ _ _ _ _ _ _ (T9.setTop (mkF m 204 _ [(.long v53), (.int v6), (.long v149), (.int (2 : Int32)), (.long v94), (.long (nwF p3 p4 v94 v26 v53 v6 (((-1 : Int64)).toUInt64 >>> (((64 : Int32) - v6) &&& 0x3f).toInt64.toUInt64).toInt64 (i * w') 2))]))
      obtain ⟨_, _, ⟨T10, L10, k10, n10⟩, -, X10, ⟨Lc10, hQ10, l10, y10, z10⟩, st10⟩ := Jvm.LawKit.callS X9 hx (y := (⟨"com/example/galdict/galdict/model/PackedArraySetPinLaw", "expect", "(JIJIJ)J"⟩ : MethodName)) hown (mvT hZ (hw _ (List.mem_of_getElem? (i := 28) rfl))) (mvT hZ (hw _ (List.mem_of_getElem? (i := 29) rfl))) (mvT hZ (hw _ (List.mem_of_getElem? (i := 30) rfl))) (mvT hZ (hw _ (List.mem_of_getElem? (i := 31) rfl))) (by decide) (backOf (W := 2) (rm3 l Z a0 hw [] v94 (2 : Int32) v149 v6 v53 T7.heap n0 Z7) hZ (hw _ (List.mem_of_getElem? (i := 31) rfl)) (hw _ (List.mem_of_getElem? (i := 30) rfl)) (by decide) (by decide)) (g := (mkF m 204 #[.val (.int p0), .val (.int p1), .val (.long p2), .second, .val (.long p3), .second, .val (.long p4), .second, .val (.long p5), .second, .val (.int v6), .val (.long v15), .second, .val (.long v26), .second, .val (.long (-1 : Int64)), .second, .val (.long v53), .second, .val (.int v66), .val (.long v87), .second, .val (.long v94), .second, .val (.ref ar97), .val (.ref ob119), .val (.long v149), .second] [(.long v53), (.int v6), (.long v149), (.int (2 : Int32)), (.long v94), (.long (nwF p3 p4 v94 v26 v53 v6 (((-1 : Int64)).toUInt64 >>> (((64 : Int32) - v6) &&& 0x3f).toInt64.toUInt64).toInt64 (i * w') 2))])) rfl (by rw [hml]; rfl) (argsL := [(.long v94), (.int (2 : Int32)), (.long v149), (.int v6), (.long v53)]) (rest := [(.long (nwF p3 p4 v94 v26 v53 v6 (((-1 : Int64)).toUInt64 >>> (((64 : Int32) - v6) &&& 0x3f).toInt64.toUInt64).toInt64 (i * w') 2))]) (lenOf pd3 rfl) rfl (by show 2 * 0 + _ ≤ _; exact Nat.le_of_eq rfl) (hb hby at_204) (fun _ _ => ⟨rfl, hh9, (by decide : 2 + 0 ≤ _), (by decide : 7 + 0 ≤ _)⟩)
      dsimp only [Pt.U, Pt.locs, Pt.cells, Pt.slots] at X10 l10 y10 z10 st10 hQ10
      subst l10 y10 z10
      obtain ⟨rfl, Nq10, hh10⟩ := hQ10
      have N10 := Fr.app N9 Nq10
      refine Goes.go (st10) ?_
      show Goes _ _ _ _ _ _ _ (T10.setTop (mkF m 207 _ [(.long (exF v94 (2 : Int32) v149 v6 v53)), (.long (nwF p3 p4 v94 v26 v53 v6 (((-1 : Int64)).toUInt64 >>> (((64 : Int32) - v6) &&& 0x3f).toInt64.toUInt64).toInt64 (i * w') 2))]))
      refine Goes.go (fun _ k => XT.lcmp X10.here hx rfl (hb hby at_207) rfl k) ?_
      show Goes _ _ _ _ _ _ _ (T10.setTop (mkF m 208 _ [(.int (XT.cmpL (nwF p3 p4 v94 v26 v53 v6 (((-1 : Int64)).toUInt64 >>> (((64 : Int32) - v6) &&& 0x3f).toInt64.toUInt64).toInt64 (i * w') 2) (exF v94 (2 : Int32) v149 v6 v53)))]))
      refine Goes.go (fun _ k => XS.ifNo X10.here hx rfl (hb hby at_208) rfl (XT.ll_ne_f (own_eq 2 rfl (by decide) (by decide) hm hv149 hw1 hw2 hw3 hm2 hvb)) k) ?_
      show Goes _ _ _ _ _ _ _ (T10.setTop (mkF m 211 _ []))
      refine Goes.go (fun _ k => XS.iconst X10.here hx rfl (hb hby at_211) k) ?_
      show Goes _ _ _ _ _ _ _ (T10.setTop (mkF m 212 _ [(.int (1 : Int32))]))
      refine Goes.go (fun _ k => XS.goto X10.here hx rfl (pc0 := 212) (pc' := 216) rfl (hb hby at_212) (by decide) (by decide) k) ?_
      show Goes _ _ _ _ _ _ _ (T10.setTop (mkF m 216 _ [(.int (1 : Int32))]))
      exact Goes.outZ X10 hx hlk hret rfl (hb hby at_216) hh10 ⟨rfl, N10⟩ (by decide) (by decide)
  · skip
    refine Goes.go (fun _ k => XS.icmpYes X0.here hx rfl (pc0 := 32) (pc' := 41) rfl (hb hby at_32) rfl (XT.ii_ne_t c32) (by decide) (by decide) k) ?_
    show Goes _ _ _ _ _ _ _ (s₁.setTop (mkF m 41 _ []))
    refine Goes.go (fun _ k => XS.lconst X0.here hx rfl (hb hby at_41) k) ?_
    show Goes _ _ _ _ _ _ _ (s₁.setTop (mkF m 42 _ [(.long (1 : Int64))]))
    refine Goes.go (fun _ k => XS.iload X0.here hx rfl (hb hby at_42) rfl k) ?_
    show Goes _ _ _ _ _ _ _ (s₁.setTop (mkF m 44 _ [(.int v6), (.long (1 : Int64))]))
    refine Goes.go (fun _ k => XS.lshl X0.here hx rfl (hb hby at_44) rfl k) ?_
    show Goes _ _ _ _ _ _ _ (s₁.setTop (mkF m 45 _ [(.long ((1 : Int64) <<< (v6 &&& 0x3f).toInt64))]))
    refine Goes.go (fun _ k => XS.lconst X0.here hx rfl (hb hby at_45) k) ?_
    show Goes _ _ _ _ _ _ _ (s₁.setTop (mkF m 46 _ [(.long (1 : Int64)), (.long ((1 : Int64) <<< (v6 &&& 0x3f).toInt64))]))
    refine Goes.go (fun _ k => XS.lsub X0.here hx rfl (hb hby at_46) rfl k) ?_
    show Goes _ _ _ _ _ _ _ (s₁.setTop (mkF m 47 _ [(.long (((1 : Int64) <<< (v6 &&& 0x3f).toInt64) - (1 : Int64)))]))
    generalize hv47 : (((1 : Int64) <<< (v6 &&& 0x3f).toInt64) - (1 : Int64)) = v47
    refine Goes.go (fun _ k => XS.lstore X0.here hx rfl (hb hby at_47) rfl (l' := #[.val (.int p0), .val (.int p1), .val (.long p2), .second, .val (.long p3), .second, .val (.long p4), .second, .val (.long p5), .second, .val (.int v6), .val (.long v15), .second, .val (.long v26), .second, .val (.long v47), .second, .unset, .unset, .unset, .unset, .unset, .unset, .unset, .unset, .unset, .unset, .unset]) rfl k) ?_
    show Goes _ _ _ _ _ _ _ (s₁.setTop (mkF m 49 #[.val (.int p0), .val (.int p1), .val (.long p2), .second, .val (.long p3), .second, .val (.long p4), .second, .val (.long p5), .second, .val (.int v6), .val (.long v15), .second, .val (.long v26), .second, .val (.long v47), .second, .unset, .unset, .unset, .unset, .unset, .unset, .unset, .unset, .unset, .unset, .unset] []))
    refine Goes.go (fun _ k => XS.lloadN X0.here hx rfl (hb hby at_49) rfl k) ?_
    show Goes _ _ _ _ _ _ _ (s₁.setTop (mkF m 50 _ [(.long p2)]))
    refine Goes.go (fun _ k => XS.lload X0.here hx rfl (hb hby at_50) rfl k) ?_
    show Goes _ _ _ _ _ _ _ (s₁.setTop (mkF m 52 _ [(.long v47), (.long p2)]))
    refine Goes.go (fun _ k => XS.land X0.here hx rfl (hb hby at_52) rfl k) ?_
    show Goes _ _ _ _ _ _ _ (s₁.setTop (mkF m 53 _ [(.long (p2 &&& v47))]))
    generalize hv53 : (p2 &&& v47) = v53
    refine Goes.go (fun _ k => XS.lstore X0.here hx rfl (hb hby at_53) rfl (l' := #[.val (.int p0), .val (.int p1), .val (.long p2), .second, .val (.long p3), .second, .val (.long p4), .second, .val (.long p5), .second, .val (.int v6), .val (.long v15), .second, .val (.long v26), .second, .val (.long v47), .second, .val (.long v53), .second, .unset, .unset, .unset, .unset, .unset, .unset, .unset, .unset, .unset]) rfl k) ?_
    show Goes _ _ _ _ _ _ _ (s₁.setTop (mkF m 55 #[.val (.int p0), .val (.int p1), .val (.long p2), .second, .val (.long p3), .second, .val (.long p4), .second, .val (.long p5), .second, .val (.int v6), .val (.long v15), .second, .val (.long v26), .second, .val (.long v47), .second, .val (.long v53), .second, .unset, .unset, .unset, .unset, .unset, .unset, .unset, .unset, .unset] []))
    have hvb : ∀ t, w' ≤ t → lbit v53 t = false := own_v2 hw1 hw3 c32 hv47 hv53
    refine Goes.go (fun _ k => XS.lload X0.here hx rfl (hb hby at_55) rfl k) ?_
    show Goes _ _ _ _ _ _ _ (s₁.setTop (mkF m 57 _ [(.long v15)]))
    refine Goes.go (fun _ k => XS.iload X0.here hx rfl (hb hby at_57) rfl k) ?_
    show Goes _ _ _ _ _ _ _ (s₁.setTop (mkF m 59 _ [(.int v6), (.long v15)]))
    refine Goes.go (fun _ k => XS.i2l X0.here hx rfl (hb hby at_59) rfl k) ?_
    show Goes _ _ _ _ _ _ _ (s₁.setTop (mkF m 60 _ [(.long (v6).toInt64), (.long v15)]))
    refine Goes.go (fun _ k => XS.lmul X0.here hx rfl (hb hby at_60) rfl k) ?_
    show Goes _ _ _ _ _ _ _ (s₁.setTop (mkF m 61 _ [(.long (v15 * (v6).toInt64))]))
    refine Goes.go (fun _ k => X0.ldc2J hx (v := (128 : Int64)) hown (mvT hZ (hw _ (List.mem_of_getElem? (i := 2) rfl))) rfl (hb hby at_61) k) ?_
    show Goes _ _ _ _ _ _ _ (s₁.setTop (mkF m 64 _ [(.long (128 : Int64)), (.long (v15 * (v6).toInt64))]))
    refine Goes.go (fun _ k => XS.lsub X0.here hx rfl (hb hby at_64) rfl k) ?_
    show Goes _ _ _ _ _ _ _ (s₁.setTop (mkF m 65 _ [(.long ((v15 * (v6).toInt64) - (128 : Int64)))]))
    refine Goes.go (fun _ k => XS.l2i X0.here hx rfl (hb hby at_65) rfl k) ?_
    show Goes _ _ _ _ _ _ _ (s₁.setTop (mkF m 66 _ [(.int (((v15 * (v6).toInt64) - (128 : Int64))).toInt32)]))
    generalize hv66 : (((v15 * (v6).toInt64) - (128 : Int64))).toInt32 = v66
    refine Goes.go (fun _ k => XS.istore X0.here hx rfl (hb hby at_66) rfl (l' := #[.val (.int p0), .val (.int p1), .val (.long p2), .second, .val (.long p3), .second, .val (.long p4), .second, .val (.long p5), .second, .val (.int v6), .val (.long v15), .second, .val (.long v26), .second, .val (.long v47), .second, .val (.long v53), .second, .val (.int v66), .unset, .unset, .unset, .unset, .unset, .unset, .unset, .unset]) rfl k) ?_
    show Goes _ _ _ _ _ _ _ (s₁.setTop (mkF m 68 #[.val (.int p0), .val (.int p1), .val (.long p2), .second, .val (.long p3), .second, .val (.long p4), .second, .val (.long p5), .second, .val (.int v6), .val (.long v15), .second, .val (.long v26), .second, .val (.long v47), .second, .val (.long v53), .second, .val (.int v66), .unset, .unset, .unset, .unset, .unset, .unset, .unset, .unset] []))
    refine Goes.go (fun _ k => XS.iload X0.here hx rfl (hb hby at_68) rfl k) ?_
    show Goes _ _ _ _ _ _ _ (s₁.setTop (mkF m 70 _ [(.int v66)]))
    refine Goes.go (fun _ k => XS.bipush X0.here hx rfl (hb hby at_70) k) ?_
    show Goes _ _ _ _ _ _ _ (s₁.setTop (mkF m 72 _ [(.int (64 : Int32)), (.int v66)]))
    by_cases c72 : v66 = (64 : Int32)
    · skip
      refine Goes.go (fun _ k => XS.icmpNo X0.here hx rfl (hb hby at_72) rfl (XT.ii_ne_f c72) k) ?_
      show Goes _ _ _ _ _ _ _ (s₁.setTop (mkF m 75 _ []))
      refine Goes.go (fun _ k => X0.ldc2J hx (v := (-1 : Int64)) hown (mvT hZ (hw _ (List.mem_of_getElem? (i := 3) rfl))) rfl (hb hby at_75) k) ?_
      show Goes _ _ _ _ _ _ _ (s₁.setTop (mkF m 78 _ [(.long (-1 : Int64))]))
      refine Goes.go (fun _ k => XS.goto X0.here hx rfl (pc0 := 78) (pc' := 87) rfl (hb hby at_78) (by decide) (by decide) k) ?_
      show Goes _ _ _ _ _ _ _ (s₁.setTop (mkF m 87 _ [(.long (-1 : Int64))]))
      refine Goes.go (fun _ k => XS.lstore X0.here hx rfl (hb hby at_87) rfl (l' := #[.val (.int p0), .val (.int p1), .val (.long p2), .second, .val (.long p3), .second, .val (.long p4), .second, .val (.long p5), .second, .val (.int v6), .val (.long v15), .second, .val (.long v26), .second, .val (.long v47), .second, .val (.long v53), .second, .val (.int v66), .val (.long (-1 : Int64)), .second, .unset, .unset, .unset, .unset, .unset, .unset]) rfl k) ?_
      show Goes _ _ _ _ _ _ _ (s₁.setTop (mkF m 89 #[.val (.int p0), .val (.int p1), .val (.long p2), .second, .val (.long p3), .second, .val (.long p4), .second, .val (.long p5), .second, .val (.int v6), .val (.long v15), .second, .val (.long v26), .second, .val (.long v47), .second, .val (.long v53), .second, .val (.int v66), .val (.long (-1 : Int64)), .second, .unset, .unset, .unset, .unset, .unset, .unset] []))
      refine Goes.go (fun _ k => XS.lload X0.here hx rfl (hb hby at_89) rfl k) ?_
      show Goes _ _ _ _ _ _ _ (s₁.setTop (mkF m 91 _ [(.long p5)]))
      refine Goes.go (fun _ k => XS.lload X0.here hx rfl (hb hby at_91) rfl k) ?_
      show Goes _ _ _ _ _ _ _ (s₁.setTop (mkF m 93 _ [(.long (-1 : Int64)), (.long p5)]))
      refine Goes.go (fun _ k => XS.land X0.here hx rfl (hb hby at_93) rfl k) ?_
      show Goes _ _ _ _ _ _ _ (s₁.setTop (mkF m 94 _ [(.long (p5 &&& (-1 : Int64)))]))
      generalize hv94 : (p5 &&& (-1 : Int64)) = v94
      refine Goes.go (fun _ k => XS.lstore X0.here hx rfl (hb hby at_94) rfl (l' := #[.val (.int p0), .val (.int p1), .val (.long p2), .second, .val (.long p3), .second, .val (.long p4), .second, .val (.long p5), .second, .val (.int v6), .val (.long v15), .second, .val (.long v26), .second, .val (.long v47), .second, .val (.long v53), .second, .val (.int v66), .val (.long (-1 : Int64)), .second, .val (.long v94), .second, .unset, .unset, .unset, .unset]) rfl k) ?_
      show Goes _ _ _ _ _ _ _ (s₁.setTop (mkF m 96 #[.val (.int p0), .val (.int p1), .val (.long p2), .second, .val (.long p3), .second, .val (.long p4), .second, .val (.long p5), .second, .val (.int v6), .val (.long v15), .second, .val (.long v26), .second, .val (.long v47), .second, .val (.long v53), .second, .val (.int v66), .val (.long (-1 : Int64)), .second, .val (.long v94), .second, .unset, .unset, .unset, .unset] []))
      refine Goes.go (fun _ k => XS.iconst X0.here hx rfl (hb hby at_96) k) ?_
      show Goes _ _ _ _ _ _ _ (s₁.setTop (mkF m 97 _ [(.int (3 : Int32))]))
      obtain ⟨T1, h1, X1, e1, E1, A1, st1⟩ := own_newP X0 hx hZ (aty := .long) (hw _ (List.mem_of_getElem? (i := 4) rfl)) e0 (g := (mkF m 97 #[.val (.int p0), .val (.int p1), .val (.long p2), .second, .val (.long p3), .second, .val (.long p4), .second, .val (.long p5), .second, .val (.int v6), .val (.long v15), .second, .val (.long v26), .second, .val (.long v47), .second, .val (.long v53), .second, .val (.int v66), .val (.long (-1 : Int64)), .second, .val (.long v94), .second, .unset, .unset, .unset, .unset] [(.int (3 : Int32))])) rfl (hb hby at_97) rfl (n := (3 : Int32)) (by decide) (cap := 3) (by decide) (by decide) (by decide) (by decide)
      obtain ⟨ar97, gar97⟩ : ∃ z, z = h0.size := ⟨_, rfl⟩
      rw [← gar97] at A1 st1
      have Z1 : n0 ≤ h1.size := Nat.le_trans Z0 E1.1
      have ge_ar97 : n0 ≤ ar97 := Nat.le_trans Z0 (Nat.le_of_eq gar97.symm)
      have f : Arl Z h1 ar97 .long [(.long (0 : Int64)), (.long (0 : Int64)), (.long (0 : Int64))] := A1
      refine Goes.go (st1) ?_
      show Goes _ _ _ _ _ _ _ (T1.setTop (mkF m 99 _ [(.ref ar97)]))
      refine Goes.go (fun _ k => XS.astore X1.here hx rfl (hb hby at_99) rfl rfl (l' := #[.val (.int p0), .val (.int p1), .val (.long p2), .second, .val (.long p3), .second, .val (.long p4), .second, .val (.long p5), .second, .val (.int v6), .val (.long v15), .second, .val (.long v26), .second, .val (.long v47), .second, .val (.long v53), .second, .val (.int v66), .val (.long (-1 : Int64)), .second, .val (.long v94), .second, .val (.ref ar97), .unset, .unset, .unset]) rfl k) ?_
      show Goes _ _ _ _ _ _ _ (T1.setTop (mkF m 101 #[.val (.int p0), .val (.int p1), .val (.long p2), .second, .val (.long p3), .second, .val (.long p4), .second, .val (.long p5), .second, .val (.int v6), .val (.long v15), .second, .val (.long v26), .second, .val (.long v47), .second, .val (.long v53), .second, .val (.int v66), .val (.long (-1 : Int64)), .second, .val (.long v94), .second, .val (.ref ar97), .unset, .unset, .unset] []))
      refine Goes.go (fun _ k => XS.aload X1.here hx rfl (hb hby at_101) rfl rfl k) ?_
      show Goes _ _ _ _ _ _ _ (T1.setTop (mkF m 103 _ [(.ref ar97)]))
      refine Goes.go (fun _ k => XS.iconst X1.here hx rfl (hb hby at_103) k) ?_
      show Goes _ _ _ _ _ _ _ (T1.setTop (mkF m 104 _ [(.int (0 : Int32)), (.ref ar97)]))
      refine Goes.go (fun _ k => XS.lload X1.here hx rfl (hb hby at_104) rfl k) ?_
      show Goes _ _ _ _ _ _ _ (T1.setTop (mkF m 106 _ [(.long p3), (.int (0 : Int32)), (.ref ar97)]))
      obtain ⟨T2, h2, X2, e2, W2, A2, st2⟩ := own_stJ X1 hx hZ e1 f (j := (0 : Int32)) (x := p3) (by decide) (show (0 : Nat) < 3 by decide) (g := (mkF m 106 #[.val (.int p0), .val (.int p1), .val (.long p2), .second, .val (.long p3), .second, .val (.long p4), .second, .val (.long p5), .second, .val (.int v6), .val (.long v15), .second, .val (.long v26), .second, .val (.long v47), .second, .val (.long v53), .second, .val (.int v66), .val (.long (-1 : Int64)), .second, .val (.long v94), .second, .val (.ref ar97), .unset, .unset, .unset] [(.long p3), (.int (0 : Int32)), (.ref ar97)])) rfl rfl (hb hby at_106)
      have N2 := Fr.snoc X2 N0 ge_ar97
      have Z2 : n0 ≤ h2.size := by rw [W2.size]; exact Z1
      have f_1 : Arl Z h2 ar97 .long [(.long p3), (.long (0 : Int64)), (.long (0 : Int64))] := A2
      refine Goes.go (st2) ?_
      show Goes _ _ _ _ _ _ _ (T2.setTop (mkF m 107 _ []))
      refine Goes.go (fun _ k => XS.aload X2.here hx rfl (hb hby at_107) rfl rfl k) ?_
      show Goes _ _ _ _ _ _ _ (T2.setTop (mkF m 109 _ [(.ref ar97)]))
      refine Goes.go (fun _ k => XS.iconst X2.here hx rfl (hb hby at_109) k) ?_
      show Goes _ _ _ _ _ _ _ (T2.setTop (mkF m 110 _ [(.int (1 : Int32)), (.ref ar97)]))
      refine Goes.go (fun _ k => XS.lload X2.here hx rfl (hb hby at_110) rfl k) ?_
      show Goes _ _ _ _ _ _ _ (T2.setTop (mkF m 112 _ [(.long p4), (.int (1 : Int32)), (.ref ar97)]))
      obtain ⟨T3, h3, X3, e3, W3, A3, st3⟩ := own_stJ X2 hx hZ e2 f_1 (j := (1 : Int32)) (x := p4) (by decide) (show (1 : Nat) < 3 by decide) (g := (mkF m 112 #[.val (.int p0), .val (.int p1), .val (.long p2), .second, .val (.long p3), .second, .val (.long p4), .second, .val (.long p5), .second, .val (.int v6), .val (.long v15), .second, .val (.long v26), .second, .val (.long v47), .second, .val (.long v53), .second, .val (.int v66), .val (.long (-1 : Int64)), .second, .val (.long v94), .second, .val (.ref ar97), .unset, .unset, .unset] [(.long p4), (.int (1 : Int32)), (.ref ar97)])) rfl rfl (hb hby at_112)
      have N3 := Fr.snoc X3 N2 ge_ar97
      have Z3 : n0 ≤ h3.size := by rw [W3.size]; exact Z2
      have f_2 : Arl Z h3 ar97 .long [(.long p3), (.long p4), (.long (0 : Int64))] := A3
      refine Goes.go (st3) ?_
      show Goes _ _ _ _ _ _ _ (T3.setTop (mkF m 113 _ []))
      refine Goes.go (fun _ k => XS.aload X3.here hx rfl (hb hby at_113) rfl rfl k) ?_
      show Goes _ _ _ _ _ _ _ (T3.setTop (mkF m 115 _ [(.ref ar97)]))
      refine Goes.go (fun _ k => XS.iconst X3.here hx rfl (hb hby at_115) k) ?_
      show Goes _ _ _ _ _ _ _ (T3.setTop (mkF m 116 _ [(.int (2 : Int32)), (.ref ar97)]))
      refine Goes.go (fun _ k => XS.lload X3.here hx rfl (hb hby at_116) rfl k) ?_
      show Goes _ _ _ _ _ _ _ (T3.setTop (mkF m 118 _ [(.long v94), (.int (2 : Int32)), (.ref ar97)]))
      obtain ⟨T4, h4, X4, e4, W4, A4, st4⟩ := own_stJ X3 hx hZ e3 f_2 (j := (2 : Int32)) (x := v94) (by decide) (show (2 : Nat) < 3 by decide) (g := (mkF m 118 #[.val (.int p0), .val (.int p1), .val (.long p2), .second, .val (.long p3), .second, .val (.long p4), .second, .val (.long p5), .second, .val (.int v6), .val (.long v15), .second, .val (.long v26), .second, .val (.long v47), .second, .val (.long v53), .second, .val (.int v66), .val (.long (-1 : Int64)), .second, .val (.long v94), .second, .val (.ref ar97), .unset, .unset, .unset] [(.long v94), (.int (2 : Int32)), (.ref ar97)])) rfl rfl (hb hby at_118)
      have N4 := Fr.snoc X4 N3 ge_ar97
      have Z4 : n0 ≤ h4.size := by rw [W4.size]; exact Z3
      have f_3 : Arl Z h4 ar97 .long [(.long p3), (.long p4), (.long v94)] := A4
      refine Goes.go (st4) ?_
      show Goes _ _ _ _ _ _ _ (T4.setTop (mkF m 119 _ []))
      obtain ⟨T5, h5, X5, e5, E5, A5, D5, -, st5⟩ := newO X4 hx hZ hown (hw _ (List.mem_of_getElem? (i := 5) rfl)) (hw _ (List.mem_of_getElem? (i := 6) rfl)) (hw _ (List.mem_of_getElem? (i := 7) rfl)) e4 (g := (mkF m 119 #[.val (.int p0), .val (.int p1), .val (.long p2), .second, .val (.long p3), .second, .val (.long p4), .second, .val (.long p5), .second, .val (.int v6), .val (.long v15), .second, .val (.long v26), .second, .val (.long v47), .second, .val (.long v53), .second, .val (.int v66), .val (.long (-1 : Int64)), .second, .val (.long v94), .second, .val (.ref ar97), .unset, .unset, .unset] [])) rfl (hb hby at_119) (by decide) (by decide)
      obtain ⟨ob119, gob119⟩ : ∃ z, z = h4.size := ⟨_, rfl⟩
      rw [← gob119] at A5 D5 st5
      have ne_ar97_ob119 : ar97 ≠ ob119 := by rw [gob119]; exact Nat.ne_of_lt f_3.lt
      have f_4 := f_3.ext E5
      have Z5 : n0 ≤ h5.size := Nat.le_trans Z4 E5.1
      have ge_ob119 : n0 ≤ ob119 := Nat.le_trans Z4 (Nat.le_of_eq gob119.symm)
      have f_5 : Fld Z h5 ob119 "com/example/galdict/galdict/model/PackedArray" "length" "J" (.long (0 : Int64)) := D5 (Or.inr (hw _ (List.mem_of_getElem? (i := 15) rfl))) (ty := .long) (by decide)
      have f_6 : Fld Z h5 ob119 "com/example/galdict/galdict/model/PackedArray" "width" "I" (.int (0 : Int32)) := D5 (Or.inr (hw _ (List.mem_of_getElem? (i := 17) rfl))) (ty := .int) (by decide)
      have f_7 : Fld Z h5 ob119 "com/example/galdict/galdict/model/PackedArray" "mask" "J" (.long (0 : Int64)) := D5 (Or.inr (hw _ (List.mem_of_getElem? (i := 20) rfl))) (ty := .long) (by decide)
      have f_8 : Fld Z h5 ob119 "com/example/galdict/galdict/model/PackedArray" "words" "[J" .null := D5 (Or.inr (hw _ (List.mem_of_getElem? (i := 22) rfl))) (ty := (.array .long)) (by decide)
      refine Goes.go (st5) ?_
      show Goes _ _ _ _ _ _ _ (T5.setTop (mkF m 122 _ [(.ref ob119)]))
      refine Goes.go (fun _ k => XS.dup X5.here hx rfl (hb hby at_122) rfl rfl k) ?_
      show Goes _ _ _ _ _ _ _ (T5.setTop (mkF m 123 _ [(.ref ob119), (.ref ob119)]))
      refine Goes.go (fun _ k => XS.lload X5.here hx rfl (hb hby at_123) rfl k) ?_
      show Goes _ _ _ _ _ _ _ (T5.setTop (mkF m 125 _ [(.long v15), (.ref ob119), (.ref ob119)]))
      refine Goes.go (fun _ k => XS.iload X5.here hx rfl (hb hby at_125) rfl k) ?_
      show Goes _ _ _ _ _ _ _ (T5.setTop (mkF m 127 _ [(.int v6), (.long v15), (.ref ob119), (.ref ob119)]))
      refine Goes.go (fun _ k => XS.aload X5.here hx rfl (hb hby at_127) rfl rfl k) ?_
      show Goes _ _ _ _ _ _ _ (T5.setTop (mkF m 129 _ [(.ref ar97), (.int v6), (.long v15), (.ref ob119), (.ref ob119)]))
      obtain ⟨_, _, ⟨T6, L6, k6, n6⟩, -, X6, ⟨Lc6, hQ6, l6, y6, z6⟩, st6⟩ := X5.specialBack hx (y := (⟨"com/example/galdict/galdict/model/PackedArray", "<init>", "(JI[J)V"⟩ : MethodName)) rfl hown (mvT hZ (hw _ (List.mem_of_getElem? (i := 8) rfl))) (mvT hZ (hw _ (List.mem_of_getElem? (i := 9) rfl))) (mvT hZ (hw _ (List.mem_of_getElem? (i := 10) rfl))) (by decide) (backOf (W := 1) (rm1 l Z a0 hw [] ob119 v15 v6 ar97 h5 n0 Z5 A5 f_5 f_6 f_7 f_8 ge_ob119) hZ (hw _ (List.mem_of_getElem? (i := 10) rfl)) (hw _ (List.mem_of_getElem? (i := 7) rfl)) (by decide) (by decide)) (g := (mkF m 129 #[.val (.int p0), .val (.int p1), .val (.long p2), .second, .val (.long p3), .second, .val (.long p4), .second, .val (.long p5), .second, .val (.int v6), .val (.long v15), .second, .val (.long v26), .second, .val (.long v47), .second, .val (.long v53), .second, .val (.int v66), .val (.long (-1 : Int64)), .second, .val (.long v94), .second, .val (.ref ar97), .unset, .unset, .unset] [(.ref ar97), (.int v6), (.long v15), (.ref ob119), (.ref ob119)])) rfl (by rw [hml]; rfl) (Steps.refl _) (a := ob119) (argsL := [(.long v15), (.int v6), (.ref ar97)]) (rest := [(.ref ob119)]) (lenOf pd0 rfl) rfl (by show 2 * 0 + _ ≤ _; exact Nat.le_of_eq rfl) (hb hby at_129) (fun _ _ => ⟨rfl, e5, (by decide : 2 + 0 ≤ _), (by decide : 7 + 0 ≤ _)⟩)
      dsimp only [Pt.U, Pt.locs, Pt.cells, Pt.slots] at X6 l6 y6 z6 st6 hQ6
      subst l6 y6 z6
      obtain ⟨rfl, Nq6, Kq6, Eq6, Fq6_0, Fq6_1, Fq6_2, Fq6_3⟩ := hQ6
      have N6 := Fr.app N4 Nq6
      have Z6 : n0 ≤ T6.heap.size := Nat.le_trans Z5 Kq6.1
      have f_9 := Arl.keep f_4 Kq6 (ninS ne_ar97_ob119 nin0)
      refine Goes.go (fun _ k => st6.trans k) ?_
      show Goes _ _ _ _ _ _ _ (T6.setTop (mkF m 132 _ [(.ref ob119)]))
      refine Goes.go (fun _ k => XS.astore X6.here hx rfl (hb hby at_132) rfl rfl (l' := #[.val (.int p0), .val (.int p1), .val (.long p2), .second, .val (.long p3), .second, .val (.long p4), .second, .val (.long p5), .second, .val (.int v6), .val (.long v15), .second, .val (.long v26), .second, .val (.long v47), .second, .val (.long v53), .second, .val (.int v66), .val (.long (-1 : Int64)), .second, .val (.long v94), .second, .val (.ref ar97), .val (.ref ob119), .unset, .unset]) rfl k) ?_
      show Goes _ _ _ _ _ _ _ (T6.setTop (mkF m 134 #[.val (.int p0), .val (.int p1), .val (.long p2), .second, .val (.long p3), .second, .val (.long p4), .second, .val (.long p5), .second, .val (.int v6), .val (.long v15), .second, .val (.long v26), .second, .val (.long v47), .second, .val (.long v53), .second, .val (.int v66), .val (.long (-1 : Int64)), .second, .val (.long v94), .second, .val (.ref ar97), .val (.ref ob119), .unset, .unset] []))
      refine Goes.go (fun _ k => XS.aload X6.here hx rfl (hb hby at_134) rfl rfl k) ?_
      show Goes _ _ _ _ _ _ _ (T6.setTop (mkF m 136 _ [(.ref ob119)]))
      refine Goes.go (fun _ k => XS.lload X6.here hx rfl (hb hby at_136) rfl k) ?_
      show Goes _ _ _ _ _ _ _ (T6.setTop (mkF m 138 _ [(.long v26), (.ref ob119)]))
      refine Goes.go (fun _ k => XS.lload X6.here hx rfl (hb hby at_138) rfl k) ?_
      show Goes _ _ _ _ _ _ _ (T6.setTop (mkF m 140 _ [(.long v53), (.long v26), (.ref ob119)]))
      obtain ⟨cq7, kq7, qa7, qb7, qc7⟩ := isOf hZ rfl Eq6
      obtain ⟨_, _, ⟨T7, L7, k7, n7⟩, -, X7, ⟨Lc7, hQ7, l7, y7, z7⟩, st7⟩ := X6.virtualBack hx (y := (⟨"com/example/galdict/galdict/model/PackedArray", "set", "(JJ)V"⟩ : MethodName)) (z := (⟨"com/example/galdict/galdict/model/PackedArray", "set", "(JJ)V"⟩ : MethodName)) hown (mvT hZ (hw _ (List.mem_of_getElem? (i := 23) rfl))) (mvT hZ (hw _ (List.mem_of_getElem? (i := 24) rfl))) (notFace_of_selects (args := #[]) (mvT hZ (hw _ (List.mem_of_getElem? (i := 26) rfl)))) (mvT hZ (hw _ (List.mem_of_getElem? (i := 26) rfl))) (mvT hZ (hw _ (List.mem_of_getElem? (i := 25) rfl))) (by decide) (backOf (W := 0) (rm2 l Z a0 hw [] ob119 v26 v53 v6 (((-1 : Int64)).toUInt64 >>> (((64 : Int32) - v6) &&& 0x3f).toInt64.toUInt64).toInt64 ar97 _ (wAt p3 p4 v94 (i * w' / 64)) (wAt p3 p4 v94 (i * w' / 64 + 1)) T6.heap n0 Z6 Fq6_1 Fq6_2 Fq6_3 f_9 ne_ar97_ob119.symm ge_ar97 (own_q1 hm (by omega)) (own_q2 (f := Value.long) hm (by omega)) (own_q3 (f := Value.long) hm hw1 hw2 hw3 hm2)) hZ (hw _ (List.mem_of_getElem? (i := 27) rfl)) (hw _ (List.mem_of_getElem? (i := 7) rfl)) (by decide) (by decide)) qa7 qc7 (g := (mkF m 140 #[.val (.int p0), .val (.int p1), .val (.long p2), .second, .val (.long p3), .second, .val (.long p4), .second, .val (.long p5), .second, .val (.int v6), .val (.long v15), .second, .val (.long v26), .second, .val (.long v47), .second, .val (.long v53), .second, .val (.int v66), .val (.long (-1 : Int64)), .second, .val (.long v94), .second, .val (.ref ar97), .val (.ref ob119), .unset, .unset] [(.long v53), (.long v26), (.ref ob119)])) rfl (by rw [hml]; rfl) (Steps.refl _) (argsL := [(.long v26), (.long v53)]) (rest := []) (lenOf pd2 rfl) rfl (by show 2 * 0 + _ ≤ _; exact Nat.le_of_eq rfl) (hb hby at_140) (fun _ _ => ⟨rfl, rfl, (by decide : 2 + 0 ≤ _), (by decide : 7 + 0 ≤ _)⟩)
      dsimp only [Pt.U, Pt.locs, Pt.cells, Pt.slots] at X7 l7 y7 z7 st7 hQ7
      subst l7 y7 z7
      obtain ⟨rfl, Nq7, Kq7, Aq7⟩ := hQ7
      have N7 := Fr.app N6 Nq7
      have Z7 : n0 ≤ T7.heap.size := Nat.le_trans Z6 Kq7.1
      have f_10 := Exa.keep Eq6 Kq7
      have f_11 := Fld.keep Fq6_0 Kq7 (ninS ne_ar97_ob119.symm nin0)
      have f_12 := Fld.keep Fq6_1 Kq7 (ninS ne_ar97_ob119.symm nin0)
      have f_13 := Fld.keep Fq6_2 Kq7 (ninS ne_ar97_ob119.symm nin0)
      have f_14 := Fld.keep Fq6_3 Kq7 (ninS ne_ar97_ob119.symm nin0)
      refine Goes.go (fun _ k => st7.trans k) ?_
      show Goes _ _ _ _ _ _ _ (T7.setTop (mkF m 143 _ []))
      refine Goes.go (fun _ k => XS.lload X7.here hx rfl (hb hby at_143) rfl k) ?_
      show Goes _ _ _ _ _ _ _ (T7.setTop (mkF m 145 _ [(.long v26)]))
      refine Goes.go (fun _ k => XS.iload X7.here hx rfl (hb hby at_145) rfl k) ?_
      show Goes _ _ _ _ _ _ _ (T7.setTop (mkF m 147 _ [(.int v6), (.long v26)]))
      refine Goes.go (fun _ k => XS.i2l X7.here hx rfl (hb hby at_147) rfl k) ?_
      show Goes _ _ _ _ _ _ _ (T7.setTop (mkF m 148 _ [(.long (v6).toInt64), (.long v26)]))
      refine Goes.go (fun _ k => XS.lmul X7.here hx rfl (hb hby at_148) rfl k) ?_
      show Goes _ _ _ _ _ _ _ (T7.setTop (mkF m 149 _ [(.long (v26 * (v6).toInt64))]))
      generalize hv149 : (v26 * (v6).toInt64) = v149
      refine Goes.go (fun _ k => XS.lstore X7.here hx rfl (hb hby at_149) rfl (l' := #[.val (.int p0), .val (.int p1), .val (.long p2), .second, .val (.long p3), .second, .val (.long p4), .second, .val (.long p5), .second, .val (.int v6), .val (.long v15), .second, .val (.long v26), .second, .val (.long v47), .second, .val (.long v53), .second, .val (.int v66), .val (.long (-1 : Int64)), .second, .val (.long v94), .second, .val (.ref ar97), .val (.ref ob119), .val (.long v149), .second]) rfl k) ?_
      show Goes _ _ _ _ _ _ _ (T7.setTop (mkF m 151 #[.val (.int p0), .val (.int p1), .val (.long p2), .second, .val (.long p3), .second, .val (.long p4), .second, .val (.long p5), .second, .val (.int v6), .val (.long v15), .second, .val (.long v26), .second, .val (.long v47), .second, .val (.long v53), .second, .val (.int v66), .val (.long (-1 : Int64)), .second, .val (.long v94), .second, .val (.ref ar97), .val (.ref ob119), .val (.long v149), .second] []))
      refine Goes.go (fun _ k => XS.aload X7.here hx rfl (hb hby at_151) rfl rfl k) ?_
      show Goes _ _ _ _ _ _ _ (T7.setTop (mkF m 153 _ [(.ref ar97)]))
      refine Goes.go (fun _ k => XS.iconst X7.here hx rfl (hb hby at_153) k) ?_
      show Goes _ _ _ _ _ _ _ (T7.setTop (mkF m 154 _ [(.int (0 : Int32)), (.ref ar97)]))
      refine Goes.go (own_ldJ X7 hx hZ rfl Aq7 (j := (0 : Int32)) (v := (.long (nwF p3 p4 v94 v26 v53 v6 (((-1 : Int64)).toUInt64 >>> (((64 : Int32) - v6) &&& 0x3f).toInt64.toUInt64).toInt64 (i * w') 0))) (by decide) (sv_at (f := Value.long) (j := 0) hm hw1 hw2 hw3 hm2 (by decide)) rfl rfl (hb hby at_154)) ?_
      show Goes _ _ _ _ _ _ _ (T7.setTop (mkF m 155 _ [(.long (nwF p3 p4 v94 v26 v53 v6 (((-1 : Int64)).toUInt64 >>> (((64 : Int32) - v6) &&& 0x3f).toInt64.toUInt64).toInt64 (i * w') 0))]))
      refine Goes.go (fun _ k => XS.lload X7.here hx rfl (hb hby at_155) rfl k) ?_
      show Goes _ _ _ _ _ _ _ (T7.setTop (mkF m 157 _ [(.long p3), (.long (nwF p3 p4 v94 v26 v53 v6 (((-1 : Int64)).toUInt64 >>> (((64 : Int32) - v6) &&& 0x3f).toInt64.toUInt64).toInt64 (i * w') 0))]))
      refine Goes.go (fun _ k => XS.iconst X7.here hx rfl (hb hby at_157) k) ?_
      show Goes _ _ _ _ _ _ _ (T7.setTop (mkF m 158 _ [(.int (0 : Int32)), (.long p3), (.long (nwF p3 p4 v94 v26 v53 v6 (((-1 : Int64)).toUInt64 >>> (((64 : Int32) - v6) &&& 0x3f).toInt64.toUInt64).toInt64 (i * w') 0))]))
      refine Goes.go (fun _ k => XS.lload X7.here hx rfl (hb hby at_158) rfl k) ?_
      show Goes _ _ _ _ _ _ _ (T7.setTop (mkF m 160 _ [(.long v149), (.int (0 : Int32)), (.long p3), (.long (nwF p3 p4 v94 v26 v53 v6 (((-1 : Int64)).toUInt64 >>> (((64 : Int32) - v6) &&& 0x3f).toInt64.toUInt64).toInt64 (i * w') 0))]))
      refine Goes.go (fun _ k => XS.iload X7.here hx rfl (hb hby at_160) rfl k) ?_
      show Goes _ _ _ _ _ _ _ (T7.setTop (mkF m 162 _ [(.int v6), (.long v149), (.int (0 : Int32)), (.long p3), (.long (nwF p3 p4 v94 v26 v53 v6 (((-1 : Int64)).toUInt64 >>> (((64 : Int32) - v6) &&& 0x3f).toInt64.toUInt64).toInt64 (i * w') 0))]))
      refine Goes.go (fun _ k => XS.lload X7.here hx rfl (hb hby at_162) rfl k) ?_
      show Goes _ _ _ _ _ _ _ (T7.setTop (mkF m 164 _ [(.long v53), (.int v6), (.long v149), (.int (0 : Int32)), (.long p3), (.long (nwF p3 p4 v94 v26 v53 v6 (((-1 : Int64)).toUInt64 >>> (((64 : Int32) - v6) &&& 0x3f).toInt64.toUInt64).toInt64 (i * w') 0))]))
      obtain ⟨_, _, ⟨T8, L8, k8, n8⟩, -, X8, ⟨Lc8, hQ8, l8, y8, z8⟩, st8⟩ := Jvm.LawKit.callS X7 hx (y := (⟨"com/example/galdict/galdict/model/PackedArraySetPinLaw", "expect", "(JIJIJ)J"⟩ : MethodName)) hown (mvT hZ (hw _ (List.mem_of_getElem? (i := 28) rfl))) (mvT hZ (hw _ (List.mem_of_getElem? (i := 29) rfl))) (mvT hZ (hw _ (List.mem_of_getElem? (i := 30) rfl))) (mvT hZ (hw _ (List.mem_of_getElem? (i := 31) rfl))) (by decide) (backOf (W := 2) (rm3 l Z a0 hw [] p3 (0 : Int32) v149 v6 v53 T7.heap n0 Z7) hZ (hw _ (List.mem_of_getElem? (i := 31) rfl)) (hw _ (List.mem_of_getElem? (i := 30) rfl)) (by decide) (by decide)) (g := (mkF m 164 #[.val (.int p0), .val (.int p1), .val (.long p2), .second, .val (.long p3), .second, .val (.long p4), .second, .val (.long p5), .second, .val (.int v6), .val (.long v15), .second, .val (.long v26), .second, .val (.long v47), .second, .val (.long v53), .second, .val (.int v66), .val (.long (-1 : Int64)), .second, .val (.long v94), .second, .val (.ref ar97), .val (.ref ob119), .val (.long v149), .second] [(.long v53), (.int v6), (.long v149), (.int (0 : Int32)), (.long p3), (.long (nwF p3 p4 v94 v26 v53 v6 (((-1 : Int64)).toUInt64 >>> (((64 : Int32) - v6) &&& 0x3f).toInt64.toUInt64).toInt64 (i * w') 0))])) rfl (by rw [hml]; rfl) (argsL := [(.long p3), (.int (0 : Int32)), (.long v149), (.int v6), (.long v53)]) (rest := [(.long (nwF p3 p4 v94 v26 v53 v6 (((-1 : Int64)).toUInt64 >>> (((64 : Int32) - v6) &&& 0x3f).toInt64.toUInt64).toInt64 (i * w') 0))]) (lenOf pd3 rfl) rfl (by show 2 * 0 + _ ≤ _; exact Nat.le_of_eq rfl) (hb hby at_164) (fun _ _ => ⟨rfl, rfl, (by decide : 2 + 0 ≤ _), (by decide : 7 + 0 ≤ _)⟩)
      dsimp only [Pt.U, Pt.locs, Pt.cells, Pt.slots] at X8 l8 y8 z8 st8 hQ8
      subst l8 y8 z8
      obtain ⟨rfl, Nq8, hh8⟩ := hQ8
      have N8 := Fr.app N7 Nq8
      refine Goes.go (st8) ?_
      show Goes _ _ _ _ _ _ _ (T8.setTop (mkF m 167 _ [(.long (exF p3 (0 : Int32) v149 v6 v53)), (.long (nwF p3 p4 v94 v26 v53 v6 (((-1 : Int64)).toUInt64 >>> (((64 : Int32) - v6) &&& 0x3f).toInt64.toUInt64).toInt64 (i * w') 0))]))
      refine Goes.go (fun _ k => XT.lcmp X8.here hx rfl (hb hby at_167) rfl k) ?_
      show Goes _ _ _ _ _ _ _ (T8.setTop (mkF m 168 _ [(.int (XT.cmpL (nwF p3 p4 v94 v26 v53 v6 (((-1 : Int64)).toUInt64 >>> (((64 : Int32) - v6) &&& 0x3f).toInt64.toUInt64).toInt64 (i * w') 0) (exF p3 (0 : Int32) v149 v6 v53)))]))
      refine Goes.go (fun _ k => XS.ifNo X8.here hx rfl (hb hby at_168) rfl (XT.ll_ne_f (own_eq 0 rfl (by decide) (by decide) hm hv149 hw1 hw2 hw3 hm2 hvb)) k) ?_
      show Goes _ _ _ _ _ _ _ (T8.setTop (mkF m 171 _ []))
      refine Goes.go (fun _ k => XS.aload X8.here hx rfl (hb hby at_171) rfl rfl k) ?_
      show Goes _ _ _ _ _ _ _ (T8.setTop (mkF m 173 _ [(.ref ar97)]))
      refine Goes.go (fun _ k => XS.iconst X8.here hx rfl (hb hby at_173) k) ?_
      show Goes _ _ _ _ _ _ _ (T8.setTop (mkF m 174 _ [(.int (1 : Int32)), (.ref ar97)]))
      refine Goes.go (own_ldJ X8 hx hZ hh8 Aq7 (j := (1 : Int32)) (v := (.long (nwF p3 p4 v94 v26 v53 v6 (((-1 : Int64)).toUInt64 >>> (((64 : Int32) - v6) &&& 0x3f).toInt64.toUInt64).toInt64 (i * w') 1))) (by decide) (sv_at (f := Value.long) (j := 1) hm hw1 hw2 hw3 hm2 (by decide)) rfl rfl (hb hby at_174)) ?_
      show Goes _ _ _ _ _ _ _ (T8.setTop (mkF m 175 _ [(.long (nwF p3 p4 v94 v26 v53 v6 (((-1 : Int64)).toUInt64 >>> (((64 : Int32) - v6) &&& 0x3f).toInt64.toUInt64).toInt64 (i * w') 1))]))
      refine Goes.go (fun _ k => XS.lload X8.here hx rfl (hb hby at_175) rfl k) ?_
      show Goes _ _ _ _ _ _ _ (T8.setTop (mkF m 177 _ [(.long p4), (.long (nwF p3 p4 v94 v26 v53 v6 (((-1 : Int64)).toUInt64 >>> (((64 : Int32) - v6) &&& 0x3f).toInt64.toUInt64).toInt64 (i * w') 1))]))
      refine Goes.go (fun _ k => XS.iconst X8.here hx rfl (hb hby at_177) k) ?_
      show Goes _ _ _ _ _ _ _ (T8.setTop (mkF m 178 _ [(.int (1 : Int32)), (.long p4), (.long (nwF p3 p4 v94 v26 v53 v6 (((-1 : Int64)).toUInt64 >>> (((64 : Int32) - v6) &&& 0x3f).toInt64.toUInt64).toInt64 (i * w') 1))]))
      refine Goes.go (fun _ k => XS.lload X8.here hx rfl (hb hby at_178) rfl k) ?_
      show Goes _ _ _ _ _ _ _ (T8.setTop (mkF m 180 _ [(.long v149), (.int (1 : Int32)), (.long p4), (.long (nwF p3 p4 v94 v26 v53 v6 (((-1 : Int64)).toUInt64 >>> (((64 : Int32) - v6) &&& 0x3f).toInt64.toUInt64).toInt64 (i * w') 1))]))
      refine Goes.go (fun _ k => XS.iload X8.here hx rfl (hb hby at_180) rfl k) ?_
      show Goes _ _ _ _ _ _ _ (T8.setTop (mkF m 182 _ [(.int v6), (.long v149), (.int (1 : Int32)), (.long p4), (.long (nwF p3 p4 v94 v26 v53 v6 (((-1 : Int64)).toUInt64 >>> (((64 : Int32) - v6) &&& 0x3f).toInt64.toUInt64).toInt64 (i * w') 1))]))
      refine Goes.go (fun _ k => XS.lload X8.here hx rfl (hb hby at_182) rfl k) ?_
      show Goes _ _ _ _ _ _ _ (T8.setTop (mkF m 184 _ [(.long v53), (.int v6), (.long v149), (.int (1 : Int32)), (.long p4), (.long (nwF p3 p4 v94 v26 v53 v6 (((-1 : Int64)).toUInt64 >>> (((64 : Int32) - v6) &&& 0x3f).toInt64.toUInt64).toInt64 (i * w') 1))]))
      obtain ⟨_, _, ⟨T9, L9, k9, n9⟩, -, X9, ⟨Lc9, hQ9, l9, y9, z9⟩, st9⟩ := Jvm.LawKit.callS X8 hx (y := (⟨"com/example/galdict/galdict/model/PackedArraySetPinLaw", "expect", "(JIJIJ)J"⟩ : MethodName)) hown (mvT hZ (hw _ (List.mem_of_getElem? (i := 28) rfl))) (mvT hZ (hw _ (List.mem_of_getElem? (i := 29) rfl))) (mvT hZ (hw _ (List.mem_of_getElem? (i := 30) rfl))) (mvT hZ (hw _ (List.mem_of_getElem? (i := 31) rfl))) (by decide) (backOf (W := 2) (rm3 l Z a0 hw [] p4 (1 : Int32) v149 v6 v53 T7.heap n0 Z7) hZ (hw _ (List.mem_of_getElem? (i := 31) rfl)) (hw _ (List.mem_of_getElem? (i := 30) rfl)) (by decide) (by decide)) (g := (mkF m 184 #[.val (.int p0), .val (.int p1), .val (.long p2), .second, .val (.long p3), .second, .val (.long p4), .second, .val (.long p5), .second, .val (.int v6), .val (.long v15), .second, .val (.long v26), .second, .val (.long v47), .second, .val (.long v53), .second, .val (.int v66), .val (.long (-1 : Int64)), .second, .val (.long v94), .second, .val (.ref ar97), .val (.ref ob119), .val (.long v149), .second] [(.long v53), (.int v6), (.long v149), (.int (1 : Int32)), (.long p4), (.long (nwF p3 p4 v94 v26 v53 v6 (((-1 : Int64)).toUInt64 >>> (((64 : Int32) - v6) &&& 0x3f).toInt64.toUInt64).toInt64 (i * w') 1))])) rfl (by rw [hml]; rfl) (argsL := [(.long p4), (.int (1 : Int32)), (.long v149), (.int v6), (.long v53)]) (rest := [(.long (nwF p3 p4 v94 v26 v53 v6 (((-1 : Int64)).toUInt64 >>> (((64 : Int32) - v6) &&& 0x3f).toInt64.toUInt64).toInt64 (i * w') 1))]) (lenOf pd3 rfl) rfl (by show 2 * 0 + _ ≤ _; exact Nat.le_of_eq rfl) (hb hby at_184) (fun _ _ => ⟨rfl, hh8, (by decide : 2 + 0 ≤ _), (by decide : 7 + 0 ≤ _)⟩)
      dsimp only [Pt.U, Pt.locs, Pt.cells, Pt.slots] at X9 l9 y9 z9 st9 hQ9
      subst l9 y9 z9
      obtain ⟨rfl, Nq9, hh9⟩ := hQ9
      have N9 := Fr.app N8 Nq9
      refine Goes.go (st9) ?_
      show Goes _ _ _ _ _ _ _ (T9.setTop (mkF m 187 _ [(.long (exF p4 (1 : Int32) v149 v6 v53)), (.long (nwF p3 p4 v94 v26 v53 v6 (((-1 : Int64)).toUInt64 >>> (((64 : Int32) - v6) &&& 0x3f).toInt64.toUInt64).toInt64 (i * w') 1))]))
      refine Goes.go (fun _ k => XT.lcmp X9.here hx rfl (hb hby at_187) rfl k) ?_
      show Goes _ _ _ _ _ _ _ (T9.setTop (mkF m 188 _ [(.int (XT.cmpL (nwF p3 p4 v94 v26 v53 v6 (((-1 : Int64)).toUInt64 >>> (((64 : Int32) - v6) &&& 0x3f).toInt64.toUInt64).toInt64 (i * w') 1) (exF p4 (1 : Int32) v149 v6 v53)))]))
      refine Goes.go (fun _ k => XS.ifNo X9.here hx rfl (hb hby at_188) rfl (XT.ll_ne_f (own_eq 1 rfl (by decide) (by decide) hm hv149 hw1 hw2 hw3 hm2 hvb)) k) ?_
      show Goes _ _ _ _ _ _ _ (T9.setTop (mkF m 191 _ []))
      refine Goes.go (fun _ k => XS.aload X9.here hx rfl (hb hby at_191) rfl rfl k) ?_
      show Goes _ _ _ _ _ _ _ (T9.setTop (mkF m 193 _ [(.ref ar97)]))
      refine Goes.go (fun _ k => XS.iconst X9.here hx rfl (hb hby at_193) k) ?_
      show Goes _ _ _ _ _ _ _ (T9.setTop (mkF m 194 _ [(.int (2 : Int32)), (.ref ar97)]))
      refine Goes.go (own_ldJ X9 hx hZ hh9 Aq7 (j := (2 : Int32)) (v := (.long (nwF p3 p4 v94 v26 v53 v6 (((-1 : Int64)).toUInt64 >>> (((64 : Int32) - v6) &&& 0x3f).toInt64.toUInt64).toInt64 (i * w') 2))) (by decide) (sv_at (f := Value.long) (j := 2) hm hw1 hw2 hw3 hm2 (by decide)) rfl rfl (hb hby at_194)) ?_
      show Goes _ _ _ _ _ _ _ (T9.setTop (mkF m 195 _ [(.long (nwF p3 p4 v94 v26 v53 v6 (((-1 : Int64)).toUInt64 >>> (((64 : Int32) - v6) &&& 0x3f).toInt64.toUInt64).toInt64 (i * w') 2))]))
      refine Goes.go (fun _ k => XS.lload X9.here hx rfl (hb hby at_195) rfl k) ?_
      show Goes _ _ _ _ _ _ _ (T9.setTop (mkF m 197 _ [(.long v94), (.long (nwF p3 p4 v94 v26 v53 v6 (((-1 : Int64)).toUInt64 >>> (((64 : Int32) - v6) &&& 0x3f).toInt64.toUInt64).toInt64 (i * w') 2))]))
      refine Goes.go (fun _ k => XS.iconst X9.here hx rfl (hb hby at_197) k) ?_
      show Goes _ _ _ _ _ _ _ (T9.setTop (mkF m 198 _ [(.int (2 : Int32)), (.long v94), (.long (nwF p3 p4 v94 v26 v53 v6 (((-1 : Int64)).toUInt64 >>> (((64 : Int32) - v6) &&& 0x3f).toInt64.toUInt64).toInt64 (i * w') 2))]))
      refine Goes.go (fun _ k => XS.lload X9.here hx rfl (hb hby at_198) rfl k) ?_
      show Goes _ _ _ _ _ _ _ (T9.setTop (mkF m 200 _ [(.long v149), (.int (2 : Int32)), (.long v94), (.long (nwF p3 p4 v94 v26 v53 v6 (((-1 : Int64)).toUInt64 >>> (((64 : Int32) - v6) &&& 0x3f).toInt64.toUInt64).toInt64 (i * w') 2))]))
      refine Goes.go (fun _ k => XS.iload X9.here hx rfl (hb hby at_200) rfl k) ?_
      show Goes _ _ _ _ _ _ _ (T9.setTop (mkF m 202 _ [(.int v6), (.long v149), (.int (2 : Int32)), (.long v94), (.long (nwF p3 p4 v94 v26 v53 v6 (((-1 : Int64)).toUInt64 >>> (((64 : Int32) - v6) &&& 0x3f).toInt64.toUInt64).toInt64 (i * w') 2))]))
      refine Goes.go (fun _ k => XS.lload X9.here hx rfl (hb hby at_202) rfl k) ?_
      show Goes _ _ _ _ _ _ _ (T9.setTop (mkF m 204 _ [(.long v53), (.int v6), (.long v149), (.int (2 : Int32)), (.long v94), (.long (nwF p3 p4 v94 v26 v53 v6 (((-1 : Int64)).toUInt64 >>> (((64 : Int32) - v6) &&& 0x3f).toInt64.toUInt64).toInt64 (i * w') 2))]))
      obtain ⟨_, _, ⟨T10, L10, k10, n10⟩, -, X10, ⟨Lc10, hQ10, l10, y10, z10⟩, st10⟩ := Jvm.LawKit.callS X9 hx (y := (⟨"com/example/galdict/galdict/model/PackedArraySetPinLaw", "expect", "(JIJIJ)J"⟩ : MethodName)) hown (mvT hZ (hw _ (List.mem_of_getElem? (i := 28) rfl))) (mvT hZ (hw _ (List.mem_of_getElem? (i := 29) rfl))) (mvT hZ (hw _ (List.mem_of_getElem? (i := 30) rfl))) (mvT hZ (hw _ (List.mem_of_getElem? (i := 31) rfl))) (by decide) (backOf (W := 2) (rm3 l Z a0 hw [] v94 (2 : Int32) v149 v6 v53 T7.heap n0 Z7) hZ (hw _ (List.mem_of_getElem? (i := 31) rfl)) (hw _ (List.mem_of_getElem? (i := 30) rfl)) (by decide) (by decide)) (g := (mkF m 204 #[.val (.int p0), .val (.int p1), .val (.long p2), .second, .val (.long p3), .second, .val (.long p4), .second, .val (.long p5), .second, .val (.int v6), .val (.long v15), .second, .val (.long v26), .second, .val (.long v47), .second, .val (.long v53), .second, .val (.int v66), .val (.long (-1 : Int64)), .second, .val (.long v94), .second, .val (.ref ar97), .val (.ref ob119), .val (.long v149), .second] [(.long v53), (.int v6), (.long v149), (.int (2 : Int32)), (.long v94), (.long (nwF p3 p4 v94 v26 v53 v6 (((-1 : Int64)).toUInt64 >>> (((64 : Int32) - v6) &&& 0x3f).toInt64.toUInt64).toInt64 (i * w') 2))])) rfl (by rw [hml]; rfl) (argsL := [(.long v94), (.int (2 : Int32)), (.long v149), (.int v6), (.long v53)]) (rest := [(.long (nwF p3 p4 v94 v26 v53 v6 (((-1 : Int64)).toUInt64 >>> (((64 : Int32) - v6) &&& 0x3f).toInt64.toUInt64).toInt64 (i * w') 2))]) (lenOf pd3 rfl) rfl (by show 2 * 0 + _ ≤ _; exact Nat.le_of_eq rfl) (hb hby at_204) (fun _ _ => ⟨rfl, hh9, (by decide : 2 + 0 ≤ _), (by decide : 7 + 0 ≤ _)⟩)
      dsimp only [Pt.U, Pt.locs, Pt.cells, Pt.slots] at X10 l10 y10 z10 st10 hQ10
      subst l10 y10 z10
      obtain ⟨rfl, Nq10, hh10⟩ := hQ10
      have N10 := Fr.app N9 Nq10
      refine Goes.go (st10) ?_
      show Goes _ _ _ _ _ _ _ (T10.setTop (mkF m 207 _ [(.long (exF v94 (2 : Int32) v149 v6 v53)), (.long (nwF p3 p4 v94 v26 v53 v6 (((-1 : Int64)).toUInt64 >>> (((64 : Int32) - v6) &&& 0x3f).toInt64.toUInt64).toInt64 (i * w') 2))]))
      refine Goes.go (fun _ k => XT.lcmp X10.here hx rfl (hb hby at_207) rfl k) ?_
      show Goes _ _ _ _ _ _ _ (T10.setTop (mkF m 208 _ [(.int (XT.cmpL (nwF p3 p4 v94 v26 v53 v6 (((-1 : Int64)).toUInt64 >>> (((64 : Int32) - v6) &&& 0x3f).toInt64.toUInt64).toInt64 (i * w') 2) (exF v94 (2 : Int32) v149 v6 v53)))]))
      refine Goes.go (fun _ k => XS.ifNo X10.here hx rfl (hb hby at_208) rfl (XT.ll_ne_f (own_eq 2 rfl (by decide) (by decide) hm hv149 hw1 hw2 hw3 hm2 hvb)) k) ?_
      show Goes _ _ _ _ _ _ _ (T10.setTop (mkF m 211 _ []))
      refine Goes.go (fun _ k => XS.iconst X10.here hx rfl (hb hby at_211) k) ?_
      show Goes _ _ _ _ _ _ _ (T10.setTop (mkF m 212 _ [(.int (1 : Int32))]))
      refine Goes.go (fun _ k => XS.goto X10.here hx rfl (pc0 := 212) (pc' := 216) rfl (hb hby at_212) (by decide) (by decide) k) ?_
      show Goes _ _ _ _ _ _ _ (T10.setTop (mkF m 216 _ [(.int (1 : Int32))]))
      exact Goes.outZ X10 hx hlk hret rfl (hb hby at_216) hh10 ⟨rfl, N10⟩ (by decide) (by decide)
    · skip
      refine Goes.go (fun _ k => XS.icmpYes X0.here hx rfl (pc0 := 72) (pc' := 81) rfl (hb hby at_72) rfl (XT.ii_ne_t c72) (by decide) (by decide) k) ?_
      show Goes _ _ _ _ _ _ _ (s₁.setTop (mkF m 81 _ []))
      refine Goes.go (fun _ k => XS.lconst X0.here hx rfl (hb hby at_81) k) ?_
      show Goes _ _ _ _ _ _ _ (s₁.setTop (mkF m 82 _ [(.long (1 : Int64))]))
      refine Goes.go (fun _ k => XS.iload X0.here hx rfl (hb hby at_82) rfl k) ?_
      show Goes _ _ _ _ _ _ _ (s₁.setTop (mkF m 84 _ [(.int v66), (.long (1 : Int64))]))
      refine Goes.go (fun _ k => XS.lshl X0.here hx rfl (hb hby at_84) rfl k) ?_
      show Goes _ _ _ _ _ _ _ (s₁.setTop (mkF m 85 _ [(.long ((1 : Int64) <<< (v66 &&& 0x3f).toInt64))]))
      refine Goes.go (fun _ k => XS.lconst X0.here hx rfl (hb hby at_85) k) ?_
      show Goes _ _ _ _ _ _ _ (s₁.setTop (mkF m 86 _ [(.long (1 : Int64)), (.long ((1 : Int64) <<< (v66 &&& 0x3f).toInt64))]))
      refine Goes.go (fun _ k => XS.lsub X0.here hx rfl (hb hby at_86) rfl k) ?_
      show Goes _ _ _ _ _ _ _ (s₁.setTop (mkF m 87 _ [(.long (((1 : Int64) <<< (v66 &&& 0x3f).toInt64) - (1 : Int64)))]))
      generalize hv87 : (((1 : Int64) <<< (v66 &&& 0x3f).toInt64) - (1 : Int64)) = v87
      refine Goes.go (fun _ k => XS.lstore X0.here hx rfl (hb hby at_87) rfl (l' := #[.val (.int p0), .val (.int p1), .val (.long p2), .second, .val (.long p3), .second, .val (.long p4), .second, .val (.long p5), .second, .val (.int v6), .val (.long v15), .second, .val (.long v26), .second, .val (.long v47), .second, .val (.long v53), .second, .val (.int v66), .val (.long v87), .second, .unset, .unset, .unset, .unset, .unset, .unset]) rfl k) ?_
      show Goes _ _ _ _ _ _ _ (s₁.setTop (mkF m 89 #[.val (.int p0), .val (.int p1), .val (.long p2), .second, .val (.long p3), .second, .val (.long p4), .second, .val (.long p5), .second, .val (.int v6), .val (.long v15), .second, .val (.long v26), .second, .val (.long v47), .second, .val (.long v53), .second, .val (.int v66), .val (.long v87), .second, .unset, .unset, .unset, .unset, .unset, .unset] []))
      refine Goes.go (fun _ k => XS.lload X0.here hx rfl (hb hby at_89) rfl k) ?_
      show Goes _ _ _ _ _ _ _ (s₁.setTop (mkF m 91 _ [(.long p5)]))
      refine Goes.go (fun _ k => XS.lload X0.here hx rfl (hb hby at_91) rfl k) ?_
      show Goes _ _ _ _ _ _ _ (s₁.setTop (mkF m 93 _ [(.long v87), (.long p5)]))
      refine Goes.go (fun _ k => XS.land X0.here hx rfl (hb hby at_93) rfl k) ?_
      show Goes _ _ _ _ _ _ _ (s₁.setTop (mkF m 94 _ [(.long (p5 &&& v87))]))
      generalize hv94 : (p5 &&& v87) = v94
      refine Goes.go (fun _ k => XS.lstore X0.here hx rfl (hb hby at_94) rfl (l' := #[.val (.int p0), .val (.int p1), .val (.long p2), .second, .val (.long p3), .second, .val (.long p4), .second, .val (.long p5), .second, .val (.int v6), .val (.long v15), .second, .val (.long v26), .second, .val (.long v47), .second, .val (.long v53), .second, .val (.int v66), .val (.long v87), .second, .val (.long v94), .second, .unset, .unset, .unset, .unset]) rfl k) ?_
      show Goes _ _ _ _ _ _ _ (s₁.setTop (mkF m 96 #[.val (.int p0), .val (.int p1), .val (.long p2), .second, .val (.long p3), .second, .val (.long p4), .second, .val (.long p5), .second, .val (.int v6), .val (.long v15), .second, .val (.long v26), .second, .val (.long v47), .second, .val (.long v53), .second, .val (.int v66), .val (.long v87), .second, .val (.long v94), .second, .unset, .unset, .unset, .unset] []))
      refine Goes.go (fun _ k => XS.iconst X0.here hx rfl (hb hby at_96) k) ?_
      show Goes _ _ _ _ _ _ _ (s₁.setTop (mkF m 97 _ [(.int (3 : Int32))]))
      obtain ⟨T1, h1, X1, e1, E1, A1, st1⟩ := own_newP X0 hx hZ (aty := .long) (hw _ (List.mem_of_getElem? (i := 4) rfl)) e0 (g := (mkF m 97 #[.val (.int p0), .val (.int p1), .val (.long p2), .second, .val (.long p3), .second, .val (.long p4), .second, .val (.long p5), .second, .val (.int v6), .val (.long v15), .second, .val (.long v26), .second, .val (.long v47), .second, .val (.long v53), .second, .val (.int v66), .val (.long v87), .second, .val (.long v94), .second, .unset, .unset, .unset, .unset] [(.int (3 : Int32))])) rfl (hb hby at_97) rfl (n := (3 : Int32)) (by decide) (cap := 3) (by decide) (by decide) (by decide) (by decide)
      obtain ⟨ar97, gar97⟩ : ∃ z, z = h0.size := ⟨_, rfl⟩
      rw [← gar97] at A1 st1
      have Z1 : n0 ≤ h1.size := Nat.le_trans Z0 E1.1
      have ge_ar97 : n0 ≤ ar97 := Nat.le_trans Z0 (Nat.le_of_eq gar97.symm)
      have f : Arl Z h1 ar97 .long [(.long (0 : Int64)), (.long (0 : Int64)), (.long (0 : Int64))] := A1
      refine Goes.go (st1) ?_
      show Goes _ _ _ _ _ _ _ (T1.setTop (mkF m 99 _ [(.ref ar97)]))
      refine Goes.go (fun _ k => XS.astore X1.here hx rfl (hb hby at_99) rfl rfl (l' := #[.val (.int p0), .val (.int p1), .val (.long p2), .second, .val (.long p3), .second, .val (.long p4), .second, .val (.long p5), .second, .val (.int v6), .val (.long v15), .second, .val (.long v26), .second, .val (.long v47), .second, .val (.long v53), .second, .val (.int v66), .val (.long v87), .second, .val (.long v94), .second, .val (.ref ar97), .unset, .unset, .unset]) rfl k) ?_
      show Goes _ _ _ _ _ _ _ (T1.setTop (mkF m 101 #[.val (.int p0), .val (.int p1), .val (.long p2), .second, .val (.long p3), .second, .val (.long p4), .second, .val (.long p5), .second, .val (.int v6), .val (.long v15), .second, .val (.long v26), .second, .val (.long v47), .second, .val (.long v53), .second, .val (.int v66), .val (.long v87), .second, .val (.long v94), .second, .val (.ref ar97), .unset, .unset, .unset] []))
      refine Goes.go (fun _ k => XS.aload X1.here hx rfl (hb hby at_101) rfl rfl k) ?_
      show Goes _ _ _ _ _ _ _ (T1.setTop (mkF m 103 _ [(.ref ar97)]))
      refine Goes.go (fun _ k => XS.iconst X1.here hx rfl (hb hby at_103) k) ?_
      show Goes _ _ _ _ _ _ _ (T1.setTop (mkF m 104 _ [(.int (0 : Int32)), (.ref ar97)]))
      refine Goes.go (fun _ k => XS.lload X1.here hx rfl (hb hby at_104) rfl k) ?_
      show Goes _ _ _ _ _ _ _ (T1.setTop (mkF m 106 _ [(.long p3), (.int (0 : Int32)), (.ref ar97)]))
      obtain ⟨T2, h2, X2, e2, W2, A2, st2⟩ := own_stJ X1 hx hZ e1 f (j := (0 : Int32)) (x := p3) (by decide) (show (0 : Nat) < 3 by decide) (g := (mkF m 106 #[.val (.int p0), .val (.int p1), .val (.long p2), .second, .val (.long p3), .second, .val (.long p4), .second, .val (.long p5), .second, .val (.int v6), .val (.long v15), .second, .val (.long v26), .second, .val (.long v47), .second, .val (.long v53), .second, .val (.int v66), .val (.long v87), .second, .val (.long v94), .second, .val (.ref ar97), .unset, .unset, .unset] [(.long p3), (.int (0 : Int32)), (.ref ar97)])) rfl rfl (hb hby at_106)
      have N2 := Fr.snoc X2 N0 ge_ar97
      have Z2 : n0 ≤ h2.size := by rw [W2.size]; exact Z1
      have f_1 : Arl Z h2 ar97 .long [(.long p3), (.long (0 : Int64)), (.long (0 : Int64))] := A2
      refine Goes.go (st2) ?_
      show Goes _ _ _ _ _ _ _ (T2.setTop (mkF m 107 _ []))
      refine Goes.go (fun _ k => XS.aload X2.here hx rfl (hb hby at_107) rfl rfl k) ?_
      show Goes _ _ _ _ _ _ _ (T2.setTop (mkF m 109 _ [(.ref ar97)]))
      refine Goes.go (fun _ k => XS.iconst X2.here hx rfl (hb hby at_109) k) ?_
      show Goes _ _ _ _ _ _ _ (T2.setTop (mkF m 110 _ [(.int (1 : Int32)), (.ref ar97)]))
      refine Goes.go (fun _ k => XS.lload X2.here hx rfl (hb hby at_110) rfl k) ?_
      show Goes _ _ _ _ _ _ _ (T2.setTop (mkF m 112 _ [(.long p4), (.int (1 : Int32)), (.ref ar97)]))
      obtain ⟨T3, h3, X3, e3, W3, A3, st3⟩ := own_stJ X2 hx hZ e2 f_1 (j := (1 : Int32)) (x := p4) (by decide) (show (1 : Nat) < 3 by decide) (g := (mkF m 112 #[.val (.int p0), .val (.int p1), .val (.long p2), .second, .val (.long p3), .second, .val (.long p4), .second, .val (.long p5), .second, .val (.int v6), .val (.long v15), .second, .val (.long v26), .second, .val (.long v47), .second, .val (.long v53), .second, .val (.int v66), .val (.long v87), .second, .val (.long v94), .second, .val (.ref ar97), .unset, .unset, .unset] [(.long p4), (.int (1 : Int32)), (.ref ar97)])) rfl rfl (hb hby at_112)
      have N3 := Fr.snoc X3 N2 ge_ar97
      have Z3 : n0 ≤ h3.size := by rw [W3.size]; exact Z2
      have f_2 : Arl Z h3 ar97 .long [(.long p3), (.long p4), (.long (0 : Int64))] := A3
      refine Goes.go (st3) ?_
      show Goes _ _ _ _ _ _ _ (T3.setTop (mkF m 113 _ []))
      refine Goes.go (fun _ k => XS.aload X3.here hx rfl (hb hby at_113) rfl rfl k) ?_
      show Goes _ _ _ _ _ _ _ (T3.setTop (mkF m 115 _ [(.ref ar97)]))
      refine Goes.go (fun _ k => XS.iconst X3.here hx rfl (hb hby at_115) k) ?_
      show Goes _ _ _ _ _ _ _ (T3.setTop (mkF m 116 _ [(.int (2 : Int32)), (.ref ar97)]))
      refine Goes.go (fun _ k => XS.lload X3.here hx rfl (hb hby at_116) rfl k) ?_
      show Goes _ _ _ _ _ _ _ (T3.setTop (mkF m 118 _ [(.long v94), (.int (2 : Int32)), (.ref ar97)]))
      obtain ⟨T4, h4, X4, e4, W4, A4, st4⟩ := own_stJ X3 hx hZ e3 f_2 (j := (2 : Int32)) (x := v94) (by decide) (show (2 : Nat) < 3 by decide) (g := (mkF m 118 #[.val (.int p0), .val (.int p1), .val (.long p2), .second, .val (.long p3), .second, .val (.long p4), .second, .val (.long p5), .second, .val (.int v6), .val (.long v15), .second, .val (.long v26), .second, .val (.long v47), .second, .val (.long v53), .second, .val (.int v66), .val (.long v87), .second, .val (.long v94), .second, .val (.ref ar97), .unset, .unset, .unset] [(.long v94), (.int (2 : Int32)), (.ref ar97)])) rfl rfl (hb hby at_118)
      have N4 := Fr.snoc X4 N3 ge_ar97
      have Z4 : n0 ≤ h4.size := by rw [W4.size]; exact Z3
      have f_3 : Arl Z h4 ar97 .long [(.long p3), (.long p4), (.long v94)] := A4
      refine Goes.go (st4) ?_
      show Goes _ _ _ _ _ _ _ (T4.setTop (mkF m 119 _ []))
      obtain ⟨T5, h5, X5, e5, E5, A5, D5, -, st5⟩ := newO X4 hx hZ hown (hw _ (List.mem_of_getElem? (i := 5) rfl)) (hw _ (List.mem_of_getElem? (i := 6) rfl)) (hw _ (List.mem_of_getElem? (i := 7) rfl)) e4 (g := (mkF m 119 #[.val (.int p0), .val (.int p1), .val (.long p2), .second, .val (.long p3), .second, .val (.long p4), .second, .val (.long p5), .second, .val (.int v6), .val (.long v15), .second, .val (.long v26), .second, .val (.long v47), .second, .val (.long v53), .second, .val (.int v66), .val (.long v87), .second, .val (.long v94), .second, .val (.ref ar97), .unset, .unset, .unset] [])) rfl (hb hby at_119) (by decide) (by decide)
      obtain ⟨ob119, gob119⟩ : ∃ z, z = h4.size := ⟨_, rfl⟩
      rw [← gob119] at A5 D5 st5
      have ne_ar97_ob119 : ar97 ≠ ob119 := by rw [gob119]; exact Nat.ne_of_lt f_3.lt
      have f_4 := f_3.ext E5
      have Z5 : n0 ≤ h5.size := Nat.le_trans Z4 E5.1
      have ge_ob119 : n0 ≤ ob119 := Nat.le_trans Z4 (Nat.le_of_eq gob119.symm)
      have f_5 : Fld Z h5 ob119 "com/example/galdict/galdict/model/PackedArray" "length" "J" (.long (0 : Int64)) := D5 (Or.inr (hw _ (List.mem_of_getElem? (i := 15) rfl))) (ty := .long) (by decide)
      have f_6 : Fld Z h5 ob119 "com/example/galdict/galdict/model/PackedArray" "width" "I" (.int (0 : Int32)) := D5 (Or.inr (hw _ (List.mem_of_getElem? (i := 17) rfl))) (ty := .int) (by decide)
      have f_7 : Fld Z h5 ob119 "com/example/galdict/galdict/model/PackedArray" "mask" "J" (.long (0 : Int64)) := D5 (Or.inr (hw _ (List.mem_of_getElem? (i := 20) rfl))) (ty := .long) (by decide)
      have f_8 : Fld Z h5 ob119 "com/example/galdict/galdict/model/PackedArray" "words" "[J" .null := D5 (Or.inr (hw _ (List.mem_of_getElem? (i := 22) rfl))) (ty := (.array .long)) (by decide)
      refine Goes.go (st5) ?_
      show Goes _ _ _ _ _ _ _ (T5.setTop (mkF m 122 _ [(.ref ob119)]))
      refine Goes.go (fun _ k => XS.dup X5.here hx rfl (hb hby at_122) rfl rfl k) ?_
      show Goes _ _ _ _ _ _ _ (T5.setTop (mkF m 123 _ [(.ref ob119), (.ref ob119)]))
      refine Goes.go (fun _ k => XS.lload X5.here hx rfl (hb hby at_123) rfl k) ?_
      show Goes _ _ _ _ _ _ _ (T5.setTop (mkF m 125 _ [(.long v15), (.ref ob119), (.ref ob119)]))
      refine Goes.go (fun _ k => XS.iload X5.here hx rfl (hb hby at_125) rfl k) ?_
      show Goes _ _ _ _ _ _ _ (T5.setTop (mkF m 127 _ [(.int v6), (.long v15), (.ref ob119), (.ref ob119)]))
      refine Goes.go (fun _ k => XS.aload X5.here hx rfl (hb hby at_127) rfl rfl k) ?_
      show Goes _ _ _ _ _ _ _ (T5.setTop (mkF m 129 _ [(.ref ar97), (.int v6), (.long v15), (.ref ob119), (.ref ob119)]))
      obtain ⟨_, _, ⟨T6, L6, k6, n6⟩, -, X6, ⟨Lc6, hQ6, l6, y6, z6⟩, st6⟩ := X5.specialBack hx (y := (⟨"com/example/galdict/galdict/model/PackedArray", "<init>", "(JI[J)V"⟩ : MethodName)) rfl hown (mvT hZ (hw _ (List.mem_of_getElem? (i := 8) rfl))) (mvT hZ (hw _ (List.mem_of_getElem? (i := 9) rfl))) (mvT hZ (hw _ (List.mem_of_getElem? (i := 10) rfl))) (by decide) (backOf (W := 1) (rm1 l Z a0 hw [] ob119 v15 v6 ar97 h5 n0 Z5 A5 f_5 f_6 f_7 f_8 ge_ob119) hZ (hw _ (List.mem_of_getElem? (i := 10) rfl)) (hw _ (List.mem_of_getElem? (i := 7) rfl)) (by decide) (by decide)) (g := (mkF m 129 #[.val (.int p0), .val (.int p1), .val (.long p2), .second, .val (.long p3), .second, .val (.long p4), .second, .val (.long p5), .second, .val (.int v6), .val (.long v15), .second, .val (.long v26), .second, .val (.long v47), .second, .val (.long v53), .second, .val (.int v66), .val (.long v87), .second, .val (.long v94), .second, .val (.ref ar97), .unset, .unset, .unset] [(.ref ar97), (.int v6), (.long v15), (.ref ob119), (.ref ob119)])) rfl (by rw [hml]; rfl) (Steps.refl _) (a := ob119) (argsL := [(.long v15), (.int v6), (.ref ar97)]) (rest := [(.ref ob119)]) (lenOf pd0 rfl) rfl (by show 2 * 0 + _ ≤ _; exact Nat.le_of_eq rfl) (hb hby at_129) (fun _ _ => ⟨rfl, e5, (by decide : 2 + 0 ≤ _), (by decide : 7 + 0 ≤ _)⟩)
      dsimp only [Pt.U, Pt.locs, Pt.cells, Pt.slots] at X6 l6 y6 z6 st6 hQ6
      subst l6 y6 z6
      obtain ⟨rfl, Nq6, Kq6, Eq6, Fq6_0, Fq6_1, Fq6_2, Fq6_3⟩ := hQ6
      have N6 := Fr.app N4 Nq6
      have Z6 : n0 ≤ T6.heap.size := Nat.le_trans Z5 Kq6.1
      have f_9 := Arl.keep f_4 Kq6 (ninS ne_ar97_ob119 nin0)
      refine Goes.go (fun _ k => st6.trans k) ?_
      show Goes _ _ _ _ _ _ _ (T6.setTop (mkF m 132 _ [(.ref ob119)]))
      refine Goes.go (fun _ k => XS.astore X6.here hx rfl (hb hby at_132) rfl rfl (l' := #[.val (.int p0), .val (.int p1), .val (.long p2), .second, .val (.long p3), .second, .val (.long p4), .second, .val (.long p5), .second, .val (.int v6), .val (.long v15), .second, .val (.long v26), .second, .val (.long v47), .second, .val (.long v53), .second, .val (.int v66), .val (.long v87), .second, .val (.long v94), .second, .val (.ref ar97), .val (.ref ob119), .unset, .unset]) rfl k) ?_
      show Goes _ _ _ _ _ _ _ (T6.setTop (mkF m 134 #[.val (.int p0), .val (.int p1), .val (.long p2), .second, .val (.long p3), .second, .val (.long p4), .second, .val (.long p5), .second, .val (.int v6), .val (.long v15), .second, .val (.long v26), .second, .val (.long v47), .second, .val (.long v53), .second, .val (.int v66), .val (.long v87), .second, .val (.long v94), .second, .val (.ref ar97), .val (.ref ob119), .unset, .unset] []))
      refine Goes.go (fun _ k => XS.aload X6.here hx rfl (hb hby at_134) rfl rfl k) ?_
      show Goes _ _ _ _ _ _ _ (T6.setTop (mkF m 136 _ [(.ref ob119)]))
      refine Goes.go (fun _ k => XS.lload X6.here hx rfl (hb hby at_136) rfl k) ?_
      show Goes _ _ _ _ _ _ _ (T6.setTop (mkF m 138 _ [(.long v26), (.ref ob119)]))
      refine Goes.go (fun _ k => XS.lload X6.here hx rfl (hb hby at_138) rfl k) ?_
      show Goes _ _ _ _ _ _ _ (T6.setTop (mkF m 140 _ [(.long v53), (.long v26), (.ref ob119)]))
      obtain ⟨cq7, kq7, qa7, qb7, qc7⟩ := isOf hZ rfl Eq6
      obtain ⟨_, _, ⟨T7, L7, k7, n7⟩, -, X7, ⟨Lc7, hQ7, l7, y7, z7⟩, st7⟩ := X6.virtualBack hx (y := (⟨"com/example/galdict/galdict/model/PackedArray", "set", "(JJ)V"⟩ : MethodName)) (z := (⟨"com/example/galdict/galdict/model/PackedArray", "set", "(JJ)V"⟩ : MethodName)) hown (mvT hZ (hw _ (List.mem_of_getElem? (i := 23) rfl))) (mvT hZ (hw _ (List.mem_of_getElem? (i := 24) rfl))) (notFace_of_selects (args := #[]) (mvT hZ (hw _ (List.mem_of_getElem? (i := 26) rfl)))) (mvT hZ (hw _ (List.mem_of_getElem? (i := 26) rfl))) (mvT hZ (hw _ (List.mem_of_getElem? (i := 25) rfl))) (by decide) (backOf (W := 0) (rm2 l Z a0 hw [] ob119 v26 v53 v6 (((-1 : Int64)).toUInt64 >>> (((64 : Int32) - v6) &&& 0x3f).toInt64.toUInt64).toInt64 ar97 _ (wAt p3 p4 v94 (i * w' / 64)) (wAt p3 p4 v94 (i * w' / 64 + 1)) T6.heap n0 Z6 Fq6_1 Fq6_2 Fq6_3 f_9 ne_ar97_ob119.symm ge_ar97 (own_q1 hm (by omega)) (own_q2 (f := Value.long) hm (by omega)) (own_q3 (f := Value.long) hm hw1 hw2 hw3 hm2)) hZ (hw _ (List.mem_of_getElem? (i := 27) rfl)) (hw _ (List.mem_of_getElem? (i := 7) rfl)) (by decide) (by decide)) qa7 qc7 (g := (mkF m 140 #[.val (.int p0), .val (.int p1), .val (.long p2), .second, .val (.long p3), .second, .val (.long p4), .second, .val (.long p5), .second, .val (.int v6), .val (.long v15), .second, .val (.long v26), .second, .val (.long v47), .second, .val (.long v53), .second, .val (.int v66), .val (.long v87), .second, .val (.long v94), .second, .val (.ref ar97), .val (.ref ob119), .unset, .unset] [(.long v53), (.long v26), (.ref ob119)])) rfl (by rw [hml]; rfl) (Steps.refl _) (argsL := [(.long v26), (.long v53)]) (rest := []) (lenOf pd2 rfl) rfl (by show 2 * 0 + _ ≤ _; exact Nat.le_of_eq rfl) (hb hby at_140) (fun _ _ => ⟨rfl, rfl, (by decide : 2 + 0 ≤ _), (by decide : 7 + 0 ≤ _)⟩)
      dsimp only [Pt.U, Pt.locs, Pt.cells, Pt.slots] at X7 l7 y7 z7 st7 hQ7
      subst l7 y7 z7
      obtain ⟨rfl, Nq7, Kq7, Aq7⟩ := hQ7
      have N7 := Fr.app N6 Nq7
      have Z7 : n0 ≤ T7.heap.size := Nat.le_trans Z6 Kq7.1
      have f_10 := Exa.keep Eq6 Kq7
      have f_11 := Fld.keep Fq6_0 Kq7 (ninS ne_ar97_ob119.symm nin0)
      have f_12 := Fld.keep Fq6_1 Kq7 (ninS ne_ar97_ob119.symm nin0)
      have f_13 := Fld.keep Fq6_2 Kq7 (ninS ne_ar97_ob119.symm nin0)
      have f_14 := Fld.keep Fq6_3 Kq7 (ninS ne_ar97_ob119.symm nin0)
      refine Goes.go (fun _ k => st7.trans k) ?_
      show Goes _ _ _ _ _ _ _ (T7.setTop (mkF m 143 _ []))
      refine Goes.go (fun _ k => XS.lload X7.here hx rfl (hb hby at_143) rfl k) ?_
      show Goes _ _ _ _ _ _ _ (T7.setTop (mkF m 145 _ [(.long v26)]))
      refine Goes.go (fun _ k => XS.iload X7.here hx rfl (hb hby at_145) rfl k) ?_
      show Goes _ _ _ _ _ _ _ (T7.setTop (mkF m 147 _ [(.int v6), (.long v26)]))
      refine Goes.go (fun _ k => XS.i2l X7.here hx rfl (hb hby at_147) rfl k) ?_
      show Goes _ _ _ _ _ _ _ (T7.setTop (mkF m 148 _ [(.long (v6).toInt64), (.long v26)]))
      refine Goes.go (fun _ k => XS.lmul X7.here hx rfl (hb hby at_148) rfl k) ?_
      show Goes _ _ _ _ _ _ _ (T7.setTop (mkF m 149 _ [(.long (v26 * (v6).toInt64))]))
      generalize hv149 : (v26 * (v6).toInt64) = v149
      refine Goes.go (fun _ k => XS.lstore X7.here hx rfl (hb hby at_149) rfl (l' := #[.val (.int p0), .val (.int p1), .val (.long p2), .second, .val (.long p3), .second, .val (.long p4), .second, .val (.long p5), .second, .val (.int v6), .val (.long v15), .second, .val (.long v26), .second, .val (.long v47), .second, .val (.long v53), .second, .val (.int v66), .val (.long v87), .second, .val (.long v94), .second, .val (.ref ar97), .val (.ref ob119), .val (.long v149), .second]) rfl k) ?_
      show Goes _ _ _ _ _ _ _ (T7.setTop (mkF m 151 #[.val (.int p0), .val (.int p1), .val (.long p2), .second, .val (.long p3), .second, .val (.long p4), .second, .val (.long p5), .second, .val (.int v6), .val (.long v15), .second, .val (.long v26), .second, .val (.long v47), .second, .val (.long v53), .second, .val (.int v66), .val (.long v87), .second, .val (.long v94), .second, .val (.ref ar97), .val (.ref ob119), .val (.long v149), .second] []))
      refine Goes.go (fun _ k => XS.aload X7.here hx rfl (hb hby at_151) rfl rfl k) ?_
      show Goes _ _ _ _ _ _ _ (T7.setTop (mkF m 153 _ [(.ref ar97)]))
      refine Goes.go (fun _ k => XS.iconst X7.here hx rfl (hb hby at_153) k) ?_
      show Goes _ _ _ _ _ _ _ (T7.setTop (mkF m 154 _ [(.int (0 : Int32)), (.ref ar97)]))
      refine Goes.go (own_ldJ X7 hx hZ rfl Aq7 (j := (0 : Int32)) (v := (.long (nwF p3 p4 v94 v26 v53 v6 (((-1 : Int64)).toUInt64 >>> (((64 : Int32) - v6) &&& 0x3f).toInt64.toUInt64).toInt64 (i * w') 0))) (by decide) (sv_at (f := Value.long) (j := 0) hm hw1 hw2 hw3 hm2 (by decide)) rfl rfl (hb hby at_154)) ?_
      show Goes _ _ _ _ _ _ _ (T7.setTop (mkF m 155 _ [(.long (nwF p3 p4 v94 v26 v53 v6 (((-1 : Int64)).toUInt64 >>> (((64 : Int32) - v6) &&& 0x3f).toInt64.toUInt64).toInt64 (i * w') 0))]))
      refine Goes.go (fun _ k => XS.lload X7.here hx rfl (hb hby at_155) rfl k) ?_
      show Goes _ _ _ _ _ _ _ (T7.setTop (mkF m 157 _ [(.long p3), (.long (nwF p3 p4 v94 v26 v53 v6 (((-1 : Int64)).toUInt64 >>> (((64 : Int32) - v6) &&& 0x3f).toInt64.toUInt64).toInt64 (i * w') 0))]))
      refine Goes.go (fun _ k => XS.iconst X7.here hx rfl (hb hby at_157) k) ?_
      show Goes _ _ _ _ _ _ _ (T7.setTop (mkF m 158 _ [(.int (0 : Int32)), (.long p3), (.long (nwF p3 p4 v94 v26 v53 v6 (((-1 : Int64)).toUInt64 >>> (((64 : Int32) - v6) &&& 0x3f).toInt64.toUInt64).toInt64 (i * w') 0))]))
      refine Goes.go (fun _ k => XS.lload X7.here hx rfl (hb hby at_158) rfl k) ?_
      show Goes _ _ _ _ _ _ _ (T7.setTop (mkF m 160 _ [(.long v149), (.int (0 : Int32)), (.long p3), (.long (nwF p3 p4 v94 v26 v53 v6 (((-1 : Int64)).toUInt64 >>> (((64 : Int32) - v6) &&& 0x3f).toInt64.toUInt64).toInt64 (i * w') 0))]))
      refine Goes.go (fun _ k => XS.iload X7.here hx rfl (hb hby at_160) rfl k) ?_
      show Goes _ _ _ _ _ _ _ (T7.setTop (mkF m 162 _ [(.int v6), (.long v149), (.int (0 : Int32)), (.long p3), (.long (nwF p3 p4 v94 v26 v53 v6 (((-1 : Int64)).toUInt64 >>> (((64 : Int32) - v6) &&& 0x3f).toInt64.toUInt64).toInt64 (i * w') 0))]))
      refine Goes.go (fun _ k => XS.lload X7.here hx rfl (hb hby at_162) rfl k) ?_
      show Goes _ _ _ _ _ _ _ (T7.setTop (mkF m 164 _ [(.long v53), (.int v6), (.long v149), (.int (0 : Int32)), (.long p3), (.long (nwF p3 p4 v94 v26 v53 v6 (((-1 : Int64)).toUInt64 >>> (((64 : Int32) - v6) &&& 0x3f).toInt64.toUInt64).toInt64 (i * w') 0))]))
      obtain ⟨_, _, ⟨T8, L8, k8, n8⟩, -, X8, ⟨Lc8, hQ8, l8, y8, z8⟩, st8⟩ := Jvm.LawKit.callS X7 hx (y := (⟨"com/example/galdict/galdict/model/PackedArraySetPinLaw", "expect", "(JIJIJ)J"⟩ : MethodName)) hown (mvT hZ (hw _ (List.mem_of_getElem? (i := 28) rfl))) (mvT hZ (hw _ (List.mem_of_getElem? (i := 29) rfl))) (mvT hZ (hw _ (List.mem_of_getElem? (i := 30) rfl))) (mvT hZ (hw _ (List.mem_of_getElem? (i := 31) rfl))) (by decide) (backOf (W := 2) (rm3 l Z a0 hw [] p3 (0 : Int32) v149 v6 v53 T7.heap n0 Z7) hZ (hw _ (List.mem_of_getElem? (i := 31) rfl)) (hw _ (List.mem_of_getElem? (i := 30) rfl)) (by decide) (by decide)) (g := (mkF m 164 #[.val (.int p0), .val (.int p1), .val (.long p2), .second, .val (.long p3), .second, .val (.long p4), .second, .val (.long p5), .second, .val (.int v6), .val (.long v15), .second, .val (.long v26), .second, .val (.long v47), .second, .val (.long v53), .second, .val (.int v66), .val (.long v87), .second, .val (.long v94), .second, .val (.ref ar97), .val (.ref ob119), .val (.long v149), .second] [(.long v53), (.int v6), (.long v149), (.int (0 : Int32)), (.long p3), (.long (nwF p3 p4 v94 v26 v53 v6 (((-1 : Int64)).toUInt64 >>> (((64 : Int32) - v6) &&& 0x3f).toInt64.toUInt64).toInt64 (i * w') 0))])) rfl (by rw [hml]; rfl) (argsL := [(.long p3), (.int (0 : Int32)), (.long v149), (.int v6), (.long v53)]) (rest := [(.long (nwF p3 p4 v94 v26 v53 v6 (((-1 : Int64)).toUInt64 >>> (((64 : Int32) - v6) &&& 0x3f).toInt64.toUInt64).toInt64 (i * w') 0))]) (lenOf pd3 rfl) rfl (by show 2 * 0 + _ ≤ _; exact Nat.le_of_eq rfl) (hb hby at_164) (fun _ _ => ⟨rfl, rfl, (by decide : 2 + 0 ≤ _), (by decide : 7 + 0 ≤ _)⟩)
      dsimp only [Pt.U, Pt.locs, Pt.cells, Pt.slots] at X8 l8 y8 z8 st8 hQ8
      subst l8 y8 z8
      obtain ⟨rfl, Nq8, hh8⟩ := hQ8
      have N8 := Fr.app N7 Nq8
      refine Goes.go (st8) ?_
      show Goes _ _ _ _ _ _ _ (T8.setTop (mkF m 167 _ [(.long (exF p3 (0 : Int32) v149 v6 v53)), (.long (nwF p3 p4 v94 v26 v53 v6 (((-1 : Int64)).toUInt64 >>> (((64 : Int32) - v6) &&& 0x3f).toInt64.toUInt64).toInt64 (i * w') 0))]))
      refine Goes.go (fun _ k => XT.lcmp X8.here hx rfl (hb hby at_167) rfl k) ?_
      show Goes _ _ _ _ _ _ _ (T8.setTop (mkF m 168 _ [(.int (XT.cmpL (nwF p3 p4 v94 v26 v53 v6 (((-1 : Int64)).toUInt64 >>> (((64 : Int32) - v6) &&& 0x3f).toInt64.toUInt64).toInt64 (i * w') 0) (exF p3 (0 : Int32) v149 v6 v53)))]))
      refine Goes.go (fun _ k => XS.ifNo X8.here hx rfl (hb hby at_168) rfl (XT.ll_ne_f (own_eq 0 rfl (by decide) (by decide) hm hv149 hw1 hw2 hw3 hm2 hvb)) k) ?_
      show Goes _ _ _ _ _ _ _ (T8.setTop (mkF m 171 _ []))
      refine Goes.go (fun _ k => XS.aload X8.here hx rfl (hb hby at_171) rfl rfl k) ?_
      show Goes _ _ _ _ _ _ _ (T8.setTop (mkF m 173 _ [(.ref ar97)]))
      refine Goes.go (fun _ k => XS.iconst X8.here hx rfl (hb hby at_173) k) ?_
      show Goes _ _ _ _ _ _ _ (T8.setTop (mkF m 174 _ [(.int (1 : Int32)), (.ref ar97)]))
      refine Goes.go (own_ldJ X8 hx hZ hh8 Aq7 (j := (1 : Int32)) (v := (.long (nwF p3 p4 v94 v26 v53 v6 (((-1 : Int64)).toUInt64 >>> (((64 : Int32) - v6) &&& 0x3f).toInt64.toUInt64).toInt64 (i * w') 1))) (by decide) (sv_at (f := Value.long) (j := 1) hm hw1 hw2 hw3 hm2 (by decide)) rfl rfl (hb hby at_174)) ?_
      show Goes _ _ _ _ _ _ _ (T8.setTop (mkF m 175 _ [(.long (nwF p3 p4 v94 v26 v53 v6 (((-1 : Int64)).toUInt64 >>> (((64 : Int32) - v6) &&& 0x3f).toInt64.toUInt64).toInt64 (i * w') 1))]))
      refine Goes.go (fun _ k => XS.lload X8.here hx rfl (hb hby at_175) rfl k) ?_
      show Goes _ _ _ _ _ _ _ (T8.setTop (mkF m 177 _ [(.long p4), (.long (nwF p3 p4 v94 v26 v53 v6 (((-1 : Int64)).toUInt64 >>> (((64 : Int32) - v6) &&& 0x3f).toInt64.toUInt64).toInt64 (i * w') 1))]))
      refine Goes.go (fun _ k => XS.iconst X8.here hx rfl (hb hby at_177) k) ?_
      show Goes _ _ _ _ _ _ _ (T8.setTop (mkF m 178 _ [(.int (1 : Int32)), (.long p4), (.long (nwF p3 p4 v94 v26 v53 v6 (((-1 : Int64)).toUInt64 >>> (((64 : Int32) - v6) &&& 0x3f).toInt64.toUInt64).toInt64 (i * w') 1))]))
      refine Goes.go (fun _ k => XS.lload X8.here hx rfl (hb hby at_178) rfl k) ?_
      show Goes _ _ _ _ _ _ _ (T8.setTop (mkF m 180 _ [(.long v149), (.int (1 : Int32)), (.long p4), (.long (nwF p3 p4 v94 v26 v53 v6 (((-1 : Int64)).toUInt64 >>> (((64 : Int32) - v6) &&& 0x3f).toInt64.toUInt64).toInt64 (i * w') 1))]))
      refine Goes.go (fun _ k => XS.iload X8.here hx rfl (hb hby at_180) rfl k) ?_
      show Goes _ _ _ _ _ _ _ (T8.setTop (mkF m 182 _ [(.int v6), (.long v149), (.int (1 : Int32)), (.long p4), (.long (nwF p3 p4 v94 v26 v53 v6 (((-1 : Int64)).toUInt64 >>> (((64 : Int32) - v6) &&& 0x3f).toInt64.toUInt64).toInt64 (i * w') 1))]))
      refine Goes.go (fun _ k => XS.lload X8.here hx rfl (hb hby at_182) rfl k) ?_
      show Goes _ _ _ _ _ _ _ (T8.setTop (mkF m 184 _ [(.long v53), (.int v6), (.long v149), (.int (1 : Int32)), (.long p4), (.long (nwF p3 p4 v94 v26 v53 v6 (((-1 : Int64)).toUInt64 >>> (((64 : Int32) - v6) &&& 0x3f).toInt64.toUInt64).toInt64 (i * w') 1))]))
      obtain ⟨_, _, ⟨T9, L9, k9, n9⟩, -, X9, ⟨Lc9, hQ9, l9, y9, z9⟩, st9⟩ := Jvm.LawKit.callS X8 hx (y := (⟨"com/example/galdict/galdict/model/PackedArraySetPinLaw", "expect", "(JIJIJ)J"⟩ : MethodName)) hown (mvT hZ (hw _ (List.mem_of_getElem? (i := 28) rfl))) (mvT hZ (hw _ (List.mem_of_getElem? (i := 29) rfl))) (mvT hZ (hw _ (List.mem_of_getElem? (i := 30) rfl))) (mvT hZ (hw _ (List.mem_of_getElem? (i := 31) rfl))) (by decide) (backOf (W := 2) (rm3 l Z a0 hw [] p4 (1 : Int32) v149 v6 v53 T7.heap n0 Z7) hZ (hw _ (List.mem_of_getElem? (i := 31) rfl)) (hw _ (List.mem_of_getElem? (i := 30) rfl)) (by decide) (by decide)) (g := (mkF m 184 #[.val (.int p0), .val (.int p1), .val (.long p2), .second, .val (.long p3), .second, .val (.long p4), .second, .val (.long p5), .second, .val (.int v6), .val (.long v15), .second, .val (.long v26), .second, .val (.long v47), .second, .val (.long v53), .second, .val (.int v66), .val (.long v87), .second, .val (.long v94), .second, .val (.ref ar97), .val (.ref ob119), .val (.long v149), .second] [(.long v53), (.int v6), (.long v149), (.int (1 : Int32)), (.long p4), (.long (nwF p3 p4 v94 v26 v53 v6 (((-1 : Int64)).toUInt64 >>> (((64 : Int32) - v6) &&& 0x3f).toInt64.toUInt64).toInt64 (i * w') 1))])) rfl (by rw [hml]; rfl) (argsL := [(.long p4), (.int (1 : Int32)), (.long v149), (.int v6), (.long v53)]) (rest := [(.long (nwF p3 p4 v94 v26 v53 v6 (((-1 : Int64)).toUInt64 >>> (((64 : Int32) - v6) &&& 0x3f).toInt64.toUInt64).toInt64 (i * w') 1))]) (lenOf pd3 rfl) rfl (by show 2 * 0 + _ ≤ _; exact Nat.le_of_eq rfl) (hb hby at_184) (fun _ _ => ⟨rfl, hh8, (by decide : 2 + 0 ≤ _), (by decide : 7 + 0 ≤ _)⟩)
      dsimp only [Pt.U, Pt.locs, Pt.cells, Pt.slots] at X9 l9 y9 z9 st9 hQ9
      subst l9 y9 z9
      obtain ⟨rfl, Nq9, hh9⟩ := hQ9
      have N9 := Fr.app N8 Nq9
      refine Goes.go (st9) ?_
      show Goes _ _ _ _ _ _ _ (T9.setTop (mkF m 187 _ [(.long (exF p4 (1 : Int32) v149 v6 v53)), (.long (nwF p3 p4 v94 v26 v53 v6 (((-1 : Int64)).toUInt64 >>> (((64 : Int32) - v6) &&& 0x3f).toInt64.toUInt64).toInt64 (i * w') 1))]))
      refine Goes.go (fun _ k => XT.lcmp X9.here hx rfl (hb hby at_187) rfl k) ?_
      show Goes _ _ _ _ _ _ _ (T9.setTop (mkF m 188 _ [(.int (XT.cmpL (nwF p3 p4 v94 v26 v53 v6 (((-1 : Int64)).toUInt64 >>> (((64 : Int32) - v6) &&& 0x3f).toInt64.toUInt64).toInt64 (i * w') 1) (exF p4 (1 : Int32) v149 v6 v53)))]))
      refine Goes.go (fun _ k => XS.ifNo X9.here hx rfl (hb hby at_188) rfl (XT.ll_ne_f (own_eq 1 rfl (by decide) (by decide) hm hv149 hw1 hw2 hw3 hm2 hvb)) k) ?_
      show Goes _ _ _ _ _ _ _ (T9.setTop (mkF m 191 _ []))
      refine Goes.go (fun _ k => XS.aload X9.here hx rfl (hb hby at_191) rfl rfl k) ?_
      show Goes _ _ _ _ _ _ _ (T9.setTop (mkF m 193 _ [(.ref ar97)]))
      refine Goes.go (fun _ k => XS.iconst X9.here hx rfl (hb hby at_193) k) ?_
      show Goes _ _ _ _ _ _ _ (T9.setTop (mkF m 194 _ [(.int (2 : Int32)), (.ref ar97)]))
      refine Goes.go (own_ldJ X9 hx hZ hh9 Aq7 (j := (2 : Int32)) (v := (.long (nwF p3 p4 v94 v26 v53 v6 (((-1 : Int64)).toUInt64 >>> (((64 : Int32) - v6) &&& 0x3f).toInt64.toUInt64).toInt64 (i * w') 2))) (by decide) (sv_at (f := Value.long) (j := 2) hm hw1 hw2 hw3 hm2 (by decide)) rfl rfl (hb hby at_194)) ?_
      show Goes _ _ _ _ _ _ _ (T9.setTop (mkF m 195 _ [(.long (nwF p3 p4 v94 v26 v53 v6 (((-1 : Int64)).toUInt64 >>> (((64 : Int32) - v6) &&& 0x3f).toInt64.toUInt64).toInt64 (i * w') 2))]))
      refine Goes.go (fun _ k => XS.lload X9.here hx rfl (hb hby at_195) rfl k) ?_
      show Goes _ _ _ _ _ _ _ (T9.setTop (mkF m 197 _ [(.long v94), (.long (nwF p3 p4 v94 v26 v53 v6 (((-1 : Int64)).toUInt64 >>> (((64 : Int32) - v6) &&& 0x3f).toInt64.toUInt64).toInt64 (i * w') 2))]))
      refine Goes.go (fun _ k => XS.iconst X9.here hx rfl (hb hby at_197) k) ?_
      show Goes _ _ _ _ _ _ _ (T9.setTop (mkF m 198 _ [(.int (2 : Int32)), (.long v94), (.long (nwF p3 p4 v94 v26 v53 v6 (((-1 : Int64)).toUInt64 >>> (((64 : Int32) - v6) &&& 0x3f).toInt64.toUInt64).toInt64 (i * w') 2))]))
      refine Goes.go (fun _ k => XS.lload X9.here hx rfl (hb hby at_198) rfl k) ?_
      show Goes _ _ _ _ _ _ _ (T9.setTop (mkF m 200 _ [(.long v149), (.int (2 : Int32)), (.long v94), (.long (nwF p3 p4 v94 v26 v53 v6 (((-1 : Int64)).toUInt64 >>> (((64 : Int32) - v6) &&& 0x3f).toInt64.toUInt64).toInt64 (i * w') 2))]))
      refine Goes.go (fun _ k => XS.iload X9.here hx rfl (hb hby at_200) rfl k) ?_
      show Goes _ _ _ _ _ _ _ (T9.setTop (mkF m 202 _ [(.int v6), (.long v149), (.int (2 : Int32)), (.long v94), (.long (nwF p3 p4 v94 v26 v53 v6 (((-1 : Int64)).toUInt64 >>> (((64 : Int32) - v6) &&& 0x3f).toInt64.toUInt64).toInt64 (i * w') 2))]))
      refine Goes.go (fun _ k => XS.lload X9.here hx rfl (hb hby at_202) rfl k) ?_
      show Goes _ _ _ _ _ _ _ (T9.setTop (mkF m 204 _ [(.long v53), (.int v6), (.long v149), (.int (2 : Int32)), (.long v94), (.long (nwF p3 p4 v94 v26 v53 v6 (((-1 : Int64)).toUInt64 >>> (((64 : Int32) - v6) &&& 0x3f).toInt64.toUInt64).toInt64 (i * w') 2))]))
      obtain ⟨_, _, ⟨T10, L10, k10, n10⟩, -, X10, ⟨Lc10, hQ10, l10, y10, z10⟩, st10⟩ := Jvm.LawKit.callS X9 hx (y := (⟨"com/example/galdict/galdict/model/PackedArraySetPinLaw", "expect", "(JIJIJ)J"⟩ : MethodName)) hown (mvT hZ (hw _ (List.mem_of_getElem? (i := 28) rfl))) (mvT hZ (hw _ (List.mem_of_getElem? (i := 29) rfl))) (mvT hZ (hw _ (List.mem_of_getElem? (i := 30) rfl))) (mvT hZ (hw _ (List.mem_of_getElem? (i := 31) rfl))) (by decide) (backOf (W := 2) (rm3 l Z a0 hw [] v94 (2 : Int32) v149 v6 v53 T7.heap n0 Z7) hZ (hw _ (List.mem_of_getElem? (i := 31) rfl)) (hw _ (List.mem_of_getElem? (i := 30) rfl)) (by decide) (by decide)) (g := (mkF m 204 #[.val (.int p0), .val (.int p1), .val (.long p2), .second, .val (.long p3), .second, .val (.long p4), .second, .val (.long p5), .second, .val (.int v6), .val (.long v15), .second, .val (.long v26), .second, .val (.long v47), .second, .val (.long v53), .second, .val (.int v66), .val (.long v87), .second, .val (.long v94), .second, .val (.ref ar97), .val (.ref ob119), .val (.long v149), .second] [(.long v53), (.int v6), (.long v149), (.int (2 : Int32)), (.long v94), (.long (nwF p3 p4 v94 v26 v53 v6 (((-1 : Int64)).toUInt64 >>> (((64 : Int32) - v6) &&& 0x3f).toInt64.toUInt64).toInt64 (i * w') 2))])) rfl (by rw [hml]; rfl) (argsL := [(.long v94), (.int (2 : Int32)), (.long v149), (.int v6), (.long v53)]) (rest := [(.long (nwF p3 p4 v94 v26 v53 v6 (((-1 : Int64)).toUInt64 >>> (((64 : Int32) - v6) &&& 0x3f).toInt64.toUInt64).toInt64 (i * w') 2))]) (lenOf pd3 rfl) rfl (by show 2 * 0 + _ ≤ _; exact Nat.le_of_eq rfl) (hb hby at_204) (fun _ _ => ⟨rfl, hh9, (by decide : 2 + 0 ≤ _), (by decide : 7 + 0 ≤ _)⟩)
      dsimp only [Pt.U, Pt.locs, Pt.cells, Pt.slots] at X10 l10 y10 z10 st10 hQ10
      subst l10 y10 z10
      obtain ⟨rfl, Nq10, hh10⟩ := hQ10
      have N10 := Fr.app N9 Nq10
      refine Goes.go (st10) ?_
      show Goes _ _ _ _ _ _ _ (T10.setTop (mkF m 207 _ [(.long (exF v94 (2 : Int32) v149 v6 v53)), (.long (nwF p3 p4 v94 v26 v53 v6 (((-1 : Int64)).toUInt64 >>> (((64 : Int32) - v6) &&& 0x3f).toInt64.toUInt64).toInt64 (i * w') 2))]))
      refine Goes.go (fun _ k => XT.lcmp X10.here hx rfl (hb hby at_207) rfl k) ?_
      show Goes _ _ _ _ _ _ _ (T10.setTop (mkF m 208 _ [(.int (XT.cmpL (nwF p3 p4 v94 v26 v53 v6 (((-1 : Int64)).toUInt64 >>> (((64 : Int32) - v6) &&& 0x3f).toInt64.toUInt64).toInt64 (i * w') 2) (exF v94 (2 : Int32) v149 v6 v53)))]))
      refine Goes.go (fun _ k => XS.ifNo X10.here hx rfl (hb hby at_208) rfl (XT.ll_ne_f (own_eq 2 rfl (by decide) (by decide) hm hv149 hw1 hw2 hw3 hm2 hvb)) k) ?_
      show Goes _ _ _ _ _ _ _ (T10.setTop (mkF m 211 _ []))
      refine Goes.go (fun _ k => XS.iconst X10.here hx rfl (hb hby at_211) k) ?_
      show Goes _ _ _ _ _ _ _ (T10.setTop (mkF m 212 _ [(.int (1 : Int32))]))
      refine Goes.go (fun _ k => XS.goto X10.here hx rfl (pc0 := 212) (pc' := 216) rfl (hb hby at_212) (by decide) (by decide) k) ?_
      show Goes _ _ _ _ _ _ _ (T10.setTop (mkF m 216 _ [(.int (1 : Int32))]))
      exact Goes.outZ X10 hx hlk hret rfl (hb hby at_216) hh10 ⟨rfl, N10⟩ (by decide) (by decide)
set_option maxRecDepth 65536 in
set_option maxHeartbeats 40000000 in
theorem comes_1 {Post : Tables → Env → Array Value → State → Outcome → State → Prop} (hpost : ∀ tb e args s v u, (limb_1_1.after args s (.returned v) u = true ∧ limb_1_2.after args s (.returned v) u = true ∧ True) → FrameEnd s (.returned v) u (Jvm.fieldLocs frame_1_writes args s ++ Jvm.arrayLocs frame_1_arrays args s ++ Jvm.staticLocs frame_1_statics s) 16 128 → Post tb e args s (.returned v) u) :
    ArmFor flags0 classFile x code maxLocals ret World_1 tables_1 room_1 Calls_1 rest_1 Pre_1 Post := by
  intro l hfl _ _ p e ha hc hk s m args below hf hA hF happ hP
  obtain ⟨hcalls, hrest, hpre⟩ := hP
  obtain ⟨-, -, -, hnamed, -, -, -, hat⟩ := (Spec.applies_iff hf).mp happ
  obtain ⟨hg, hn⟩ := and_e (Cond.before_iff.mp (show (Jvm.Cond.and given_1 narrow_1).before args s = true from hpre))
  obtain ⟨gc, gr0⟩ := and_e hg
  obtain ⟨g0, gr1⟩ := and_e gr0
  obtain ⟨g1, gr2⟩ := and_e gr1
  obtain ⟨g2, gr3⟩ := and_e gr2
  obtain ⟨g3, gr4⟩ := and_e gr3
  obtain ⟨g4, gr5⟩ := and_e gr4
  obtain ⟨w0, w1, w2, w3, w4, w5, rfl⟩ : ∃ w0 w1 w2 w3 w4 w5 : Value, args = #[w0, w1, w2, w3, w4, w5] := by
    have hs : args.size = 6 := by simpa [Cond.value, given_1] using gc
    obtain ⟨L⟩ := args
    match L, hs with
    | [w0, w1, w2, w3, w4, w5], _ => exact ⟨w0, w1, w2, w3, w4, w5, rfl⟩
  have hw := fun d (hd : d ∈ tables_1) => atoms_spec (ws := Jvm.Cond.code x code maxLocals ret :: tables_1) hat d (List.mem_cons_of_mem _ hd)
  obtain ⟨i0, ei0⟩ := is_v g0
  obtain rfl : w0 = (.int i0) := Option.some.inj ei0
  obtain ⟨i1, ei1⟩ := is_v g1
  obtain rfl : w1 = (.int i1) := Option.some.inj ei1
  obtain ⟨i2, ei2⟩ := isL_v g2
  obtain rfl : w2 = (.long i2) := Option.some.inj ei2
  obtain ⟨i3, ei3⟩ := isL_v g3
  obtain rfl : w3 = (.long i3) := Option.some.inj ei3
  obtain ⟨i4, ei4⟩ := isL_v g4
  obtain rfl : w4 = (.long i4) := Option.some.inj ei4
  obtain ⟨i5, ei5⟩ := isL_v gr5
  obtain rfl : w5 = (.long i5) := Option.some.inj ei5
  obtain ⟨n, o, h1, h2, h3, _, L, rfl, ⟨rfl, N⟩, hq⟩ := rm0 l s _ hw tables_1 i0 i1 i2 i3 i4 i5 s.heap s.heap.size (Nat.le_refl _)  p e ha hc hk s m _ below hf ((Spec.applies_iff_loose hf).mp happ).1 ⟨rfl, State.Warmed39.refl s, rfl⟩ trivial
  refine ⟨n, _, h1, h2, h3, hpost _ _ _ _ _ _ ⟨Cond.after_iff.mpr rfl, Cond.after_iff.mpr (eq_i res_at (Term.int_eval (1)) rfl), trivial⟩ ⟨hq.1, hq.2.1, (hq.2.2.sift fun y hy => Or.inr (N y hy)).mono (by decide) (by decide)⟩⟩
theorem main_1_1 : Claimed_1_1 := comes_1 fun _ _ _ _ _ _ h hF => ⟨h.1, hF⟩
theorem main_1_2 : Claimed_1_2 := comes_1 fun _ _ _ _ _ _ h hF => ⟨h.2.1, hF⟩
end Jvm.Pilot.@@N@@
namespace Jvm.Pilot.@@N@@
open Jvm Jvm.ClassFile Sem Op Lib Jvm.Free Jvm.Stand Jvm.Pilot.@@N@@.Jvm.D
/-! MADE BY PROGRAM (witnessworld.py) out of the Statement's table words and the real class files: 12 classes; the members and pool entries that the words name. The judged class is class 1, her method 2. -/
namespace start1
open Jvm.ClassFile
def u (s : String) : CpInfo := .utf8 (stringToUtf16 s)
/-- a pool by its gaps: so many unusable entries, then the entry; so many at the end -/
def gap : Nat → List CpInfo → List CpInfo
  | 0, r => r
  | n + 1, r => .unusable :: gap n r
def poolList (es : List (Nat × CpInfo)) (last : Nat) : List CpInfo := es.foldr (fun e r => gap e.1 (e.2 :: r)) (gap last [])
def pool (es : List (Nat × CpInfo)) (last : Nat) : Array CpInfo := ⟨poolList es last⟩
def fileOf (pool : Array CpInfo) (this : Nat) (attrs : Array Attribute := #[]) (ms : Array MethodInfo := #[]) (fl : Nat := 33) (sup : Nat := 0) (ifs : Array Nat := #[]) (fds : Array FieldInfo := #[]) : ClassFile where
  minorVersion := 0
  majorVersion := 65
  constantPool := pool
  accessFlags := fl
  thisClass := this
  superClass := sup
  interfaces := ifs
  fields := fds
  methods := ms
  attributes := attrs
def plain (name : String) (sup : Option ClassId) : Class where
  name := name
  kind := .ordinary
  loader := none
  accessFlags := 33
  super := sup
  interfaces := #[]
  cf := none
  fields := #[]
  methods := #[]
  instanceTypes := #[]
  staticTypes := #[]
  resolved := #[]
  callSites := []
  init := .initialized
  statics := none
  mirror := none

def pool0 : Array CpInfo := pool [(5, u "<init>"), (0, u "()V"), (1, .class_ 10), (1, u "java/lang/Object")] 113

def k0c0 : Code := { maxStack := 0, maxLocals := 1, code := object_method_1_code, exceptionTable := #[], attributes := #[] }
def k0m0 : Method := { name := "<init>", desc := "()V", sig := { parameters := [], returnType := none }, accessFlags := 1, code := some k0c0 }
/-- java/lang/Object -/
def k0 : Class := { plain "java/lang/Object" none with
  accessFlags := 33
  interfaces := #[]
  cf := some (fileOf pool0 8 #[] #[{ accessFlags := 1, nameIndex := 5, descriptorIndex := 6, attributes := #[] }] 33 0 #[] #[])
  fields := #[]
  methods := #[k0m0]
  instanceTypes := #[]
  staticTypes := #[]
  resolved := Array.replicate 124 none
  statics := none }

def pool1 : Array CpInfo := pool [(2, .class_ 4), (1, u "java/lang/Object"), (0, u "<init>"), (0, u "()V"), (0, .long 64), (1, .methodref 10 11), (0, .class_ 12), (0, .nameAndType 13 14), (0, u "java/lang/Math"), (0, u "max"), (0, u "(JJ)J"), (0, .methodref 10 16), (0, .nameAndType 17 14), (0, u "min"), (0, .long 18446744073709551615), (1, .long 192), (1, .integer 2147483647), (0, .long 128), (1, .class_ 26), (0, u "com/example/galdict/galdict/model/PackedArray"), (0, .methodref 25 28), (0, .nameAndType 5 29), (0, u "(JI[J)V"), (0, .methodref 25 31), (0, .nameAndType 32 33), (0, u "set"), (0, u "(JJ)V"), (0, .methodref 35 36), (0, .class_ 37), (0, .nameAndType 38 39), (0, u "com/example/galdict/galdict/model/PackedArraySetPinLaw"), (0, u "expect"), (0, u "(JIJIJ)J"), (3, u "law"), (0, u "(IIJJJJ)Z")] 4

def k1m0 : Method := { name := "<init>", desc := "()V", sig := { parameters := [], returnType := none }, accessFlags := 1, code := none }
def k1c1 : Code := { maxStack := 6, maxLocals := 19, code := method_2_code, exceptionTable := #[], attributes := #[] }
def k1m1 : Method := { name := "expect", desc := "(JIJIJ)J", sig := { parameters := [.long, .int, .long, .int, .long], returnType := some .long }, accessFlags := 10, code := some k1c1 }
def k1c2 : Code := { maxStack := 10, maxLocals := 28, code := code, exceptionTable := #[], attributes := #[] }
def k1m2 : Method := { name := "law", desc := "(IIJJJJ)Z", sig := { parameters := [.int, .int, .long, .long, .long, .long], returnType := some .boolean }, accessFlags := 9, code := some k1c2 }
/-- com/example/galdict/galdict/model/PackedArraySetPinLaw -/
def k1 : Class := { plain "com/example/galdict/galdict/model/PackedArraySetPinLaw" (some 0) with
  accessFlags := 49
  interfaces := #[]
  cf := some (fileOf pool1 35 #[] #[{ accessFlags := 1, nameIndex := 5, descriptorIndex := 6, attributes := #[] }, { accessFlags := 10, nameIndex := 38, descriptorIndex := 39, attributes := #[] }, { accessFlags := 9, nameIndex := 43, descriptorIndex := 44, attributes := #[] }] 49 2 #[] #[])
  fields := #[]
  methods := #[k1m0, k1m1, k1m2]
  instanceTypes := #[]
  staticTypes := #[]
  resolved := Array.replicate 49 none
  statics := none }

def pool2 : Array CpInfo := pool [(2, .class_ 4), (1, u "com/example/galdict/galdict/model/PackedArray"), (4, u "<init>"), (0, u "(JI[J)V"), (0, .methodref 12 13), (0, .class_ 14), (0, .nameAndType 9 15), (0, u "java/lang/Object"), (0, u "()V"), (0, .fieldref 2 17), (0, .nameAndType 18 19), (0, u "length"), (0, u "J"), (0, .fieldref 2 21), (0, .nameAndType 22 23), (0, u "width"), (0, u "I"), (0, .long 18446744073709551615), (3, .fieldref 2 29), (0, .nameAndType 30 19), (0, u "mask"), (0, .fieldref 2 32), (0, .nameAndType 33 34), (0, u "words"), (0, u "[J"), (24, u "set"), (0, u "(JJ)V")] 17

def k2c0 : Code := { maxStack := 5, maxLocals := 5, code := prog_31_method_2_code, exceptionTable := #[], attributes := #[] }
def k2m0 : Method := { name := "<init>", desc := "(JI[J)V", sig := { parameters := [.long, .int, (.array .long)], returnType := none }, accessFlags := 1, code := some k2c0 }
def k2c1 : Code := { maxStack := 8, maxLocals := 10, code := prog_31_method_8_code, exceptionTable := #[], attributes := #[] }
def k2m1 : Method := { name := "set", desc := "(JJ)V", sig := { parameters := [.long, .long], returnType := none }, accessFlags := 1, code := some k2c1 }
/-- com/example/galdict/galdict/model/PackedArray -/
def k2 : Class := { plain "com/example/galdict/galdict/model/PackedArray" (some 0) with
  accessFlags := 33
  interfaces := #[]
  cf := some (fileOf pool2 2 #[] #[{ accessFlags := 1, nameIndex := 9, descriptorIndex := 10, attributes := #[] }, { accessFlags := 1, nameIndex := 59, descriptorIndex := 60, attributes := #[] }] 33 12 #[] #[{ accessFlags := 18, nameIndex := 18, descriptorIndex := 19, attributes := #[] }, { accessFlags := 18, nameIndex := 22, descriptorIndex := 23, attributes := #[] }, { accessFlags := 18, nameIndex := 30, descriptorIndex := 19, attributes := #[] }, { accessFlags := 18, nameIndex := 33, descriptorIndex := 34, attributes := #[] }])
  fields := #[{ name := "length", type := .long, accessFlags := 18, slot := 0, constantValue := 0 }, { name := "width", type := .int, accessFlags := 18, slot := 1, constantValue := 0 }, { name := "mask", type := .long, accessFlags := 18, slot := 2, constantValue := 0 }, { name := "words", type := (.array .long), accessFlags := 18, slot := 3, constantValue := 0 }]
  methods := #[k2m0, k2m1]
  instanceTypes := #[.long, .int, .long, (.array .long)]
  staticTypes := #[]
  resolved := Array.replicate 78 none
  statics := none }

def pool3 : Array CpInfo := pool [(1, .class_ 2), (0, u "java/lang/Math"), (1, .class_ 6), (1, u "java/lang/Object"), (0, u "<init>"), (0, u "()V"), (89, .class_ 100), (1, u "java/lang/Math$RandomNumberGeneratorHolder"), (20, u "(JJ)J"), (50, u "negativeZeroFloatBits"), (0, u "J"), (2, u "negativeZeroDoubleBits"), (21, u "max"), (2, u "min"), (43, u "$assertionsDisabled"), (0, u "Z"), (91, u "twoToTheDoubleScaleDown"), (0, u "D"), (4, u "twoToTheDoubleScaleUp"), (9, u "E"), (3, u "PI"), (2, u "TAU"), (2, u "DEGREES_TO_RADIANS"), (0, u "RADIANS_TO_DEGREES")] 94

def k3m0 : Method := { name := "<init>", desc := "()V", sig := { parameters := [], returnType := none }, accessFlags := 2, code := none }
def k3c1 : Code := { maxStack := 4, maxLocals := 4, code := jdk_29_method_66_code, exceptionTable := #[], attributes := #[] }
def k3m1 : Method := { name := "max", desc := "(JJ)J", sig := { parameters := [.long, .long], returnType := some .long }, accessFlags := 9, code := some k3c1 }
def k3c2 : Code := { maxStack := 4, maxLocals := 4, code := jdk_29_method_70_code, exceptionTable := #[], attributes := #[] }
def k3m2 : Method := { name := "min", desc := "(JJ)J", sig := { parameters := [.long, .long], returnType := some .long }, accessFlags := 9, code := some k3c2 }
/-- java/lang/Math -/
def k3 : Class := { plain "java/lang/Math" (some 0) with
  accessFlags := 49
  interfaces := #[]
  cf := some (fileOf pool3 1 #[.nestMembers #[98]] #[{ accessFlags := 2, nameIndex := 7, descriptorIndex := 8, attributes := #[] }, { accessFlags := 9, nameIndex := 198, descriptorIndex := 121, attributes := #[] }, { accessFlags := 9, nameIndex := 201, descriptorIndex := 121, attributes := #[] }] 49 4 #[] #[{ accessFlags := 25, nameIndex := 354, descriptorIndex := 339, attributes := #[] }, { accessFlags := 25, nameIndex := 358, descriptorIndex := 339, attributes := #[] }, { accessFlags := 25, nameIndex := 361, descriptorIndex := 339, attributes := #[] }, { accessFlags := 26, nameIndex := 364, descriptorIndex := 339, attributes := #[] }, { accessFlags := 26, nameIndex := 365, descriptorIndex := 339, attributes := #[] }, { accessFlags := 26, nameIndex := 172, descriptorIndex := 173, attributes := #[] }, { accessFlags := 26, nameIndex := 176, descriptorIndex := 173, attributes := #[] }, { accessFlags := 8, nameIndex := 344, descriptorIndex := 339, attributes := #[] }, { accessFlags := 8, nameIndex := 338, descriptorIndex := 339, attributes := #[] }, { accessFlags := 4120, nameIndex := 245, descriptorIndex := 246, attributes := #[] }])
  fields := #[{ name := "E", type := .double, accessFlags := 25, slot := 0, constantValue := 0 }, { name := "PI", type := .double, accessFlags := 25, slot := 1, constantValue := 0 }, { name := "TAU", type := .double, accessFlags := 25, slot := 2, constantValue := 0 }, { name := "DEGREES_TO_RADIANS", type := .double, accessFlags := 26, slot := 3, constantValue := 0 }, { name := "RADIANS_TO_DEGREES", type := .double, accessFlags := 26, slot := 4, constantValue := 0 }, { name := "negativeZeroFloatBits", type := .long, accessFlags := 26, slot := 5, constantValue := 0 }, { name := "negativeZeroDoubleBits", type := .long, accessFlags := 26, slot := 6, constantValue := 0 }, { name := "twoToTheDoubleScaleUp", type := .double, accessFlags := 8, slot := 7, constantValue := 0 }, { name := "twoToTheDoubleScaleDown", type := .double, accessFlags := 8, slot := 8, constantValue := 0 }, { name := "$assertionsDisabled", type := .boolean, accessFlags := 4120, slot := 9, constantValue := 0 }]
  methods := #[k3m0, k3m1, k3m2]
  instanceTypes := #[]
  staticTypes := #[.double, .double, .double, .double, .double, .long, .long, .double, .double, .boolean]
  resolved := Array.replicate 460 none
  statics := none }

def pool4 : Array CpInfo := pool [(1, u "java/lang/Cloneable"), (0, .class_ 1), (0, u "java/lang/Object"), (0, .class_ 3)] 3

/-- java/lang/Cloneable -/
def k4 : Class := { plain "java/lang/Cloneable" (some 0) with
  accessFlags := 1537
  interfaces := #[]
  cf := some (fileOf pool4 2 #[] #[] 1537 4 #[] #[])
  fields := #[]
  methods := #[]
  instanceTypes := #[]
  staticTypes := #[]
  resolved := Array.replicate 8 none
  statics := none }

def pool5 : Array CpInfo := pool [(1, u "java/io/Serializable"), (0, .class_ 1), (0, u "java/lang/Object"), (0, .class_ 3)] 3

/-- java/io/Serializable -/
def k5 : Class := { plain "java/io/Serializable" (some 0) with
  accessFlags := 1537
  interfaces := #[]
  cf := some (fileOf pool5 2 #[] #[] 1537 4 #[] #[])
  fields := #[]
  methods := #[]
  instanceTypes := #[]
  staticTypes := #[]
  resolved := Array.replicate 8 none
  statics := none }

/-- the primitive byte -/
def k6 : Class := { plain "byte" none with kind := .primitive 'B', accessFlags := 0x411 }
/-- [B -/
def k7 : Class := { plain "[B" (some 0) with kind := .array 6 .byte, interfaces := #[4, 5], accessFlags := 1041 }

/-- the primitive int -/
def k8 : Class := { plain "int" none with kind := .primitive 'I', accessFlags := 0x411 }
/-- [I -/
def k9 : Class := { plain "[I" (some 0) with kind := .array 8 .int, interfaces := #[4, 5], accessFlags := 1041 }

/-- the primitive long -/
def k10 : Class := { plain "long" none with kind := .primitive 'J', accessFlags := 0x411 }
/-- [J -/
def k11 : Class := { plain "[J" (some 0) with kind := .array 10 .long, interfaces := #[4, 5], accessFlags := 1041 }

def heap : Heap := #[]
def classes : Array Class := #[k0, k1, k2, k3, k4, k5, k6, k7, k8, k9, k10, k11]
def interned : List (Array UInt16 × Addr) := []
def slotsUsed : Nat := 0
def theMethod : MethodId := ⟨1, 2⟩
def args0 : Array Value := #[.int 5, .int 7, .long 9, .long 77, .long 5, .long 6]
def aboutOver (below : List Frame) : State where
  vm := { classes := classes, interned := interned.toArray }
  heap := heap
  slotsUsed := slotsUsed
  threads := #[{ frames := .invoking theMethod args0 :: below }]
def below0 : List Frame := [.native { method := ⟨0, 0⟩, args := #[] }]
def about1 : State := aboutOver below0
def p0 : Program := .bare "" "" ""
def e0 : Env := launch0.env 0 0 0
theorem w_frames : about1.frames = Frame.invoking theMethod args0 :: below0 := rfl
set_option maxRecDepth 65536 in
theorem w_args : argsFit about1.vm theMethod args0 = true := by decide +kernel
set_option maxRecDepth 65536 in
theorem w_heap : heapFits about1 = true := by decide +kernel
set_option maxRecDepth 65536 in
theorem w_runnable : about1.curStatus? = some .runnable := by decide +kernel
set_option maxRecDepth 65536 in
theorem w_alone : about1.alone = true := by decide +kernel
set_option maxRecDepth 65536 in
theorem w_named : about1.methodNamed? x = some theMethod := by decide +kernel
set_option maxRecDepth 65536 in
theorem w_hears : about1.hears theMethod below0 = true := by decide +kernel
set_option maxRecDepth 65536 in
theorem w_ripe : about1.ripe theMethod args0 below0 = true := by decide +kernel
theorem w_running : about1.status = .running := rfl
set_option maxRecDepth 65536 in
theorem w_room : about1.hasRoom e0.platform room_1 = true :=
  launch0.hasRoom_least _ room_1 (by decide +kernel) (by decide +kernel) (by decide +kernel) (by decide +kernel) (by decide +kernel) (by decide +kernel)
theorem allAtoms_all (ts : List Jvm.Cond) (a : Array Jvm.Value) (st : Jvm.State) : (allAtoms ts).before a st = ts.all (fun c => c.before a st) := by
  induction ts with
  | nil => rfl
  | cons c t ih =>
    show (Jvm.Cond.and c (allAtoms t)).before a st = _
    rw [Jvm.Cond.before_and, ih, List.all_cons]
def words1 : List Jvm.Cond := Jvm.Cond.code x code maxLocals ret :: tables_1
/-- a 'code' word, met by the world's own term for the bytes: nothing is compared byte by byte -/
theorem code_word {y : MethodName} {bytes : ByteArray} {mx : Nat} {rt : Option FieldType} {a : Array Value} {s : State} {m : MethodId} {meth : Method} {c : Code} (h1 : s.methodNamed? y = some m) (h2 : s.vm.method? m = some meth) (h3 : meth.code = some c) (h4 : c.code = bytes)
    (h5 : (c.maxLocals == mx && c.exceptionTable.isEmpty && decide (c.maxStack ≤ mostOperands) && decide (meth.sig.returnType = rt) && !meth.locks && decide (parseMethodDescriptor y.desc = some meth.sig)) = true) : (Jvm.Cond.code y bytes mx rt).before a s = true := by
  simp only [Bool.and_eq_true, beq_iff_eq, Bool.not_eq_true', decide_eq_true_eq] at h5
  obtain ⟨⟨⟨⟨⟨g1, g2⟩, g3⟩, g4⟩, g5⟩, g6⟩ := h5
  simp [Cond.before, Cond.holds, Cond.value, h1, h2, h3, h4, g1, g2, g3, g4, g5, g6]
def isCode : Jvm.Cond → Bool
  | .code _ _ _ _ => true
  | _ => false
theorem all_split {L : List Jvm.Cond} {P : Jvm.Cond → Bool} (h1 : L.all (fun c => isCode c || P c) = true) (h2 : ∀ c ∈ L.filter isCode, P c = true) : L.all P = true := by
  refine List.all_eq_true.mpr fun c hc => ?_
  have h := List.all_eq_true.mp h1 c hc
  rcases Bool.eq_false_or_eq_true (isCode c) with hi | hi
  · exact h2 c (List.mem_filter.mpr ⟨hc, hi⟩)
  · simpa [hi] using h
set_option maxRecDepth 65536 in
theorem w_c0 : (Jvm.Cond.code x code maxLocals ret).before args0 about1 = true := code_word (m := ⟨1, 2⟩) (meth := k1m2) (c := k1c2) (by decide +kernel) rfl rfl rfl (by decide +kernel)
set_option maxRecDepth 65536 in
theorem w_c1 : (Jvm.Cond.code ({ cls := "com/example/galdict/galdict/model/PackedArray", name := "<init>", desc := "(JI[J)V" } : Jvm.MethodName) prog_31_method_2_code (5 : Nat) (Option.none : Option Jvm.ClassFile.FieldType)).before args0 about1 = true := code_word (m := ⟨2, 0⟩) (meth := k2m0) (c := k2c0) (by decide +kernel) rfl rfl rfl (by decide +kernel)
set_option maxRecDepth 65536 in
theorem w_c2 : (Jvm.Cond.code ({ cls := "java/lang/Object", name := "<init>", desc := "()V" } : Jvm.MethodName) object_method_1_code (1 : Nat) (Option.none : Option Jvm.ClassFile.FieldType)).before args0 about1 = true := code_word (m := ⟨0, 0⟩) (meth := k0m0) (c := k0c0) (by decide +kernel) rfl rfl rfl (by decide +kernel)
set_option maxRecDepth 65536 in
theorem w_c3 : (Jvm.Cond.code ({ cls := "com/example/galdict/galdict/model/PackedArray", name := "set", desc := "(JJ)V" } : Jvm.MethodName) prog_31_method_8_code (10 : Nat) (Option.none : Option Jvm.ClassFile.FieldType)).before args0 about1 = true := code_word (m := ⟨2, 1⟩) (meth := k2m1) (c := k2c1) (by decide +kernel) rfl rfl rfl (by decide +kernel)
set_option maxRecDepth 65536 in
theorem w_c4 : (Jvm.Cond.code ({ cls := "com/example/galdict/galdict/model/PackedArraySetPinLaw", name := "expect", desc := "(JIJIJ)J" } : Jvm.MethodName) method_2_code (19 : Nat) (Option.some Jvm.ClassFile.FieldType.long)).before args0 about1 = true := code_word (m := ⟨1, 1⟩) (meth := k1m1) (c := k1c1) (by decide +kernel) rfl rfl rfl (by decide +kernel)
set_option maxRecDepth 65536 in
theorem w_c5 : (Jvm.Cond.code ({ cls := "java/lang/Math", name := "max", desc := "(JJ)J" } : Jvm.MethodName) jdk_29_method_66_code (4 : Nat) (Option.some Jvm.ClassFile.FieldType.long)).before args0 about1 = true := code_word (m := ⟨3, 1⟩) (meth := k3m1) (c := k3c1) (by decide +kernel) rfl rfl rfl (by decide +kernel)
set_option maxRecDepth 65536 in
theorem w_c6 : (Jvm.Cond.code ({ cls := "java/lang/Math", name := "min", desc := "(JJ)J" } : Jvm.MethodName) jdk_29_method_70_code (4 : Nat) (Option.some Jvm.ClassFile.FieldType.long)).before args0 about1 = true := code_word (m := ⟨3, 2⟩) (meth := k3m2) (c := k3c2) (by decide +kernel) rfl rfl rfl (by decide +kernel)
def codes1 : List Jvm.Cond := [Jvm.Cond.code x code maxLocals ret, Jvm.Cond.code ({ cls := "com/example/galdict/galdict/model/PackedArray", name := "<init>", desc := "(JI[J)V" } : Jvm.MethodName) prog_31_method_2_code (5 : Nat) (Option.none : Option Jvm.ClassFile.FieldType), Jvm.Cond.code ({ cls := "java/lang/Object", name := "<init>", desc := "()V" } : Jvm.MethodName) object_method_1_code (1 : Nat) (Option.none : Option Jvm.ClassFile.FieldType), Jvm.Cond.code ({ cls := "com/example/galdict/galdict/model/PackedArray", name := "set", desc := "(JJ)V" } : Jvm.MethodName) prog_31_method_8_code (10 : Nat) (Option.none : Option Jvm.ClassFile.FieldType), Jvm.Cond.code ({ cls := "com/example/galdict/galdict/model/PackedArraySetPinLaw", name := "expect", desc := "(JIJIJ)J" } : Jvm.MethodName) method_2_code (19 : Nat) (Option.some Jvm.ClassFile.FieldType.long), Jvm.Cond.code ({ cls := "java/lang/Math", name := "max", desc := "(JJ)J" } : Jvm.MethodName) jdk_29_method_66_code (4 : Nat) (Option.some Jvm.ClassFile.FieldType.long), Jvm.Cond.code ({ cls := "java/lang/Math", name := "min", desc := "(JJ)J" } : Jvm.MethodName) jdk_29_method_70_code (4 : Nat) (Option.some Jvm.ClassFile.FieldType.long)]
set_option maxRecDepth 65536 in
theorem codes_eq : words1.filter isCode = codes1 := rfl
theorem w_codes : ∀ c ∈ words1.filter isCode, c.before args0 about1 = true := by
  rw [codes_eq]
  intro c hc
  simp only [codes1, List.mem_cons, List.not_mem_nil, or_false] at hc
  rcases hc with rfl | rfl | rfl | rfl | rfl | rfl | rfl
  · exact w_c0
  · exact w_c1
  · exact w_c2
  · exact w_c3
  · exact w_c4
  · exact w_c5
  · exact w_c6
set_option maxRecDepth 65536 in
theorem w_t1 : (words1.take 24).all (fun c => isCode c || c.before args0 about1) = true := by decide +kernel
set_option maxRecDepth 65536 in
theorem w_t2 : (words1.drop 24).all (fun c => isCode c || c.before args0 about1) = true := by decide +kernel
theorem w_tables : (allAtoms (Jvm.Cond.code x code maxLocals ret :: tables_1)).before args0 about1 = true := by
  rw [allAtoms_all]
  show words1.all (fun c => c.before args0 about1) = true
  refine all_split ?_ w_codes
  rw [← List.take_append_drop 24 words1, List.all_append, w_t1, w_t2]
  rfl
set_option maxRecDepth 65536 in
theorem w_case : (Jvm.Cond.and given_1 narrow_1).before args0 about1 = true := by decide +kernel
theorem w_applies : (headSpec (Jvm.Cond.code x code maxLocals ret :: tables_1) room_1).applies x e0.platform about1 = true :=
  (Spec.applies_iff w_frames).mpr ⟨w_running, w_runnable, w_alone, w_named, w_hears, w_ripe, w_room, w_tables⟩
theorem atStart : AtStart classFile x code maxLocals ret World_1 tables_1 room_1 Calls_1 rest_1 Pre_1 launch0 p0 e0 about1 theMethod args0 below0 :=
  ⟨lists_1, trivial, launch0.admits_env _ _ _, launch0.least_env, fairChoices_fair.cas, fairChoices_fair.clock, w_frames, w_args, w_heap, w_applies, trivial, trivial, w_case⟩
end start1
theorem witness_1 : WitnessClaimed_1 := ⟨start1.p0, start1.e0, start1.about1, start1.theMethod, start1.args0, start1.below0, start1.atStart⟩
end Jvm.Pilot.@@N@@
