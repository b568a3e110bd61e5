import JvmDerived
import JvmDerived.Pilot.@@N@@Statement
import JvmDerived.Pilot.@@N@@Code
set_option linter.unusedVariables false
set_option linter.unusedSimpArgs false
namespace Jvm.Pilot.@@N@@
open Jvm Jvm.ClassFile Sem Op Lib Jvm.Free Jvm.Stand Jvm.LawKit Jvm.RoadKit Bundle Jvm.Pilot.@@N@@.Jvm.D
section Own
variable {p : Program} {l : Launch} {e : Env} {R : Room} {s : State} {m : MethodId} {args : Array Value} {below : List Frame} {meth : Method} {c : Code} {T : State} {locs : List Loc} {cells slots : Nat} {Z : State} {a0 : Array Value} {h h' : Heap} {Q : Option Value → Heap → List Loc → Prop} {k n : Nat}
/-- from U the walk comes to a return of which Q holds -/
def Goes (p : Program) (e : Env) (below : List Frame) (s : State) (Q : Option Value → Heap → List Loc → Prop) (k n : Nat) (U : State) : Prop :=
  ∃ s₂ o, Steps p.tables e below U s₂ ∧ s₂.status = .running ∧ Ended s₂ below o ∧ ∃ v L, o = .returned v ∧ Q v s₂.heap L ∧ FrameEnd s o s₂ L k n
theorem Goes.go {U U' : State} (h : ∀ t, Steps p.tables e below U' t → Steps p.tables e below U t) (r : Goes p e below s Q k n U') : Goes p e below s Q k n U := by
  obtain ⟨s₂, o, h1, r⟩ := r
  exact ⟨s₂, o, h _ h1, r⟩
theorem Goes.outI (X : Stand p l e R s m args below meth c T locs cells slots) (hx : p.tables.exec = Jvm.exec) (hlk : meth.locks = false) (hret : meth.sig.returnType = some .int) {pc : Nat} {Ls : Array Slot} {z : Int32} (hd : decode c.code pc = .ok (.ireturn, 1)) (eT : T.heap = h) (hq : Q (some (.int z)) h locs) (hk : cells ≤ k) (hn : slots ≤ n) :
    Goes p e below s Q k n (T.setTop (mkF m pc Ls [.int z])) := by
  obtain ⟨fs, hr, hrun, hended, hW, hsame⟩ := X.leave (v := some (.int z)) (fun h => by rw [hret] at h; cases h) hlk
  refine ⟨_, _, X.ireturnOut hx hret rfl (Or.inl rfl) hd hr, hrun, hended, _, _, rfl, ?_, ⟨_, rfl⟩, hW, hsame.mono hk hn⟩
  show Q _ T.heap _
  rw [eT]; exact hq
theorem Goes.outZ (X : Stand p l e R s m args below meth c T locs cells slots) (hx : p.tables.exec = Jvm.exec) (hlk : meth.locks = false) (hret : meth.sig.returnType = some .boolean) {pc : Nat} {Ls : Array Slot} {z : Int32} (hz : narrow .boolean (.int z) = .int z) (hd : decode c.code pc = .ok (.ireturn, 1)) (eT : T.heap = h) (hq : Q (some (.int z)) h locs) (hk : cells ≤ k) (hn : slots ≤ n) :
    Goes p e below s Q k n (T.setTop (mkF m pc Ls [.int z])) := by
  obtain ⟨fs, hr, hrun, hended, hW, hsame⟩ := X.leave (v := some (.int z)) (fun h => by rw [hret] at h; cases h) hlk
  refine ⟨_, _, X.ireturnOut hx hret hz (Or.inr (Or.inl rfl)) hd hr, hrun, hended, _, _, rfl, ?_, ⟨_, rfl⟩, hW, hsame.mono hk hn⟩
  show Q _ T.heap _
  rw [eT]; exact hq
theorem Goes.outJ (X : Stand p l e R s m args below meth c T locs cells slots) (hx : p.tables.exec = Jvm.exec) (hlk : meth.locks = false) (hret : meth.sig.returnType = some .long) {pc : Nat} {Ls : Array Slot} {z : Int64} (hd : decode c.code pc = .ok (.lreturn, 1)) (eT : T.heap = h) (hq : Q (some (.long z)) h locs) (hk : cells ≤ k) (hn : slots ≤ n) :
    Goes p e below s Q k n (T.setTop (mkF m pc Ls [.long z])) := by
  obtain ⟨fs, hr, hrun, hended, hW, hsame⟩ := X.leave (v := some (.long z)) (fun h => by rw [hret] at h; cases h) hlk
  refine ⟨_, _, X.lreturnOut hx hret hd hr, hrun, hended, _, _, rfl, ?_, ⟨_, rfl⟩, hW, hsame.mono hk hn⟩
  show Q _ T.heap _
  rw [eT]; exact hq
theorem Goes.outA (X : Stand p l e R s m args below meth c T locs cells slots) (hx : p.tables.exec = Jvm.exec) (hlk : meth.locks = false) {t : FieldType} (hret : meth.sig.returnType = some t) (ht : t.isReference = true) {pc : Nat} {Ls : Array Slot} {w : Value} (hw : w.isRef = true) (hd : decode c.code pc = .ok (.areturn, 1)) (eT : T.heap = h) (hq : Q (some w) h locs) (hk : cells ≤ k) (hn : slots ≤ n) :
    Goes p e below s Q k n (T.setTop (mkF m pc Ls [w])) := by
  obtain ⟨fs, hr, hrun, hended, hW, hsame⟩ := X.leave (v := some w) (fun h => by rw [hret] at h; cases h) hlk
  refine ⟨_, _, X.areturnOut hx hw hret ht hd hr, hrun, hended, _, _, rfl, ?_, ⟨_, rfl⟩, hW, hsame.mono hk hn⟩
  show Q _ T.heap _
  rw [eT]; exact hq
theorem Goes.outV (X : Stand p l e R s m args below meth c T locs cells slots) (hx : p.tables.exec = Jvm.exec) (hlk : meth.locks = false) (hret : meth.sig.returnType = none) {pc : Nat} {Ls : Array Slot} (hd : decode c.code pc = .ok (.return_, 1)) (eT : T.heap = h) (hq : Q none h locs) (hk : cells ≤ k) (hn : slots ≤ n) :
    Goes p e below s Q k n (T.setTop (mkF m pc Ls [])) := by
  obtain ⟨fs, hr, hrun, hended, hW, hsame⟩ := X.leave (v := none) (fun _ => rfl) hlk
  refine ⟨_, _, X.returnOut hx hret hd hr, hrun, hended, _, _, rfl, ?_, ⟨_, rfl⟩, hW, hsame.mono hk hn⟩
  show Q _ T.heap _
  rw [eT]; exact hq
/-- an array, by the list of what it holds -/
def Arl (Z : State) (h : Heap) (a : Addr) (ty : FieldType) (vs : List Value) : Prop := ∃ c : Cell, Arr Z h a c ty ∧ c.slots.toList = vs
section Arls
variable {a b : Addr} {ty : FieldType} {vs : List Value} {v : Value} {sl : Nat} {ws : List Addr} {j : Int32}
theorem Arl.lt (F : Arl Z h a ty vs) : a < h.size := by obtain ⟨c, A, -⟩ := F; exact A.lt
theorem Arl.ext (F : Arl Z h a ty vs) (E : Ext h h') : Arl Z h' a ty vs := by obtain ⟨c, A, r⟩ := F; exact ⟨c, A.ext E, r⟩
theorem Arl.other (F : Arl Z h b ty vs) (W : Wr h h' a sl v) (q : b ≠ a) : Arl Z h' b ty vs := by obtain ⟨c, A, r⟩ := F; exact ⟨c, A.other W q, r⟩
theorem Arl.keep (F : Arl Z h a ty vs) (K : Keep h h' ws) (q : a ∉ ws) : Arl Z h' a ty vs := by obtain ⟨c, A, r⟩ := F; exact ⟨c, ⟨K.2.1 a c A.1 q, A.2⟩, r⟩
theorem Arl.set (F : Arl Z h a ty vs) (W : Wr h h' a sl v) : Arl Z h' a ty (vs.set sl v) := by
  obtain ⟨c, A, r⟩ := F
  refine ⟨_, A.same W, ?_⟩
  subst r
  simp [Cell.setSlot]
theorem Arl.eq {vs' : List Value} (F : Arl Z h a ty vs) (e : vs = vs') : Arl Z h a ty vs' := e ▸ F
theorem own_in {c : Cell} (r : c.slots.toList = vs) (h0 : ¬ j < 0) (h1 : j.toNatClampNeg < vs.length) : ¬ (j < 0 ∨ c.slots.size ≤ j.toNatClampNeg) := by
  subst r
  intro q
  rcases q with q | q
  · exact h0 q
  · rw [Array.length_toList] at h1; omega
theorem own_lt (hv : vs[sl]? = some v) : sl < vs.length := (List.getElem?_eq_some_iff.mp hv).1
end Arls
theorem own_ati {xs : List Int32} {j : Nat} {w : Int32} (h : xs[j]? = some w) : (xs.map Value.int)[j]? = some (.int w) := by
  rw [List.getElem?_map, h]; rfl
theorem own_lni {xs : List Int32} {j k : Nat} (hl : xs.length = k) (h : j < k) : j < (xs.map Value.int).length := by
  rw [List.length_map, hl]; exact h
theorem own_sti {a : Addr} {xs : List Int32} {j : Nat} {w : Int32} (A : Arl Z h a .int ((xs.map Value.int).set j (.int w))) : Arl Z h a .int ((xs.set j w).map Value.int) := A.eq List.map_set.symm
theorem own_selP {C : String} {y y' : MethodName} (hs : (Cond.selects C y' y').before args s = true) (hcls : y'.cls = y.cls) (hpriv : s.PrivateAt y) (hinst : (Cond.instanceMethod y).before args s = true) (hy : y.cls ≠ "java/lang/invoke/MethodHandle" ∧ y.cls ≠ "java/lang/invoke/VarHandle") : (Cond.selects y.cls y y).before args s = true := by
  obtain ⟨c2, r2, m2, -, -, q3, -, kP, hkP, hkPi⟩ := Cond.selects_spec hs
  have hc : s.vm.findClass y.cls = some m2.cls := hcls ▸ findClass_of_methodNamed q3
  exact selects_self_of_private hc hkP hkPi hpriv hinst hy
theorem own_neA {a b : Addr} {C : String} {k : Nat} {ty : FieldType} {vs : List Value} (F : Exa Z h a C) (wi : (Cond.instantiable C k).before a0 Z = true) (G : Arl Z h b ty vs) : a ≠ b := by
  obtain ⟨c', A', -⟩ := G
  exact ne_arr F wi A'
theorem own_newP (X : Stand p l e R s m args below meth c T locs cells slots) (hx : p.tables.exec = Jvm.exec) (hZ : Z.Warmed39 s.vm) {aty : ArrayType} (w : (Cond.arrayClass (newarray.typeOf aty)).before a0 Z = true) (eT : T.heap = h) {g : JFrame} (hg : g.method = m) (hd : decode c.code g.pc = .ok (.newarray aty, 2)) {n : Int32} {rest : List Value} (hs : g.stack = .int n :: rest)
    (hn : ¬ n < 0) {cap : Nat} (hcap : n.toNatClampNeg ≤ cap) (hb : cap * 8 ≤ 536870912) (hc : cells + 1 ≤ R.cells) (hl : slots + cap ≤ R.slots) :
    ∃ T' h', Stand p l e R s m args below meth c T' locs (cells + 1) (slots + cap) ∧ T'.heap = h' ∧ Ext h h' ∧ Arl Z h' h.size (newarray.typeOf aty) (List.replicate n.toNatClampNeg (defaultValue (newarray.typeOf aty))) ∧
      ∀ target, Steps p.tables e below (T'.setTop { g with pc := g.pc + 2, stack := .ref h.size :: rest }) target → Steps p.tables e below (T.setTop g) target := by
  obtain ⟨T', h', cA, X', e', E', A', st⟩ := newP X hx hZ w eT hg hd hs hn hcap hb hc hl
  exact ⟨T', h', X', e', E', ⟨_, A', by simp [newA]⟩, st⟩
theorem own_stB (X : Stand p l e R s m args below meth c T locs cells slots) (hx : p.tables.exec = Jvm.exec) (hZ : Z.Warmed39 s.vm) (eT : T.heap = h) {a : Addr} {vs : List Value} (A : Arl Z h a .byte vs) {j x : Int32} (hj : ¬ j < 0) (hj' : j.toNatClampNeg < vs.length) {g : JFrame} (hg : g.method = m) {rest : List Value} (hs : g.stack = .int x :: .int j :: .ref a :: rest) (hd : decode c.code g.pc = .ok (.bastore, 1)) :
    ∃ T' h', Stand p l e R s m args below meth c T' (locs ++ [⟨a, j.toNatClampNeg⟩]) cells slots ∧ T'.heap = h' ∧ Wr h h' a j.toNatClampNeg (.int x.toInt8.toInt32) ∧ Arl Z h' a .byte (vs.set j.toNatClampNeg (.int x.toInt8.toInt32)) ∧ ∀ target, Steps p.tables e below (T'.setTop { g with pc := g.pc + 1, stack := rest }) target → Steps p.tables e below (T.setTop g) target := by
  obtain ⟨c', A', r⟩ := A
  obtain ⟨T', h', X', e', W, st⟩ := stB X hx hZ eT A' (own_in r hj hj') hg hs hd
  exact ⟨T', h', X', e', W, Arl.set ⟨c', A', r⟩ W, st⟩
theorem own_stI (X : Stand p l e R s m args below meth c T locs cells slots) (hx : p.tables.exec = Jvm.exec) (hZ : Z.Warmed39 s.vm) (eT : T.heap = h) {a : Addr} {vs : List Value} (A : Arl Z h a .int vs) {j x : Int32} (hj : ¬ j < 0) (hj' : j.toNatClampNeg < vs.length) {g : JFrame} (hg : g.method = m) {rest : List Value} (hs : g.stack = .int x :: .int j :: .ref a :: rest) (hd : decode c.code g.pc = .ok (.iastore, 1)) :
    ∃ T' h', Stand p l e R s m args below meth c T' (locs ++ [⟨a, j.toNatClampNeg⟩]) cells slots ∧ T'.heap = h' ∧ Wr h h' a j.toNatClampNeg (.int x) ∧ Arl Z h' a .int (vs.set j.toNatClampNeg (.int x)) ∧ ∀ target, Steps p.tables e below (T'.setTop { g with pc := g.pc + 1, stack := rest }) target → Steps p.tables e below (T.setTop g) target := by
  obtain ⟨c', A', r⟩ := A
  obtain ⟨T', h', X', e', W, st⟩ := stI X hx hZ eT A' (own_in r hj hj') hg hs hd
  exact ⟨T', h', X', e', W, Arl.set ⟨c', A', r⟩ W, st⟩
theorem own_stJ (X : Stand p l e R s m args below meth c T locs cells slots) (hx : p.tables.exec = Jvm.exec) (hZ : Z.Warmed39 s.vm) (eT : T.heap = h) {a : Addr} {vs : List Value} (A : Arl Z h a .long vs) {j : Int32} {x : Int64} (hj : ¬ j < 0) (hj' : j.toNatClampNeg < vs.length) {g : JFrame} (hg : g.method = m) {rest : List Value} (hs : g.stack = .long x :: .int j :: .ref a :: rest) (hd : decode c.code g.pc = .ok (.lastore, 1)) :
    ∃ T' h', Stand p l e R s m args below meth c T' (locs ++ [⟨a, j.toNatClampNeg⟩]) cells slots ∧ T'.heap = h' ∧ Wr h h' a j.toNatClampNeg (.long x) ∧ Arl Z h' a .long (vs.set j.toNatClampNeg (.long x)) ∧ ∀ target, Steps p.tables e below (T'.setTop { g with pc := g.pc + 1, stack := rest }) target → Steps p.tables e below (T.setTop g) target := by
  obtain ⟨c', A', r⟩ := A
  obtain ⟨T', h', X', e', W, st⟩ := stJ X hx hZ eT A' (own_in r hj hj') hg hs hd
  exact ⟨T', h', X', e', W, Arl.set ⟨c', A', r⟩ W, st⟩
theorem own_at {a : Addr} {c' : Cell} {vs : List Value} {v : Value} {j : Int32} (r : c'.slots.toList = vs) (hv : vs[j.toNatClampNeg]? = some v) : c'.slots[j.toNatClampNeg]? = some v := by
  subst r; simpa using hv
theorem own_ldB (X : Stand p l e R s m args below meth c T locs cells slots) (hx : p.tables.exec = Jvm.exec) (hZ : Z.Warmed39 s.vm) (eT : T.heap = h) {a : Addr} {vs : List Value} {v : Value} (A : Arl Z h a .byte vs) {j : Int32} (hj : ¬ j < 0) (hv : vs[j.toNatClampNeg]? = some v) {g : JFrame} (hg : g.method = m) {rest : List Value} (hs : g.stack = .int j :: .ref a :: rest) (hd : decode c.code g.pc = .ok (.baload, 1)) :
    ∀ target, Steps p.tables e below (T.setTop { g with pc := g.pc + 1, stack := v :: rest }) target → Steps p.tables e below (T.setTop g) target := by
  obtain ⟨c', A', r⟩ := A
  exact fun t k => X.baloadBytes hx (by rw [eT]; exact A'.1) (State.isArrayOf_alike hZ.alike A'.2.1) A'.2.2 (own_in r hj (own_lt hv)) (own_at (a := a) r hv) hg hs hd t k
theorem own_ldI (X : Stand p l e R s m args below meth c T locs cells slots) (hx : p.tables.exec = Jvm.exec) (hZ : Z.Warmed39 s.vm) (eT : T.heap = h) {a : Addr} {vs : List Value} {v : Value} (A : Arl Z h a .int vs) {j : Int32} (hj : ¬ j < 0) (hv : vs[j.toNatClampNeg]? = some v) {g : JFrame} (hg : g.method = m) {rest : List Value} (hs : g.stack = .int j :: .ref a :: rest) (hd : decode c.code g.pc = .ok (.iaload, 1)) :
    ∀ target, Steps p.tables e below (T.setTop { g with pc := g.pc + 1, stack := v :: rest }) target → Steps p.tables e below (T.setTop g) target := by
  obtain ⟨c', A', r⟩ := A
  exact fun t k => X.iaload hx (by rw [eT]; exact A'.1) (State.isArrayOf_alike hZ.alike A'.2.1) A'.2.2 (own_in r hj (own_lt hv)) (own_at (a := a) r hv) hg hs hd t k
theorem own_ldJ (X : Stand p l e R s m args below meth c T locs cells slots) (hx : p.tables.exec = Jvm.exec) (hZ : Z.Warmed39 s.vm) (eT : T.heap = h) {a : Addr} {vs : List Value} {v : Value} (A : Arl Z h a .long vs) {j : Int32} (hj : ¬ j < 0) (hv : vs[j.toNatClampNeg]? = some v) {g : JFrame} (hg : g.method = m) {rest : List Value} (hs : g.stack = .int j :: .ref a :: rest) (hd : decode c.code g.pc = .ok (.laload, 1)) :
    ∀ target, Steps p.tables e below (T.setTop { g with pc := g.pc + 1, stack := v :: rest }) target → Steps p.tables e below (T.setTop g) target := by
  obtain ⟨c', A', r⟩ := A
  exact fun t k => X.laload hx (by rw [eT]; exact A'.1) (State.isArrayOf_alike hZ.alike A'.2.1) A'.2.2 (own_in r hj (own_lt hv)) (own_at (a := a) r hv) hg hs hd t k
theorem own_len (X : Stand p l e R s m args below meth c T locs cells slots) (hx : p.tables.exec = Jvm.exec) (hZ : Z.Warmed39 s.vm) (eT : T.heap = h) {a : Addr} {ty : FieldType} {vs : List Value} (A : Arl Z h a ty vs) {n : Int32} (hn : vs.length.toInt32 = n) {g : JFrame} (hg : g.method = m) {rest : List Value} (hs : g.stack = .ref a :: rest) (hd : decode c.code g.pc = .ok (.arraylength, 1)) :
    ∀ target, Steps p.tables e below (T.setTop { g with pc := g.pc + 1, stack := .int n :: rest }) target → Steps p.tables e below (T.setTop g) target := by
  obtain ⟨c', A', r⟩ := A
  have q : c'.slots.size.toInt32 = n := by rw [← hn, ← r, Array.length_toList]
  exact fun t k => X.arraylength hx (ty := ty) (by rw [eT]; exact A'.1) (State.isArrayOf_alike hZ.alike A'.2.1) hg hs hd t (q.symm ▸ k)
end Own
theorem own_nat32 {q : Int32} {k : Nat} (h : q.toInt = k) : q.toBitVec.toNat = k := by
  have h1 : q.toBitVec.toInt = k := h
  rw [BitVec.toInt_eq_toNat_cond] at h1
  have := q.toBitVec.isLt
  split at h1 <;> omega
theorem own_nat64 {q : Int64} {k : Nat} (h : q.toInt = k) : q.toBitVec.toNat = k := by
  have h1 : q.toBitVec.toInt = k := h
  rw [BitVec.toInt_eq_toNat_cond] at h1
  have := q.toBitVec.isLt
  split at h1 <;> omega
theorem own_ushr (x : Int64) (q : Int32) (k : Nat) (h : q.toInt = k) (hk : k < 64) : ((x.toUInt64 >>> (q &&& 0x3f).toInt64.toUInt64).toInt64).toBitVec = x.toBitVec >>> k := by
  have hq : q.toBitVec.toNat % 64 = k := by rw [own_nat32 h]; omega
  show x.toBitVec >>> ((q &&& 0x3f).toInt64.toBitVec % 64) = x.toBitVec >>> k
  rw [BitVec.ushiftRight_eq', BitVec.toNat_umod, (sm64 q k hq).1, BitVec.toNat_ofNat]
  congr 1
  show k % 2 ^ 64 % 64 = k
  omega
theorem own_shl (x : Int64) (q : Int32) (k : Nat) (h : q.toInt = k) (hk : k < 64) : (x <<< (q &&& 0x3f).toInt64).toBitVec = x.toBitVec <<< k := by
  have hq : q.toBitVec.toNat % 64 = k := by rw [own_nat32 h]; omega
  show x.toBitVec <<< ((q &&& 0x3f).toInt64.toBitVec.smod 64) = x.toBitVec <<< k
  rw [BitVec.shiftLeft_eq', (sm64 q k hq).1, smod64 k hk]
/-- bit i of a long -/
def lbit (x : Int64) (i : Nat) : Bool := x.toBitVec.getLsbD i
theorem lbit_ext {x y : Int64} (h : ∀ i, i < 64 → lbit x i = lbit y i) : x = y := by
  apply Int64.toBitVec_inj.mp
  apply BitVec.eq_of_getLsbD_eq
  exact h
theorem lbit_hi {x : Int64} {i : Nat} (h : 64 ≤ i) : lbit x i = false := BitVec.getLsbD_of_ge _ _ h
theorem lbit_and (x y : Int64) (i : Nat) : lbit (x &&& y) i = (lbit x i && lbit y i) := by simp [lbit, Int64.toBitVec_and]
theorem lbit_or (x y : Int64) (i : Nat) : lbit (x ||| y) i = (lbit x i || lbit y i) := by simp [lbit, Int64.toBitVec_or]
theorem lbit_xor (x y : Int64) (i : Nat) : lbit (x ^^^ y) i = (lbit x i ^^ lbit y i) := by simp [lbit, Int64.toBitVec_xor]
theorem lbit_ushr {x : Int64} {q : Int32} {k : Nat} (h : q.toInt = k) (hk : k < 64) (i : Nat) : lbit ((x.toUInt64 >>> (q &&& 0x3f).toInt64.toUInt64).toInt64) i = lbit x (k + i) := by
  unfold lbit; rw [own_ushr x q k h hk, BitVec.getLsbD_ushiftRight]
theorem lbit_shl {x : Int64} {q : Int32} {k : Nat} (h : q.toInt = k) (hk : k < 64) (i : Nat) : lbit (x <<< (q &&& 0x3f).toInt64) i = (decide (i < 64) && (!decide (i < k) && lbit x (i - k))) := by
  unfold lbit; rw [own_shl x q k h hk, BitVec.getLsbD_shiftLeft]; simp [Bool.and_assoc]
theorem lbit_m1 (i : Nat) : lbit (-1) i = decide (i < 64) := by
  unfold lbit
  rw [show (-1 : Int64).toBitVec = BitVec.allOnes 64 from by decide, BitVec.getLsbD_allOnes]
theorem own_one (x : Int64) : (x &&& (1 : Int64)) = if lbit x 0 then 1 else 0 := by
  apply lbit_ext
  intro i hi
  rw [lbit_and]
  have h1 : lbit 1 i = decide (i = 0) := by
    unfold lbit
    rw [show (1 : Int64).toBitVec = 1#64 from by decide, BitVec.getLsbD_one]
    simp
  rw [h1]
  have h0 : lbit 0 i = false := by unfold lbit; rw [show (0 : Int64).toBitVec = 0#64 from by decide]; simp
  by_cases e : i = 0
  · subst e
    cases hb : lbit x 0 <;> simp [h1, h0]
  · cases hb : lbit x 0 <;> simp [h1, h0, e]
def gW (ix : Int64) (w : Int32) : Int32 := (((ix * w.toInt64)).toUInt64 >>> ((6 : Int32) &&& 0x3f).toInt64.toUInt64).toInt64.toInt32
def gO (ix : Int64) (w : Int32) : Int32 := ((ix * w.toInt64).toInt32 &&& (63 : Int32))
def gF (x y mk : Int64) (off w : Int32) : Int64 :=
  if (64 : Int32) < off + w then (((x).toUInt64 >>> (off &&& 0x3f).toInt64.toUInt64).toInt64 ||| (y <<< (((64 : Int32) - off) &&& 0x3f).toInt64)) &&& mk
  else ((x).toUInt64 >>> (off &&& 0x3f).toInt64.toUInt64).toInt64 &&& mk
def wAt (w0 w1 w2 : Int64) (i : Nat) : Int64 := if i = 0 then w0 else if i = 1 then w1 else w2
theorem own_W {ix : Int64} {w : Int32} {B : Nat} (h : (ix * w.toInt64).toInt = B) (hB : B < 192) : (gW ix w).toInt = (B / 64 : Nat) := by
  have h1 := c_lushr (ix * w.toInt64) 6 6 (by decide) (by decide)
  unfold gW
  generalize ((ix * w.toInt64).toUInt64 >>> ((6 : Int32) &&& 0x3f).toInt64.toUInt64).toInt64 = q at *
  have e : q.toInt = (B / 64 : Nat) := by rw [h1, h]; omega
  rw [XT.narrowInt (by rw [e]; constructor <;> omega), e]
theorem own_O {ix : Int64} {w : Int32} {B : Nat} (h : (ix * w.toInt64).toInt = B) (hB : B < 192) : (gO ix w).toInt = (B % 64 : Nat) := by
  unfold gO
  have h1 := c_mask (ix * w.toInt64).toInt32 63 6 (by decide) (by decide)
  have h2 := c_l2i (ix * w.toInt64)
  generalize (ix * w.toInt64) = q at *
  omega
theorem own_sub64 {w : Int32} {k : Nat} (h : w.toInt = k) (h2 : k ≤ 64) : ((64 : Int32) - w).toInt = (64 - k : Nat) := by
  have e : (64 : Int32).toInt = 64 := by decide
  have h1 := c_isub 64 w
  have r := rng32 ((64 : Int32) - w)
  omega
theorem own_add {a b : Int32} {m n : Nat} (h : a.toInt = m) (h' : b.toInt = n) (q : m < 1000) (q' : n < 1000) : (a + b).toInt = (m + n : Nat) := by
  have h1 := c_iadd a b
  have r := rng32 (a + b)
  omega
theorem own_mask {w : Int32} {w' : Nat} (hw : w.toInt = w') (h1 : 1 ≤ w') (h2 : w' ≤ 64) (s : Nat) : lbit (((-1 : Int64)).toUInt64 >>> (((64 : Int32) - w) &&& 0x3f).toInt64.toUInt64).toInt64 s = decide (s < w') := by
  rw [lbit_ushr (own_sub64 hw h2) (by omega), lbit_m1]
  congr 1
  apply propext
  omega
theorem gF_bit {x y : Int64} {off w : Int32} {o w' : Nat} (ho : off.toInt = o) (ho' : o < 64) (hw : w.toInt = w') (h1 : 1 ≤ w') (h2 : w' ≤ 64) (s : Nat) (hs : s < 64) :
    lbit (gF x y (((-1 : Int64)).toUInt64 >>> (((64 : Int32) - w) &&& 0x3f).toInt64.toUInt64).toInt64 off w) s = (decide (s < w') && (if o + s < 64 then lbit x (o + s) else lbit y (o + s - 64))) := by
  have e64 : (64 : Int32).toInt = 64 := by decide
  unfold gF
  split
  · rename_i hc
    rw [Int32.lt_iff_toInt_lt, own_add ho hw (by omega) (by omega), e64] at hc
    rw [lbit_and, own_mask hw h1 h2, lbit_or, lbit_ushr ho ho', lbit_shl (own_sub64 ho (by omega)) (by omega)]
    by_cases hsw : s < w'
    · simp only [hsw, hs, decide_true, Bool.true_and, Bool.and_true]
      by_cases hlt : o + s < 64
      · have : s < 64 - o := by omega
        simp [hlt, this]
      · have h3 : ¬ s < 64 - o := by omega
        have h4 : s - (64 - o) = o + s - 64 := by omega
        rw [lbit_hi (by omega : 64 ≤ o + s)]
        simp [hlt, h3, h4]
    · simp [hsw]
  · rename_i hc
    rw [Int32.lt_iff_toInt_lt, own_add ho hw (by omega) (by omega), e64] at hc
    rw [lbit_and, own_mask hw h1 h2, lbit_ushr ho ho']
    by_cases hsw : s < w'
    · have hlt : o + s < 64 := by omega
      simp [hsw, hlt]
    · simp [hsw]
theorem own_wi (p : Int32) : ∃ w' : Nat, ((1 : Int32) + (p &&& (63 : Int32))).toInt = w' ∧ 1 ≤ w' ∧ w' ≤ 64 := by
  have h1 := c_mask p 63 6 (by decide) (by decide)
  have h2 := c_iadd 1 (p &&& (63 : Int32))
  have r := rng32 ((1 : Int32) + (p &&& (63 : Int32)))
  have e : (1 : Int32).toInt = 1 := by decide
  refine ⟨(((1 : Int32) + (p &&& (63 : Int32))).toInt).toNat, ?_, ?_, ?_⟩ <;> omega
theorem own_nlen {w : Int32} {w' : Nat} (hw : w.toInt = w') (h1 : 1 ≤ w') (h2 : w' ≤ 64) : ((192 : Int64) / w.toInt64).toInt = (192 / w' : Nat) := by
  have e : (192 : Int64).toInt = 192 := by decide
  have hi : w.toInt64.toInt = w' := by rw [Int32.toInt_toInt64, hw]
  have h := (c_ldiv 192 w.toInt64 w' hi (fun q => by rw [q] at hi; have : (-1 : Int64).toInt = -1 := by decide
                                                     omega)).1 (by omega)
  rw [h, e, Int.natCast_ediv]; rfl
theorem own_len0 {w' : Nat} (h1 : 1 ≤ w') (h2 : w' ≤ 64) : 3 ≤ 192 / w' ∧ 192 / w' * w' ≤ 192 ∧ 192 / w' ≤ 192 := by
  refine ⟨(Nat.le_div_iff_mul_le (by omega)).mpr (by omega), Nat.div_mul_le_self _ _, Nat.div_le_self _ _⟩
theorem own_mul {ix : Int64} {w : Int32} {i w' N : Nat} (hi : ix.toInt = i) (hw : w.toInt = w') (hN : i < N) (hN2 : N * w' ≤ 192) (h2 : w' ≤ 64) (hN3 : N ≤ 192) : (ix * w.toInt64).toInt = (i * w' : Nat) ∧ i * w' + w' ≤ 192 := by
  have h3 : (i + 1) * w' ≤ N * w' := Nat.mul_le_mul_right _ hN
  rw [Nat.add_mul, Nat.one_mul] at h3
  have hm : ix.toInt * w.toInt64.toInt = (i * w' : Nat) := by rw [Int32.toInt_toInt64, hi, hw]; exact (Int.natCast_mul _ _).symm
  refine ⟨?_, by omega⟩
  rw [XT.mul64 (by rw [hm]; constructor <;> omega), hm]
theorem own_wnz {w : Int32} {w' : Nat} (hw : w.toInt = w') (h1 : 1 ≤ w') : w.toInt64 ≠ 0 := fun q => by
  have e : w.toInt64.toInt = w' := by rw [Int32.toInt_toInt64, hw]
  rw [q] at e
  have : (0 : Int64).toInt = 0 := by decide
  omega
theorem own_nnz {n : Int64} {k : Nat} (h : n.toInt = k) (h3 : 3 ≤ k) : n ≠ 0 := fun q => by
  rw [q] at h
  have : (0 : Int64).toInt = 0 := by decide
  omega
theorem own_q1 {ix : Int64} {w : Int32} {B : Nat} (h : (ix * w.toInt64).toInt = B) (hB : B < 192) : ¬ gW ix w < 0 := by
  rw [Int32.lt_iff_toInt_lt, own_W h hB]
  have : (0 : Int32).toInt = 0 := by decide
  omega
theorem own_three {α : Type} {f : Int64 → α} {w0 w1 w2 : Int64} {i : Nat} (h : i < 3) : [f w0, f w1, f w2][i]? = some (f (wAt w0 w1 w2 i)) := by
  have : i = 0 ∨ i = 1 ∨ i = 2 := by omega
  rcases this with rfl | rfl | rfl <;> rfl
theorem own_q2 {α : Type} {f : Int64 → α} {w0 w1 w2 ix : Int64} {w : Int32} {B : Nat} (h : (ix * w.toInt64).toInt = B) (hB : B < 192) : [f w0, f w1, f w2][(gW ix w).toNatClampNeg]? = some (f (wAt w0 w1 w2 (B / 64))) := by
  have e : (gW ix w).toNatClampNeg = B / 64 := by
    show (gW ix w).toInt.toNat = _
    rw [own_W h hB]; omega
  rw [e]; exact own_three (by omega)
theorem own_q3 {α : Type} {f : Int64 → α} {w0 w1 w2 ix : Int64} {w : Int32} {B w' : Nat} (h : (ix * w.toInt64).toInt = B) (hw : w.toInt = w') (h1 : 1 ≤ w') (h2 : w' ≤ 64) (hB : B + w' ≤ 192) : (64 : Int32) < gO ix w + w → ¬ (gW ix w + (1 : Int32)) < 0 ∧ [f w0, f w1, f w2][(gW ix w + (1 : Int32)).toNatClampNeg]? = some (f (wAt w0 w1 w2 (B / 64 + 1))) := by
  intro hc
  have e64 : (64 : Int32).toInt = 64 := by decide
  have e0 : (0 : Int32).toInt = 0 := by decide
  have e1 : (1 : Int32).toInt = (1 : Nat) := by decide
  rw [Int32.lt_iff_toInt_lt, own_add (own_O h (by omega)) hw (by omega) (by omega), e64] at hc
  have e : (gW ix w + (1 : Int32)).toInt = (B / 64 + 1 : Nat) := own_add (own_W h (by omega)) e1 (by omega) (by omega)
  refine ⟨by rw [Int32.lt_iff_toInt_lt, e, e0]; omega, ?_⟩
  have e' : (gW ix w + (1 : Int32)).toNatClampNeg = B / 64 + 1 := by
    show (gW ix w + (1 : Int32)).toInt.toNat = _
    rw [e]; omega
  rw [e']; exact own_three (by omega)
def boF (w0 w1 w2 q : Int64) : Int64 :=
  if q < (64 : Int64) then ((w0).toUInt64 >>> (q.toInt32 &&& 0x3f).toInt64.toUInt64).toInt64 &&& (1 : Int64)
  else if q < (128 : Int64) then ((w1).toUInt64 >>> ((q - (64 : Int64)).toInt32 &&& 0x3f).toInt64.toUInt64).toInt64 &&& (1 : Int64)
  else ((w2).toUInt64 >>> ((q - (128 : Int64)).toInt32 &&& 0x3f).toInt64.toUInt64).toInt64 &&& (1 : Int64)
theorem own_pick {x : Int64} {q : Int32} {k : Nat} (h : q.toInt = k) (hk : k < 64) : (((x).toUInt64 >>> (q &&& 0x3f).toInt64.toUInt64).toInt64 &&& (1 : Int64)) = if lbit x k then 1 else 0 := by
  rw [own_one, lbit_ushr h hk]; simp
theorem boF_eq {w0 w1 w2 q : Int64} {P : Nat} (h : q.toInt = P) (hP : P < 192) : boF w0 w1 w2 q = if lbit (wAt w0 w1 w2 (P / 64)) (P % 64) then 1 else 0 := by
  have e64 : (64 : Int64).toInt = 64 := by decide
  have e128 : (128 : Int64).toInt = 128 := by decide
  have hn : ∀ (r : Int64) (R : Nat), r.toInt = R → R < 192 → r.toInt32.toInt = R := fun r R hr hR => by
    rw [XT.narrowInt (by rw [hr]; constructor <;> omega), hr]
  unfold boF
  by_cases c1 : P < 64
  · rw [if_pos (by rw [Int64.lt_iff_toInt_lt, h, e64]; omega), own_pick (hn q P h hP) c1]
    have : P / 64 = 0 := by omega
    have h' : P % 64 = P := by omega
    rw [this, h']; rfl
  · rw [if_neg (by rw [Int64.lt_iff_toInt_lt, h, e64]; omega)]
    by_cases c2 : P < 128
    · have hs : (q - (64 : Int64)).toInt = (P - 64 : Nat) := by
        rw [XT.sub64 (by rw [h, e64]; constructor <;> omega), h, e64]; omega
      rw [if_pos (by rw [Int64.lt_iff_toInt_lt, h, e128]; omega), own_pick (hn _ _ hs (by omega)) (by omega)]
      have : P / 64 = 1 := by omega
      have h' : P % 64 = P - 64 := by omega
      rw [this, h']; rfl
    · have hs : (q - (128 : Int64)).toInt = (P - 128 : Nat) := by
        rw [XT.sub64 (by rw [h, e128]; constructor <;> omega), h, e128]; omega
      rw [if_neg (by rw [Int64.lt_iff_toInt_lt, h, e128]; omega), own_pick (hn _ _ hs (by omega)) (by omega)]
      have : P / 64 = 2 := by omega
      have h' : P % 64 = P - 128 := by omega
      rw [this, h']; rfl
theorem own_hi {x y : Int64} {off w k : Int32} {o w' k' : Nat} (ho : off.toInt = o) (ho' : o < 64) (hw : w.toInt = w') (h1 : 1 ≤ w') (h2 : w' ≤ 64) (hk : k.toInt = k') (hk' : k' < 64) (hc : ¬ k < w) :
    ((gF x y (((-1 : Int64)).toUInt64 >>> (((64 : Int32) - w) &&& 0x3f).toInt64.toUInt64).toInt64 off w).toUInt64 >>> (k &&& 0x3f).toInt64.toUInt64).toInt64 &&& (1 : Int64) = (0 : Int64) := by
  rw [Int32.lt_iff_toInt_lt, hk, hw] at hc
  rw [own_pick hk hk', gF_bit ho ho' hw h1 h2 k' hk']
  have : ¬ k' < w' := by omega
  simp [this]
theorem own_lo {w0 w1 w2 ix : Int64} {w k : Int32} {i w' k' : Nat} (hB : (ix * w.toInt64).toInt = (i * w' : Nat)) (hw : w.toInt = w') (h1 : 1 ≤ w') (h2 : w' ≤ 64) (h3 : i * w' + w' ≤ 192) (hk : k.toInt = k') (hk' : k' < 64) (hc : k < w) :
    ((gF (wAt w0 w1 w2 (i * w' / 64)) (wAt w0 w1 w2 (i * w' / 64 + 1)) (((-1 : Int64)).toUInt64 >>> (((64 : Int32) - w) &&& 0x3f).toInt64.toUInt64).toInt64 (gO ix w) w).toUInt64 >>> (k &&& 0x3f).toInt64.toUInt64).toInt64 &&& (1 : Int64) = boF w0 w1 w2 (ix * w.toInt64 + k.toInt64) := by
  rw [Int32.lt_iff_toInt_lt, hk, hw] at hc
  have hO := own_O hB (by omega)
  generalize i * w' = B at *
  have hp : (ix * w.toInt64 + k.toInt64).toInt = (B + k' : Nat) := by
    have e1 : k.toInt64.toInt = k' := by rw [Int32.toInt_toInt64, hk]
    rw [XT.add64 (by rw [hB, e1]; constructor <;> omega), hB, e1]; omega
  rw [own_pick hk hk', gF_bit hO (by omega) hw h1 h2 k' hk', boF_eq hp (by omega)]
  have : k' < w' := by omega
  simp only [this, decide_true, Bool.true_and]
  by_cases q : B % 64 + k' < 64
  · have e1 : (B + k') / 64 = B / 64 := by omega
    have e2 : (B + k') % 64 = B % 64 + k' := by omega
    rw [if_pos q, e1, e2]
  · have e1 : (B + k') / 64 = B / 64 + 1 := by omega
    have e2 : (B + k') % 64 = B % 64 + k' - 64 := by omega
    rw [if_neg q, e1, e2]
theorem own_ix (p : Int32) {n ix : Int64} {N : Nat} (hn : n.toInt = N) (h3 : 3 ≤ N) (e : ((p &&& (2147483647 : Int32)).toInt64 - (p &&& (2147483647 : Int32)).toInt64 / n * n) = ix) : ∃ i : Nat, ix.toInt = i ∧ i < N := by
  have h1 := c_mask p 2147483647 31 (by decide) (by decide)
  have h2 := (c_lrem (p &&& (2147483647 : Int32)).toInt64 n N hn).1
  rw [e, Int32.toInt_toInt64] at h2
  have h4 := h2 (by omega)
  have h5 := Int.emod_nonneg (p &&& (2147483647 : Int32)).toInt (b := (N : Int)) (by omega)
  have h6 := Int.emod_lt_of_pos (p &&& (2147483647 : Int32)).toInt (b := (N : Int)) (by omega)
  exact ⟨ix.toInt.toNat, by omega, by omega⟩
theorem own_k (p : Int32) : ∃ k : Nat, (p &&& (63 : Int32)).toInt = k ∧ k < 64 := by
  have h1 := c_mask p 63 6 (by decide) (by decide)
  exact ⟨(p &&& (63 : Int32)).toInt.toNat, by omega, by omega⟩
theorem pd0 : parseMethodDescriptor "(JI[J)V" = some ⟨[.long, .int, (.array .long)], none⟩ := by decide +kernel
theorem pd1 : parseMethodDescriptor "()V" = some ⟨[], none⟩ := by decide +kernel
theorem pd2 : parseMethodDescriptor "(J)J" = some ⟨[.long], (some .long)⟩ := by decide +kernel
theorem pd3 : parseMethodDescriptor "(JJJJ)J" = some ⟨[.long, .long, .long, .long], (some .long)⟩ := by decide +kernel
theorem pd4 : parseMethodDescriptor "(IIIJJJ)Z" = some ⟨[.int, .int, .int, .long, .long, .long], (some .boolean)⟩ := by decide +kernel
theorem d1_0 : decode prog_31_method_2_code 0 = .ok (.aload_n 0, 1) := by decide +kernel
theorem d1_1 : decode prog_31_method_2_code 1 = .ok (.invokespecial 11, 3) := by decide +kernel
theorem d1_4 : decode prog_31_method_2_code 4 = .ok (.aload_n 0, 1) := by decide +kernel
theorem d1_5 : decode prog_31_method_2_code 5 = .ok (.lload_n 1, 1) := by decide +kernel
theorem d1_6 : decode prog_31_method_2_code 6 = .ok (.putfield 16, 3) := by decide +kernel
theorem d1_9 : decode prog_31_method_2_code 9 = .ok (.aload_n 0, 1) := by decide +kernel
theorem d1_10 : decode prog_31_method_2_code 10 = .ok (.iload_n 3, 1) := by decide +kernel
theorem d1_11 : decode prog_31_method_2_code 11 = .ok (.putfield 20, 3) := by decide +kernel
theorem d1_14 : decode prog_31_method_2_code 14 = .ok (.aload_n 0, 1) := by decide +kernel
theorem d1_15 : decode prog_31_method_2_code 15 = .ok (.ldc2_w 24, 3) := by decide +kernel
theorem d1_18 : decode prog_31_method_2_code 18 = .ok (.bipush 64, 2) := by decide +kernel
theorem d1_20 : decode prog_31_method_2_code 20 = .ok (.iload_n 3, 1) := by decide +kernel
theorem d1_21 : decode prog_31_method_2_code 21 = .ok (.isub, 1) := by decide +kernel
theorem d1_22 : decode prog_31_method_2_code 22 = .ok (.lushr, 1) := by decide +kernel
theorem d1_23 : decode prog_31_method_2_code 23 = .ok (.putfield 28, 3) := by decide +kernel
theorem d1_26 : decode prog_31_method_2_code 26 = .ok (.aload_n 0, 1) := by decide +kernel
theorem d1_27 : decode prog_31_method_2_code 27 = .ok (.aload 4, 2) := by decide +kernel
theorem d1_29 : decode prog_31_method_2_code 29 = .ok (.putfield 31, 3) := by decide +kernel
theorem d1_32 : decode prog_31_method_2_code 32 = .ok (.return_, 1) := by decide +kernel
theorem pn0 : plainName "com/example/galdict/galdict/model/PackedArray" = true := by first | (simp [plainName, overriddenIn]; done) | decide +kernel
theorem ef_rm1 (m : MethodId) (a : Addr) (p0 : Int64) (p1 : Int32) (p2 : Addr) : entryFrame m #[(.ref a), (.long p0), (.int p1), (.ref p2)] 5 = mkF m 0 #[.val (.ref a), .val (.long p0), .second, .val (.int p1), .val (.ref p2)] [] := by first | (simp [entryFrame, mkF, argsToLocals, Value.category]; done) | rfl
def Q_rm1 (Z : State) (a : Addr) (p0 : Int64) (p1 : Int32) (p2 : Addr) (h0 : Heap) (n0 : Nat) (v : Option Value) (h : Heap) (L : List Loc) : Prop := v = none ∧ Fr n0 L ∧ Keep h0 h [a] ∧ Exa Z h a "com/example/galdict/galdict/model/PackedArray" ∧ Fld Z h a "com/example/galdict/galdict/model/PackedArray" "length" "J" (.long p0) ∧ Fld Z h a "com/example/galdict/galdict/model/PackedArray" "width" "I" (.int p1) ∧ Fld Z h a "com/example/galdict/galdict/model/PackedArray" "mask" "J" (.long (((-1 : Int64)).toUInt64 >>> (((64 : Int32) - p1) &&& 0x3f).toInt64.toUInt64).toInt64) ∧ Fld Z h a "com/example/galdict/galdict/model/PackedArray" "words" "[J" (.ref p2)
set_option maxRecDepth 65536 in
set_option maxHeartbeats 40000000 in
theorem rm1 (l : Launch) (Z : State) (a0 : Array Value) (hw : ∀ d ∈ tables_1, d.before a0 Z = true) (ws : List Jvm.Cond) (a : Addr) (p0 : Int64) (p1 : Int32) (p2 : Addr) (h0 : Heap) (n0 : Nat) (Z0 : n0 ≤ h0.size) (E0 : Exa Z h0 a "com/example/galdict/galdict/model/PackedArray") (F_length : Fld Z h0 a "com/example/galdict/galdict/model/PackedArray" "length" "J" (.long (0 : Int64))) (F_width : Fld Z h0 a "com/example/galdict/galdict/model/PackedArray" "width" "I" (.int (0 : Int32))) (F_mask : Fld Z h0 a "com/example/galdict/galdict/model/PackedArray" "mask" "J" (.long (0 : Int64))) (F_words : Fld Z h0 a "com/example/galdict/galdict/model/PackedArray" "words" "[J" .null) (ga : n0 ≤ a) :
    MetFree l (⟨"com/example/galdict/galdict/model/PackedArray", "<init>", "(JI[J)V"⟩ : MethodName) (head1 (Jvm.Cond.code (⟨"com/example/galdict/galdict/model/PackedArray", "<init>", "(JI[J)V"⟩ : MethodName) prog_31_method_2_code 5 none :: ws) ({ frames := 1, cells := 0, slots := 0, locals := 12 } : Room)) (fun aa U => aa = #[(.ref a), (.long p0), (.int p1), (.ref p2)] ∧ Z.Warmed39 U.vm ∧ U.heap = h0) (fun _ _ _ _ _ => True) (fun _ U o U' => ∃ v L, o = .returned v ∧ Q_rm1 Z a p0 p1 p2 h0 n0 v U'.heap L ∧ FrameEnd U o U' L ({ frames := 1, cells := 0, slots := 0, locals := 12 } : Room).cells ({ frames := 1, cells := 0, slots := 0, locals := 12 } : Room).slots) := by
  refine MetFree.of_bodySF (plainFor_of_name pn0) hisR ?_
  intro p e s m args below meth c s₁ Bd hml0 hP hK
  obtain ⟨rfl, hZ, hh⟩ := hP
  have hx := Bd.exec
  have hby := Bd.bytes
  have hml : c.maxLocals = 5 := hml0
  have hown : s.vm.findClass "com/example/galdict/galdict/model/PackedArray" = some m.cls := findClass_of_methodNamed Bd.named
  have hnm := (name_of_methodNamed Bd.named Bd.method).1
  have hlk : meth.locks = false := Bd.notSynchronized
  have hret := Bd.returns
  have X0 : Stand p l e ({ frames := 1, cells := 0, slots := 0, locals := 12 } : Room) s m #[(.ref a), (.long p0), (.int p1), (.ref p2)] below meth c s₁ [] 0 0 := Stand.of_body Bd
  have e0 : s₁.heap = h0 := by rw [← hh, Bd.state]; rfl
  have N0 := Fr.nil n0
  have K0 : Keep h0 h0 [a] := Keep.refl _ _
  show Goes p e below s (Q_rm1 Z a p0 p1 p2 h0 n0) ({ frames := 1, cells := 0, slots := 0, locals := 12 } : Room).cells ({ frames := 1, cells := 0, slots := 0, locals := 12 } : Room).slots _
  refine Goes.go (fun t k => castTop (ef_rm1 m a p0 p1 p2) k) ?_
  show Goes _ _ _ _ _ _ _ (s₁.setTop (mkF m 0 #[.val (.ref a), .val (.long p0), .second, .val (.int p1), .val (.ref p2)] []))
  refine Goes.go (fun _ k => XS.aloadN X0.here hx rfl (hb hby d1_0) rfl rfl k) ?_
  show Goes _ _ _ _ _ _ _ (s₁.setTop (mkF m 1 _ [(.ref a)]))
  obtain ⟨T1, X1, e1, st1⟩ := initO X0 hx hZ hown (hw _ (List.mem_of_getElem? (i := 9) rfl)) (hw _ (List.mem_of_getElem? (i := 10) rfl)) (hw _ (List.mem_of_getElem? (i := 11) rfl)) e0 (g := (mkF m 1 #[.val (.ref a), .val (.long p0), .second, .val (.int p1), .val (.ref p2)] [(.ref a)])) rfl (by rw [hml]; rfl) rfl (hb hby d1_1) (by decide) (W := 0) (by show 2 * 0 + _ ≤ _; exact Nat.le_of_eq rfl) (by decide)
  refine Goes.go (st1) ?_
  show Goes _ _ _ _ _ _ _ (T1.setTop (mkF m 4 _ []))
  refine Goes.go (fun _ k => XS.aloadN X1.here hx rfl (hb hby d1_4) rfl rfl k) ?_
  show Goes _ _ _ _ _ _ _ (T1.setTop (mkF m 5 _ [(.ref a)]))
  refine Goes.go (fun _ k => XS.lloadN X1.here hx rfl (hb hby d1_5) rfl k) ?_
  show Goes _ _ _ _ _ _ _ (T1.setTop (mkF m 6 _ [(.long p0), (.ref a)]))
  obtain ⟨T2, h2, X2, e2, W2, st2⟩ := putF X1 hx hZ hown (host := "") (Or.inl (hw _ (List.mem_of_getElem? (i := 12) rfl))) Via.refl e1 F_length E0 (Or.inr ⟨(hw _ (List.mem_of_getElem? (i := 13) rfl)), rfl, hnm⟩) (hw _ (List.mem_of_getElem? (i := 4) rfl)) (ty := .long) (by decide) rfl rfl (g := (mkF m 6 #[.val (.ref a), .val (.long p0), .second, .val (.int p1), .val (.ref p2)] [(.long p0), (.ref a)])) rfl rfl (hb hby d1_6)
  have N2 := Fr.snoc X2 N0 ga
  have f := Exa.wr W2 E0
  have f_1 := Fld.other W2 F_width (Or.inr (slot_ne (Or.inr (hw _ (List.mem_of_getElem? (i := 15) rfl))) (Or.inr (hw _ (List.mem_of_getElem? (i := 13) rfl))) (by decide) (t := .int) (t' := .long) (by decide) (by decide)))
  have f_2 := Fld.other W2 F_mask (Or.inr (slot_ne (Or.inr (hw _ (List.mem_of_getElem? (i := 18) rfl))) (Or.inr (hw _ (List.mem_of_getElem? (i := 13) rfl))) (by decide) (t := .long) (t' := .long) (by decide) (by decide)))
  have f_3 := Fld.other W2 F_words (Or.inr (slot_ne (Or.inr (hw _ (List.mem_of_getElem? (i := 20) rfl))) (Or.inr (hw _ (List.mem_of_getElem? (i := 13) rfl))) (by decide) (t := (.array .long)) (t' := .long) (by decide) (by decide)))
  have f_4 := Fld.same W2 F_length
  have Z2 : n0 ≤ h2.size := by rw [W2.size]; exact Z0
  have K2 := K0.wr W2 (Or.inl (List.mem_of_getElem? (i := 0) rfl))
  refine Goes.go (st2) ?_
  show Goes _ _ _ _ _ _ _ (T2.setTop (mkF m 9 _ []))
  refine Goes.go (fun _ k => XS.aloadN X2.here hx rfl (hb hby d1_9) rfl rfl k) ?_
  show Goes _ _ _ _ _ _ _ (T2.setTop (mkF m 10 _ [(.ref a)]))
  refine Goes.go (fun _ k => XS.iloadN X2.here hx rfl (hb hby d1_10) rfl k) ?_
  show Goes _ _ _ _ _ _ _ (T2.setTop (mkF m 11 _ [(.int p1), (.ref a)]))
  obtain ⟨T3, h3, X3, e3, W3, st3⟩ := putF X2 hx hZ hown (host := "") (Or.inl (hw _ (List.mem_of_getElem? (i := 14) rfl))) Via.refl e2 f_1 f (Or.inr ⟨(hw _ (List.mem_of_getElem? (i := 15) rfl)), rfl, hnm⟩) (hw _ (List.mem_of_getElem? (i := 4) rfl)) (ty := .int) (by decide) rfl rfl (g := (mkF m 11 #[.val (.ref a), .val (.long p0), .second, .val (.int p1), .val (.ref p2)] [(.int p1), (.ref a)])) rfl rfl (hb hby d1_11)
  have N3 := Fr.snoc X3 N2 ga
  have f_5 := Exa.wr W3 f
  have f_6 := Fld.other W3 f_4 (Or.inr (slot_ne (Or.inr (hw _ (List.mem_of_getElem? (i := 13) rfl))) (Or.inr (hw _ (List.mem_of_getElem? (i := 15) rfl))) (by decide) (t := .long) (t' := .int) (by decide) (by decide)))
  have f_7 := Fld.other W3 f_2 (Or.inr (slot_ne (Or.inr (hw _ (List.mem_of_getElem? (i := 18) rfl))) (Or.inr (hw _ (List.mem_of_getElem? (i := 15) rfl))) (by decide) (t := .long) (t' := .int) (by decide) (by decide)))
  have f_8 := Fld.other W3 f_3 (Or.inr (slot_ne (Or.inr (hw _ (List.mem_of_getElem? (i := 20) rfl))) (Or.inr (hw _ (List.mem_of_getElem? (i := 15) rfl))) (by decide) (t := (.array .long)) (t' := .int) (by decide) (by decide)))
  have f_9 := Fld.same W3 f_1
  have Z3 : n0 ≤ h3.size := by rw [W3.size]; exact Z2
  have K3 := K2.wr W3 (Or.inl (List.mem_of_getElem? (i := 0) rfl))
  refine Goes.go (st3) ?_
  show Goes _ _ _ _ _ _ _ (T3.setTop (mkF m 14 _ []))
  refine Goes.go (fun _ k => XS.aloadN X3.here hx rfl (hb hby d1_14) rfl rfl k) ?_
  show Goes _ _ _ _ _ _ _ (T3.setTop (mkF m 15 _ [(.ref a)]))
  refine Goes.go (fun _ k => X3.ldc2J hx (v := (-1 : Int64)) hown (mvT hZ (hw _ (List.mem_of_getElem? (i := 16) rfl))) rfl (hb hby d1_15) k) ?_
  show Goes _ _ _ _ _ _ _ (T3.setTop (mkF m 18 _ [(.long (-1 : Int64)), (.ref a)]))
  refine Goes.go (fun _ k => XS.bipush X3.here hx rfl (hb hby d1_18) k) ?_
  show Goes _ _ _ _ _ _ _ (T3.setTop (mkF m 20 _ [(.int (64 : Int32)), (.long (-1 : Int64)), (.ref a)]))
  refine Goes.go (fun _ k => XS.iloadN X3.here hx rfl (hb hby d1_20) rfl k) ?_
  show Goes _ _ _ _ _ _ _ (T3.setTop (mkF m 21 _ [(.int p1), (.int (64 : Int32)), (.long (-1 : Int64)), (.ref a)]))
  refine Goes.go (fun _ k => XS.isub X3.here hx rfl (hb hby d1_21) rfl k) ?_
  show Goes _ _ _ _ _ _ _ (T3.setTop (mkF m 22 _ [(.int ((64 : Int32) - p1)), (.long (-1 : Int64)), (.ref a)]))
  refine Goes.go (fun _ k => XS.lushr X3.here hx rfl (hb hby d1_22) rfl k) ?_
  show Goes _ _ _ _ _ _ _ (T3.setTop (mkF m 23 _ [(.long (((-1 : Int64)).toUInt64 >>> (((64 : Int32) - p1) &&& 0x3f).toInt64.toUInt64).toInt64), (.ref a)]))
  obtain ⟨T4, h4, X4, e4, W4, st4⟩ := putF X3 hx hZ hown (host := "") (Or.inl (hw _ (List.mem_of_getElem? (i := 17) rfl))) Via.refl e3 f_7 f_5 (Or.inr ⟨(hw _ (List.mem_of_getElem? (i := 18) rfl)), rfl, hnm⟩) (hw _ (List.mem_of_getElem? (i := 4) rfl)) (ty := .long) (by decide) rfl rfl (g := (mkF m 23 #[.val (.ref a), .val (.long p0), .second, .val (.int p1), .val (.ref p2)] [(.long (((-1 : Int64)).toUInt64 >>> (((64 : Int32) - p1) &&& 0x3f).toInt64.toUInt64).toInt64), (.ref a)])) rfl rfl (hb hby d1_23)
  have N4 := Fr.snoc X4 N3 ga
  have f_10 := Exa.wr W4 f_5
  have f_11 := Fld.other W4 f_6 (Or.inr (slot_ne (Or.inr (hw _ (List.mem_of_getElem? (i := 13) rfl))) (Or.inr (hw _ (List.mem_of_getElem? (i := 18) rfl))) (by decide) (t := .long) (t' := .long) (by decide) (by decide)))
  have f_12 := Fld.other W4 f_9 (Or.inr (slot_ne (Or.inr (hw _ (List.mem_of_getElem? (i := 15) rfl))) (Or.inr (hw _ (List.mem_of_getElem? (i := 18) rfl))) (by decide) (t := .int) (t' := .long) (by decide) (by decide)))
  have f_13 := Fld.other W4 f_8 (Or.inr (slot_ne (Or.inr (hw _ (List.mem_of_getElem? (i := 20) rfl))) (Or.inr (hw _ (List.mem_of_getElem? (i := 18) rfl))) (by decide) (t := (.array .long)) (t' := .long) (by decide) (by decide)))
  have f_14 := Fld.same W4 f_7
  have Z4 : n0 ≤ h4.size := by rw [W4.size]; exact Z3
  have K4 := K3.wr W4 (Or.inl (List.mem_of_getElem? (i := 0) rfl))
  refine Goes.go (st4) ?_
  show Goes _ _ _ _ _ _ _ (T4.setTop (mkF m 26 _ []))
  refine Goes.go (fun _ k => XS.aloadN X4.here hx rfl (hb hby d1_26) rfl rfl k) ?_
  show Goes _ _ _ _ _ _ _ (T4.setTop (mkF m 27 _ [(.ref a)]))
  refine Goes.go (fun _ k => XS.aload X4.here hx rfl (hb hby d1_27) rfl rfl k) ?_
  show Goes _ _ _ _ _ _ _ (T4.setTop (mkF m 29 _ [(.ref p2), (.ref a)]))
  obtain ⟨T5, h5, X5, e5, W5, st5⟩ := putF X4 hx hZ hown (host := "") (Or.inl (hw _ (List.mem_of_getElem? (i := 19) rfl))) Via.refl e4 f_13 f_10 (Or.inr ⟨(hw _ (List.mem_of_getElem? (i := 20) rfl)), rfl, hnm⟩) (hw _ (List.mem_of_getElem? (i := 4) rfl)) (ty := (.array .long)) (by decide) rfl rfl (g := (mkF m 29 #[.val (.ref a), .val (.long p0), .second, .val (.int p1), .val (.ref p2)] [(.ref p2), (.ref a)])) rfl rfl (hb hby d1_29)
  have N5 := Fr.snoc X5 N4 ga
  have f_15 := Exa.wr W5 f_10
  have f_16 := Fld.other W5 f_11 (Or.inr (slot_ne (Or.inr (hw _ (List.mem_of_getElem? (i := 13) rfl))) (Or.inr (hw _ (List.mem_of_getElem? (i := 20) rfl))) (by decide) (t := .long) (t' := (.array .long)) (by decide) (by decide)))
  have f_17 := Fld.other W5 f_12 (Or.inr (slot_ne (Or.inr (hw _ (List.mem_of_getElem? (i := 15) rfl))) (Or.inr (hw _ (List.mem_of_getElem? (i := 20) rfl))) (by decide) (t := .int) (t' := (.array .long)) (by decide) (by decide)))
  have f_18 := Fld.other W5 f_14 (Or.inr (slot_ne (Or.inr (hw _ (List.mem_of_getElem? (i := 18) rfl))) (Or.inr (hw _ (List.mem_of_getElem? (i := 20) rfl))) (by decide) (t := .long) (t' := (.array .long)) (by decide) (by decide)))
  have f_19 := Fld.same W5 f_13
  have Z5 : n0 ≤ h5.size := by rw [W5.size]; exact Z4
  have K5 := K4.wr W5 (Or.inl (List.mem_of_getElem? (i := 0) rfl))
  refine Goes.go (st5) ?_
  show Goes _ _ _ _ _ _ _ (T5.setTop (mkF m 32 _ []))
  exact Goes.outV X5 hx hlk hret (hb hby d1_32) e5 ⟨rfl, N5, K5, f_15, f_16, f_17, f_18, f_19⟩ (by decide) (by decide)
theorem d3_0 : decode prog_31_method_7_code 0 = .ok (.lload_n 1, 1) := by decide +kernel
theorem d3_1 : decode prog_31_method_7_code 1 = .ok (.aload_n 0, 1) := by decide +kernel
theorem d3_2 : decode prog_31_method_7_code 2 = .ok (.getfield 20, 3) := by decide +kernel
theorem d3_5 : decode prog_31_method_7_code 5 = .ok (.i2l, 1) := by decide +kernel
theorem d3_6 : decode prog_31_method_7_code 6 = .ok (.lmul, 1) := by decide +kernel
theorem d3_7 : decode prog_31_method_7_code 7 = .ok (.lstore_n 3, 1) := by decide +kernel
theorem d3_8 : decode prog_31_method_7_code 8 = .ok (.lload_n 3, 1) := by decide +kernel
theorem d3_9 : decode prog_31_method_7_code 9 = .ok (.bipush 6, 2) := by decide +kernel
theorem d3_11 : decode prog_31_method_7_code 11 = .ok (.lushr, 1) := by decide +kernel
theorem d3_12 : decode prog_31_method_7_code 12 = .ok (.l2i, 1) := by decide +kernel
theorem d3_13 : decode prog_31_method_7_code 13 = .ok (.istore 5, 2) := by decide +kernel
theorem d3_15 : decode prog_31_method_7_code 15 = .ok (.lload_n 3, 1) := by decide +kernel
theorem d3_16 : decode prog_31_method_7_code 16 = .ok (.l2i, 1) := by decide +kernel
theorem d3_17 : decode prog_31_method_7_code 17 = .ok (.bipush 63, 2) := by decide +kernel
theorem d3_19 : decode prog_31_method_7_code 19 = .ok (.iand, 1) := by decide +kernel
theorem d3_20 : decode prog_31_method_7_code 20 = .ok (.istore 6, 2) := by decide +kernel
theorem d3_22 : decode prog_31_method_7_code 22 = .ok (.aload_n 0, 1) := by decide +kernel
theorem d3_23 : decode prog_31_method_7_code 23 = .ok (.getfield 31, 3) := by decide +kernel
theorem d3_26 : decode prog_31_method_7_code 26 = .ok (.iload 5, 2) := by decide +kernel
theorem d3_28 : decode prog_31_method_7_code 28 = .ok (.laload, 1) := by decide +kernel
theorem d3_29 : decode prog_31_method_7_code 29 = .ok (.iload 6, 2) := by decide +kernel
theorem d3_31 : decode prog_31_method_7_code 31 = .ok (.lushr, 1) := by decide +kernel
theorem d3_32 : decode prog_31_method_7_code 32 = .ok (.lstore 7, 2) := by decide +kernel
theorem d3_34 : decode prog_31_method_7_code 34 = .ok (.iload 6, 2) := by decide +kernel
theorem d3_36 : decode prog_31_method_7_code 36 = .ok (.aload_n 0, 1) := by decide +kernel
theorem d3_37 : decode prog_31_method_7_code 37 = .ok (.getfield 20, 3) := by decide +kernel
theorem d3_40 : decode prog_31_method_7_code 40 = .ok (.iadd, 1) := by decide +kernel
theorem d3_41 : decode prog_31_method_7_code 41 = .ok (.bipush 64, 2) := by decide +kernel
theorem d3_43 : decode prog_31_method_7_code 43 = .ok (.if_icmp .le 23, 3) := by decide +kernel
theorem d3_46 : decode prog_31_method_7_code 46 = .ok (.lload 7, 2) := by decide +kernel
theorem d3_48 : decode prog_31_method_7_code 48 = .ok (.aload_n 0, 1) := by decide +kernel
theorem d3_49 : decode prog_31_method_7_code 49 = .ok (.getfield 31, 3) := by decide +kernel
theorem d3_52 : decode prog_31_method_7_code 52 = .ok (.iload 5, 2) := by decide +kernel
theorem d3_54 : decode prog_31_method_7_code 54 = .ok (.iconst 1, 1) := by decide +kernel
theorem d3_55 : decode prog_31_method_7_code 55 = .ok (.iadd, 1) := by decide +kernel
theorem d3_56 : decode prog_31_method_7_code 56 = .ok (.laload, 1) := by decide +kernel
theorem d3_57 : decode prog_31_method_7_code 57 = .ok (.bipush 64, 2) := by decide +kernel
theorem d3_59 : decode prog_31_method_7_code 59 = .ok (.iload 6, 2) := by decide +kernel
theorem d3_61 : decode prog_31_method_7_code 61 = .ok (.isub, 1) := by decide +kernel
theorem d3_62 : decode prog_31_method_7_code 62 = .ok (.lshl, 1) := by decide +kernel
theorem d3_63 : decode prog_31_method_7_code 63 = .ok (.lor, 1) := by decide +kernel
theorem d3_64 : decode prog_31_method_7_code 64 = .ok (.lstore 7, 2) := by decide +kernel
theorem d3_66 : decode prog_31_method_7_code 66 = .ok (.lload 7, 2) := by decide +kernel
theorem d3_68 : decode prog_31_method_7_code 68 = .ok (.aload_n 0, 1) := by decide +kernel
theorem d3_69 : decode prog_31_method_7_code 69 = .ok (.getfield 28, 3) := by decide +kernel
theorem d3_72 : decode prog_31_method_7_code 72 = .ok (.land, 1) := by decide +kernel
theorem d3_73 : decode prog_31_method_7_code 73 = .ok (.lreturn, 1) := by decide +kernel
theorem ef_rm2 (m : MethodId) (a : Addr) (ix : Int64) : entryFrame m #[(.ref a), (.long ix)] 9 = mkF m 0 #[.val (.ref a), .val (.long ix), .second, .unset, .unset, .unset, .unset, .unset, .unset] [] := by first | (simp [entryFrame, mkF, argsToLocals, Value.category]; done) | rfl
def Q_rm2 (Z : State) (a : Addr) (ix : Int64) (w : Int32) (mk : Int64) (bb : Addr) (vs : List Value) (x : Int64) (y : Int64) (h0 : Heap) (n0 : Nat) (v : Option Value) (h : Heap) (L : List Loc) : Prop := v = some (.long (gF x y mk (gO ix w) w)) ∧ Fr n0 L ∧ h = h0
set_option maxRecDepth 65536 in
set_option maxHeartbeats 40000000 in
theorem rm2 (l : Launch) (Z : State) (a0 : Array Value) (hw : ∀ d ∈ tables_1, d.before a0 Z = true) (ws : List Jvm.Cond) (a : Addr) (ix : Int64) (w : Int32) (mk : Int64) (bb : Addr) (vs : List Value) (x : Int64) (y : Int64) (h0 : Heap) (n0 : Nat) (Z0 : n0 ≤ h0.size) (F_width : Fld Z h0 a "com/example/galdict/galdict/model/PackedArray" "width" "I" (.int w)) (F_mask : Fld Z h0 a "com/example/galdict/galdict/model/PackedArray" "mask" "J" (.long mk)) (F_words : Fld Z h0 a "com/example/galdict/galdict/model/PackedArray" "words" "[J" (.ref bb)) (A0 : Arl Z h0 bb .long vs) (q1 : ¬ gW ix w < 0) (q2 : vs[(gW ix w).toNatClampNeg]? = some (.long x)) (q3 : (64 : Int32) < gO ix w + w → ¬ (gW ix w + (1 : Int32)) < 0 ∧ vs[(gW ix w + (1 : Int32)).toNatClampNeg]? = some (.long y)) :
    MetFree l (⟨"com/example/galdict/galdict/model/PackedArray", "get", "(J)J"⟩ : MethodName) (head1 (Jvm.Cond.code (⟨"com/example/galdict/galdict/model/PackedArray", "get", "(J)J"⟩ : MethodName) prog_31_method_7_code 9 (some .long) :: ws) ({ frames := 0, cells := 0, slots := 0, locals := 0 } : Room)) (fun aa U => aa = #[(.ref a), (.long ix)] ∧ Z.Warmed39 U.vm ∧ U.heap = h0) (fun _ _ _ _ _ => True) (fun _ U o U' => ∃ v L, o = .returned v ∧ Q_rm2 Z a ix w mk bb vs x y h0 n0 v U'.heap L ∧ FrameEnd U o U' L ({ frames := 0, cells := 0, slots := 0, locals := 0 } : Room).cells ({ frames := 0, cells := 0, slots := 0, locals := 0 } : Room).slots) := by
  refine MetFree.of_bodySF (plainFor_of_name pn0) hisR ?_
  intro p e s m args below meth c s₁ Bd hml0 hP hK
  obtain ⟨rfl, hZ, hh⟩ := hP
  have hx := Bd.exec
  have hby := Bd.bytes
  have hml : c.maxLocals = 9 := hml0
  have hown : s.vm.findClass "com/example/galdict/galdict/model/PackedArray" = some m.cls := findClass_of_methodNamed Bd.named
  have hnm := (name_of_methodNamed Bd.named Bd.method).1
  have hlk : meth.locks = false := Bd.notSynchronized
  have hret := Bd.returns
  have X0 : Stand p l e ({ frames := 0, cells := 0, slots := 0, locals := 0 } : Room) s m #[(.ref a), (.long ix)] below meth c s₁ [] 0 0 := Stand.of_body Bd
  have e0 : s₁.heap = h0 := by rw [← hh, Bd.state]; rfl
  have N0 := Fr.nil n0
  have K0 : Keep h0 h0 [] := Keep.refl _ _
  show Goes p e below s (Q_rm2 Z a ix w mk bb vs x y h0 n0) ({ frames := 0, cells := 0, slots := 0, locals := 0 } : Room).cells ({ frames := 0, cells := 0, slots := 0, locals := 0 } : Room).slots _
  refine Goes.go (fun t k => castTop (ef_rm2 m a ix) k) ?_
  show Goes _ _ _ _ _ _ _ (s₁.setTop (mkF m 0 #[.val (.ref a), .val (.long ix), .second, .unset, .unset, .unset, .unset, .unset, .unset] []))
  refine Goes.go (fun _ k => XS.lloadN X0.here hx rfl (hb hby d3_0) rfl k) ?_
  show Goes _ _ _ _ _ _ _ (s₁.setTop (mkF m 1 _ [(.long ix)]))
  refine Goes.go (fun _ k => XS.aloadN X0.here hx rfl (hb hby d3_1) rfl rfl k) ?_
  show Goes _ _ _ _ _ _ _ (s₁.setTop (mkF m 2 _ [(.ref a), (.long ix)]))
  obtain ⟨T1, X1, e1, st1⟩ := getF X0 hx hZ hown (host := "") (Or.inl (hw _ (List.mem_of_getElem? (i := 14) rfl))) Via.refl e0 F_width (g := (mkF m 2 #[.val (.ref a), .val (.long ix), .second, .unset, .unset, .unset, .unset, .unset, .unset] [(.ref a), (.long ix)])) rfl rfl (hb hby d3_2)
  refine Goes.go (st1) ?_
  show Goes _ _ _ _ _ _ _ (T1.setTop (mkF m 5 _ [(.int w), (.long ix)]))
  refine Goes.go (fun _ k => XS.i2l X1.here hx rfl (hb hby d3_5) rfl k) ?_
  show Goes _ _ _ _ _ _ _ (T1.setTop (mkF m 6 _ [(.long (w).toInt64), (.long ix)]))
  refine Goes.go (fun _ k => XS.lmul X1.here hx rfl (hb hby d3_6) rfl k) ?_
  show Goes _ _ _ _ _ _ _ (T1.setTop (mkF m 7 _ [(.long (ix * (w).toInt64))]))
  generalize hv7 : (ix * (w).toInt64) = v7
  refine Goes.go (fun _ k => XS.lstoreN X1.here hx rfl (hb hby d3_7) rfl (l' := #[.val (.ref a), .val (.long ix), .second, .val (.long v7), .second, .unset, .unset, .unset, .unset]) rfl k) ?_
  show Goes _ _ _ _ _ _ _ (T1.setTop (mkF m 8 #[.val (.ref a), .val (.long ix), .second, .val (.long v7), .second, .unset, .unset, .unset, .unset] []))
  refine Goes.go (fun _ k => XS.lloadN X1.here hx rfl (hb hby d3_8) rfl k) ?_
  show Goes _ _ _ _ _ _ _ (T1.setTop (mkF m 9 _ [(.long v7)]))
  refine Goes.go (fun _ k => XS.bipush X1.here hx rfl (hb hby d3_9) k) ?_
  show Goes _ _ _ _ _ _ _ (T1.setTop (mkF m 11 _ [(.int (6 : Int32)), (.long v7)]))
  refine Goes.go (fun _ k => XS.lushr X1.here hx rfl (hb hby d3_11) rfl k) ?_
  show Goes _ _ _ _ _ _ _ (T1.setTop (mkF m 12 _ [(.long ((v7).toUInt64 >>> ((6 : Int32) &&& 0x3f).toInt64.toUInt64).toInt64)]))
  refine Goes.go (fun _ k => XS.l2i X1.here hx rfl (hb hby d3_12) rfl k) ?_
  show Goes _ _ _ _ _ _ _ (T1.setTop (mkF m 13 _ [(.int (((v7).toUInt64 >>> ((6 : Int32) &&& 0x3f).toInt64.toUInt64).toInt64).toInt32)]))
  generalize hv13 : (((v7).toUInt64 >>> ((6 : Int32) &&& 0x3f).toInt64.toUInt64).toInt64).toInt32 = v13
  refine Goes.go (fun _ k => XS.istore X1.here hx rfl (hb hby d3_13) rfl (l' := #[.val (.ref a), .val (.long ix), .second, .val (.long v7), .second, .val (.int v13), .unset, .unset, .unset]) rfl k) ?_
  show Goes _ _ _ _ _ _ _ (T1.setTop (mkF m 15 #[.val (.ref a), .val (.long ix), .second, .val (.long v7), .second, .val (.int v13), .unset, .unset, .unset] []))
  refine Goes.go (fun _ k => XS.lloadN X1.here hx rfl (hb hby d3_15) rfl k) ?_
  show Goes _ _ _ _ _ _ _ (T1.setTop (mkF m 16 _ [(.long v7)]))
  refine Goes.go (fun _ k => XS.l2i X1.here hx rfl (hb hby d3_16) rfl k) ?_
  show Goes _ _ _ _ _ _ _ (T1.setTop (mkF m 17 _ [(.int (v7).toInt32)]))
  refine Goes.go (fun _ k => XS.bipush X1.here hx rfl (hb hby d3_17) k) ?_
  show Goes _ _ _ _ _ _ _ (T1.setTop (mkF m 19 _ [(.int (63 : Int32)), (.int (v7).toInt32)]))
  refine Goes.go (fun _ k => XS.iand X1.here hx rfl (hb hby d3_19) rfl k) ?_
  show Goes _ _ _ _ _ _ _ (T1.setTop (mkF m 20 _ [(.int ((v7).toInt32 &&& (63 : Int32)))]))
  generalize hv20 : ((v7).toInt32 &&& (63 : Int32)) = v20
  refine Goes.go (fun _ k => XS.istore X1.here hx rfl (hb hby d3_20) rfl (l' := #[.val (.ref a), .val (.long ix), .second, .val (.long v7), .second, .val (.int v13), .val (.int v20), .unset, .unset]) rfl k) ?_
  show Goes _ _ _ _ _ _ _ (T1.setTop (mkF m 22 #[.val (.ref a), .val (.long ix), .second, .val (.long v7), .second, .val (.int v13), .val (.int v20), .unset, .unset] []))
  have e13 : gW ix w = v13 := by unfold gW; rw [hv7, hv13]
  have e20 : gO ix w = v20 := by unfold gO; rw [hv7, hv20]
  rw [e13, e20] at q3; rw [e13] at q1 q2
  refine Goes.go (fun _ k => XS.aloadN X1.here hx rfl (hb hby d3_22) rfl rfl k) ?_
  show Goes _ _ _ _ _ _ _ (T1.setTop (mkF m 23 _ [(.ref a)]))
  obtain ⟨T2, X2, e2, st2⟩ := getF X1 hx hZ hown (host := "") (Or.inl (hw _ (List.mem_of_getElem? (i := 19) rfl))) Via.refl e1 F_words (g := (mkF m 23 #[.val (.ref a), .val (.long ix), .second, .val (.long v7), .second, .val (.int v13), .val (.int v20), .unset, .unset] [(.ref a)])) rfl rfl (hb hby d3_23)
  refine Goes.go (st2) ?_
  show Goes _ _ _ _ _ _ _ (T2.setTop (mkF m 26 _ [(.ref bb)]))
  refine Goes.go (fun _ k => XS.iload X2.here hx rfl (hb hby d3_26) rfl k) ?_
  show Goes _ _ _ _ _ _ _ (T2.setTop (mkF m 28 _ [(.int v13), (.ref bb)]))
  refine Goes.go (own_ldJ X2 hx hZ e2 A0 (j := v13) (v := (.long x)) q1 q2 rfl rfl (hb hby d3_28)) ?_
  show Goes _ _ _ _ _ _ _ (T2.setTop (mkF m 29 _ [(.long x)]))
  refine Goes.go (fun _ k => XS.iload X2.here hx rfl (hb hby d3_29) rfl k) ?_
  show Goes _ _ _ _ _ _ _ (T2.setTop (mkF m 31 _ [(.int v20), (.long x)]))
  refine Goes.go (fun _ k => XS.lushr X2.here hx rfl (hb hby d3_31) rfl k) ?_
  show Goes _ _ _ _ _ _ _ (T2.setTop (mkF m 32 _ [(.long ((x).toUInt64 >>> (v20 &&& 0x3f).toInt64.toUInt64).toInt64)]))
  generalize hv32 : ((x).toUInt64 >>> (v20 &&& 0x3f).toInt64.toUInt64).toInt64 = v32
  refine Goes.go (fun _ k => XS.lstore X2.here hx rfl (hb hby d3_32) rfl (l' := #[.val (.ref a), .val (.long ix), .second, .val (.long v7), .second, .val (.int v13), .val (.int v20), .val (.long v32), .second]) rfl k) ?_
  show Goes _ _ _ _ _ _ _ (T2.setTop (mkF m 34 #[.val (.ref a), .val (.long ix), .second, .val (.long v7), .second, .val (.int v13), .val (.int v20), .val (.long v32), .second] []))
  refine Goes.go (fun _ k => XS.iload X2.here hx rfl (hb hby d3_34) rfl k) ?_
  show Goes _ _ _ _ _ _ _ (T2.setTop (mkF m 36 _ [(.int v20)]))
  refine Goes.go (fun _ k => XS.aloadN X2.here hx rfl (hb hby d3_36) rfl rfl k) ?_
  show Goes _ _ _ _ _ _ _ (T2.setTop (mkF m 37 _ [(.ref a), (.int v20)]))
  obtain ⟨T3, X3, e3, st3⟩ := getF X2 hx hZ hown (host := "") (Or.inl (hw _ (List.mem_of_getElem? (i := 14) rfl))) Via.refl e2 F_width (g := (mkF m 37 #[.val (.ref a), .val (.long ix), .second, .val (.long v7), .second, .val (.int v13), .val (.int v20), .val (.long v32), .second] [(.ref a), (.int v20)])) rfl rfl (hb hby d3_37)
  refine Goes.go (st3) ?_
  show Goes _ _ _ _ _ _ _ (T3.setTop (mkF m 40 _ [(.int w), (.int v20)]))
  refine Goes.go (fun _ k => XS.iadd X3.here hx rfl (hb hby d3_40) rfl k) ?_
  show Goes _ _ _ _ _ _ _ (T3.setTop (mkF m 41 _ [(.int (v20 + w))]))
  refine Goes.go (fun _ k => XS.bipush X3.here hx rfl (hb hby d3_41) k) ?_
  show Goes _ _ _ _ _ _ _ (T3.setTop (mkF m 43 _ [(.int (64 : Int32)), (.int (v20 + w))]))
  by_cases c43 : (64 : Int32) < (v20 + w)
  · skip
    refine Goes.go (fun _ k => XS.icmpNo X3.here hx rfl (hb hby d3_43) rfl (XT.ii_le_f c43) k) ?_
    show Goes _ _ _ _ _ _ _ (T3.setTop (mkF m 46 _ []))
    refine Goes.go (fun _ k => XS.lload X3.here hx rfl (hb hby d3_46) rfl k) ?_
    show Goes _ _ _ _ _ _ _ (T3.setTop (mkF m 48 _ [(.long v32)]))
    refine Goes.go (fun _ k => XS.aloadN X3.here hx rfl (hb hby d3_48) rfl rfl k) ?_
    show Goes _ _ _ _ _ _ _ (T3.setTop (mkF m 49 _ [(.ref a), (.long v32)]))
    obtain ⟨T4, X4, e4, st4⟩ := getF X3 hx hZ hown (host := "") (Or.inl (hw _ (List.mem_of_getElem? (i := 19) rfl))) Via.refl e3 F_words (g := (mkF m 49 #[.val (.ref a), .val (.long ix), .second, .val (.long v7), .second, .val (.int v13), .val (.int v20), .val (.long v32), .second] [(.ref a), (.long v32)])) rfl rfl (hb hby d3_49)
    refine Goes.go (st4) ?_
    show Goes _ _ _ _ _ _ _ (T4.setTop (mkF m 52 _ [(.ref bb), (.long v32)]))
    refine Goes.go (fun _ k => XS.iload X4.here hx rfl (hb hby d3_52) rfl k) ?_
    show Goes _ _ _ _ _ _ _ (T4.setTop (mkF m 54 _ [(.int v13), (.ref bb), (.long v32)]))
    refine Goes.go (fun _ k => XS.iconst X4.here hx rfl (hb hby d3_54) k) ?_
    show Goes _ _ _ _ _ _ _ (T4.setTop (mkF m 55 _ [(.int (1 : Int32)), (.int v13), (.ref bb), (.long v32)]))
    refine Goes.go (fun _ k => XS.iadd X4.here hx rfl (hb hby d3_55) rfl k) ?_
    show Goes _ _ _ _ _ _ _ (T4.setTop (mkF m 56 _ [(.int (v13 + (1 : Int32))), (.ref bb), (.long v32)]))
    refine Goes.go (own_ldJ X4 hx hZ e4 A0 (j := (v13 + (1 : Int32))) (v := (.long y)) (q3 c43).1 (q3 c43).2 rfl rfl (hb hby d3_56)) ?_
    show Goes _ _ _ _ _ _ _ (T4.setTop (mkF m 57 _ [(.long y), (.long v32)]))
    refine Goes.go (fun _ k => XS.bipush X4.here hx rfl (hb hby d3_57) k) ?_
    show Goes _ _ _ _ _ _ _ (T4.setTop (mkF m 59 _ [(.int (64 : Int32)), (.long y), (.long v32)]))
    refine Goes.go (fun _ k => XS.iload X4.here hx rfl (hb hby d3_59) rfl k) ?_
    show Goes _ _ _ _ _ _ _ (T4.setTop (mkF m 61 _ [(.int v20), (.int (64 : Int32)), (.long y), (.long v32)]))
    refine Goes.go (fun _ k => XS.isub X4.here hx rfl (hb hby d3_61) rfl k) ?_
    show Goes _ _ _ _ _ _ _ (T4.setTop (mkF m 62 _ [(.int ((64 : Int32) - v20)), (.long y), (.long v32)]))
    refine Goes.go (fun _ k => XS.lshl X4.here hx rfl (hb hby d3_62) rfl k) ?_
    show Goes _ _ _ _ _ _ _ (T4.setTop (mkF m 63 _ [(.long (y <<< (((64 : Int32) - v20) &&& 0x3f).toInt64)), (.long v32)]))
    refine Goes.go (fun _ k => XS.lor X4.here hx rfl (hb hby d3_63) rfl k) ?_
    show Goes _ _ _ _ _ _ _ (T4.setTop (mkF m 64 _ [(.long (v32 ||| (y <<< (((64 : Int32) - v20) &&& 0x3f).toInt64)))]))
    generalize hv64 : (v32 ||| (y <<< (((64 : Int32) - v20) &&& 0x3f).toInt64)) = v64
    refine Goes.go (fun _ k => XS.lstore X4.here hx rfl (hb hby d3_64) rfl (l' := #[.val (.ref a), .val (.long ix), .second, .val (.long v7), .second, .val (.int v13), .val (.int v20), .val (.long v64), .second]) rfl k) ?_
    show Goes _ _ _ _ _ _ _ (T4.setTop (mkF m 66 #[.val (.ref a), .val (.long ix), .second, .val (.long v7), .second, .val (.int v13), .val (.int v20), .val (.long v64), .second] []))
    refine Goes.go (fun _ k => XS.lload X4.here hx rfl (hb hby d3_66) rfl k) ?_
    show Goes _ _ _ _ _ _ _ (T4.setTop (mkF m 68 _ [(.long v64)]))
    refine Goes.go (fun _ k => XS.aloadN X4.here hx rfl (hb hby d3_68) rfl rfl k) ?_
    show Goes _ _ _ _ _ _ _ (T4.setTop (mkF m 69 _ [(.ref a), (.long v64)]))
    obtain ⟨T5, X5, e5, st5⟩ := getF X4 hx hZ hown (host := "") (Or.inl (hw _ (List.mem_of_getElem? (i := 17) rfl))) Via.refl e4 F_mask (g := (mkF m 69 #[.val (.ref a), .val (.long ix), .second, .val (.long v7), .second, .val (.int v13), .val (.int v20), .val (.long v64), .second] [(.ref a), (.long v64)])) rfl rfl (hb hby d3_69)
    refine Goes.go (st5) ?_
    show Goes _ _ _ _ _ _ _ (T5.setTop (mkF m 72 _ [(.long mk), (.long v64)]))
    refine Goes.go (fun _ k => XS.land X5.here hx rfl (hb hby d3_72) rfl k) ?_
    show Goes _ _ _ _ _ _ _ (T5.setTop (mkF m 73 _ [(.long (v64 &&& mk))]))
    exact Goes.outJ X5 hx hlk hret (hb hby d3_73) e5 ⟨by rw [e20]; unfold gF; rw [if_pos c43, hv32, hv64], N0, rfl⟩ (by decide) (by decide)
  · skip
    refine Goes.go (fun _ k => XS.icmpYes X3.here hx rfl (pc0 := 43) (pc' := 66) rfl (hb hby d3_43) rfl (XT.ii_le_t c43) (by decide) (by decide) k) ?_
    show Goes _ _ _ _ _ _ _ (T3.setTop (mkF m 66 _ []))
    refine Goes.go (fun _ k => XS.lload X3.here hx rfl (hb hby d3_66) rfl k) ?_
    show Goes _ _ _ _ _ _ _ (T3.setTop (mkF m 68 _ [(.long v32)]))
    refine Goes.go (fun _ k => XS.aloadN X3.here hx rfl (hb hby d3_68) rfl rfl k) ?_
    show Goes _ _ _ _ _ _ _ (T3.setTop (mkF m 69 _ [(.ref a), (.long v32)]))
    obtain ⟨T4, X4, e4, st4⟩ := getF X3 hx hZ hown (host := "") (Or.inl (hw _ (List.mem_of_getElem? (i := 17) rfl))) Via.refl e3 F_mask (g := (mkF m 69 #[.val (.ref a), .val (.long ix), .second, .val (.long v7), .second, .val (.int v13), .val (.int v20), .val (.long v32), .second] [(.ref a), (.long v32)])) rfl rfl (hb hby d3_69)
    refine Goes.go (st4) ?_
    show Goes _ _ _ _ _ _ _ (T4.setTop (mkF m 72 _ [(.long mk), (.long v32)]))
    refine Goes.go (fun _ k => XS.land X4.here hx rfl (hb hby d3_72) rfl k) ?_
    show Goes _ _ _ _ _ _ _ (T4.setTop (mkF m 73 _ [(.long (v32 &&& mk))]))
    exact Goes.outJ X4 hx hlk hret (hb hby d3_73) e4 ⟨by rw [e20]; unfold gF; rw [if_neg c43, hv32], N0, rfl⟩ (by decide) (by decide)
theorem d4_0 : decode method_2_code 0 = .ok (.lload 6, 2) := by decide +kernel
theorem d4_2 : decode method_2_code 2 = .ok (.ldc2_w 7, 3) := by decide +kernel
theorem d4_5 : decode method_2_code 5 = .ok (.lcmp, 1) := by decide +kernel
theorem d4_6 : decode method_2_code 6 = .ok (.ifCond .ge 11, 3) := by decide +kernel
theorem d4_9 : decode method_2_code 9 = .ok (.lload_n 0, 1) := by decide +kernel
theorem d4_10 : decode method_2_code 10 = .ok (.lload 6, 2) := by decide +kernel
theorem d4_12 : decode method_2_code 12 = .ok (.l2i, 1) := by decide +kernel
theorem d4_13 : decode method_2_code 13 = .ok (.lushr, 1) := by decide +kernel
theorem d4_14 : decode method_2_code 14 = .ok (.lconst 1, 1) := by decide +kernel
theorem d4_15 : decode method_2_code 15 = .ok (.land, 1) := by decide +kernel
theorem d4_16 : decode method_2_code 16 = .ok (.lreturn, 1) := by decide +kernel
theorem d4_17 : decode method_2_code 17 = .ok (.lload 6, 2) := by decide +kernel
theorem d4_19 : decode method_2_code 19 = .ok (.ldc2_w 9, 3) := by decide +kernel
theorem d4_22 : decode method_2_code 22 = .ok (.lcmp, 1) := by decide +kernel
theorem d4_23 : decode method_2_code 23 = .ok (.ifCond .ge 15, 3) := by decide +kernel
theorem d4_26 : decode method_2_code 26 = .ok (.lload_n 2, 1) := by decide +kernel
theorem d4_27 : decode method_2_code 27 = .ok (.lload 6, 2) := by decide +kernel
theorem d4_29 : decode method_2_code 29 = .ok (.ldc2_w 7, 3) := by decide +kernel
theorem d4_32 : decode method_2_code 32 = .ok (.lsub, 1) := by decide +kernel
theorem d4_33 : decode method_2_code 33 = .ok (.l2i, 1) := by decide +kernel
theorem d4_34 : decode method_2_code 34 = .ok (.lushr, 1) := by decide +kernel
theorem d4_35 : decode method_2_code 35 = .ok (.lconst 1, 1) := by decide +kernel
theorem d4_36 : decode method_2_code 36 = .ok (.land, 1) := by decide +kernel
theorem d4_37 : decode method_2_code 37 = .ok (.lreturn, 1) := by decide +kernel
theorem d4_38 : decode method_2_code 38 = .ok (.lload 4, 2) := by decide +kernel
theorem d4_40 : decode method_2_code 40 = .ok (.lload 6, 2) := by decide +kernel
theorem d4_42 : decode method_2_code 42 = .ok (.ldc2_w 9, 3) := by decide +kernel
theorem d4_45 : decode method_2_code 45 = .ok (.lsub, 1) := by decide +kernel
theorem d4_46 : decode method_2_code 46 = .ok (.l2i, 1) := by decide +kernel
theorem d4_47 : decode method_2_code 47 = .ok (.lushr, 1) := by decide +kernel
theorem d4_48 : decode method_2_code 48 = .ok (.lconst 1, 1) := by decide +kernel
theorem d4_49 : decode method_2_code 49 = .ok (.land, 1) := by decide +kernel
theorem d4_50 : decode method_2_code 50 = .ok (.lreturn, 1) := by decide +kernel
theorem pn1 : plainName "com/example/galdict/galdict/model/PackedArrayGetPinLaw" = true := by first | (simp [plainName, overriddenIn]; done) | decide +kernel
theorem ef_rm3 (m : MethodId) (p0 : Int64) (p1 : Int64) (p2 : Int64) (p3 : Int64) : entryFrame m #[(.long p0), (.long p1), (.long p2), (.long p3)] 8 = mkF m 0 #[.val (.long p0), .second, .val (.long p1), .second, .val (.long p2), .second, .val (.long p3), .second] [] := by first | (simp [entryFrame, mkF, argsToLocals, Value.category]; done) | rfl
def Q_rm3 (Z : State) (p0 : Int64) (p1 : Int64) (p2 : Int64) (p3 : Int64) (h0 : Heap) (n0 : Nat) (v : Option Value) (h : Heap) (L : List Loc) : Prop := v = some (.long (boF p0 p1 p2 p3)) ∧ Fr n0 L ∧ h = h0
set_option maxRecDepth 65536 in
set_option maxHeartbeats 40000000 in
theorem rm3 (l : Launch) (Z : State) (a0 : Array Value) (hw : ∀ d ∈ tables_1, d.before a0 Z = true) (ws : List Jvm.Cond) (p0 : Int64) (p1 : Int64) (p2 : Int64) (p3 : Int64) (h0 : Heap) (n0 : Nat) (Z0 : n0 ≤ h0.size)  :
    MetFree l (⟨"com/example/galdict/galdict/model/PackedArrayGetPinLaw", "bitOf", "(JJJJ)J"⟩ : MethodName) (head1 (Jvm.Cond.code (⟨"com/example/galdict/galdict/model/PackedArrayGetPinLaw", "bitOf", "(JJJJ)J"⟩ : MethodName) method_2_code 8 (some .long) :: ws) ({ frames := 0, cells := 0, slots := 0, locals := 0 } : Room)) (fun aa U => aa = #[(.long p0), (.long p1), (.long p2), (.long p3)] ∧ Z.Warmed39 U.vm ∧ U.heap = h0) (fun _ _ _ _ _ => True) (fun _ U o U' => ∃ v L, o = .returned v ∧ Q_rm3 Z p0 p1 p2 p3 h0 n0 v U'.heap L ∧ FrameEnd U o U' L ({ frames := 0, cells := 0, slots := 0, locals := 0 } : Room).cells ({ frames := 0, cells := 0, slots := 0, locals := 0 } : Room).slots) := by
  refine MetFree.of_bodySF (plainFor_of_name pn1) hisR ?_
  intro p e s m args below meth c s₁ Bd hml0 hP hK
  obtain ⟨rfl, hZ, hh⟩ := hP
  have hx := Bd.exec
  have hby := Bd.bytes
  have hml : c.maxLocals = 8 := hml0
  have hown : s.vm.findClass "com/example/galdict/galdict/model/PackedArrayGetPinLaw" = some m.cls := findClass_of_methodNamed Bd.named
  have hnm := (name_of_methodNamed Bd.named Bd.method).1
  have hlk : meth.locks = false := Bd.notSynchronized
  have hret := Bd.returns
  have X0 : Stand p l e ({ frames := 0, cells := 0, slots := 0, locals := 0 } : Room) s m #[(.long p0), (.long p1), (.long p2), (.long p3)] below meth c s₁ [] 0 0 := Stand.of_body Bd
  have e0 : s₁.heap = h0 := by rw [← hh, Bd.state]; rfl
  have N0 := Fr.nil n0
  have K0 : Keep h0 h0 [] := Keep.refl _ _
  show Goes p e below s (Q_rm3 Z p0 p1 p2 p3 h0 n0) ({ frames := 0, cells := 0, slots := 0, locals := 0 } : Room).cells ({ frames := 0, cells := 0, slots := 0, locals := 0 } : Room).slots _
  refine Goes.go (fun t k => castTop (ef_rm3 m p0 p1 p2 p3) k) ?_
  show Goes _ _ _ _ _ _ _ (s₁.setTop (mkF m 0 #[.val (.long p0), .second, .val (.long p1), .second, .val (.long p2), .second, .val (.long p3), .second] []))
  refine Goes.go (fun _ k => XS.lload X0.here hx rfl (hb hby d4_0) rfl k) ?_
  show Goes _ _ _ _ _ _ _ (s₁.setTop (mkF m 2 _ [(.long p3)]))
  refine Goes.go (fun _ k => X0.ldc2J hx (v := (64 : Int64)) hown (mvT hZ (hw _ (List.mem_of_getElem? (i := 30) rfl))) rfl (hb hby d4_2) k) ?_
  show Goes _ _ _ _ _ _ _ (s₁.setTop (mkF m 5 _ [(.long (64 : Int64)), (.long p3)]))
  refine Goes.go (fun _ k => XT.lcmp X0.here hx rfl (hb hby d4_5) rfl k) ?_
  show Goes _ _ _ _ _ _ _ (s₁.setTop (mkF m 6 _ [(.int (XT.cmpL p3 (64 : Int64)))]))
  by_cases c6 : p3 < (64 : Int64)
  · skip
    refine Goes.go (fun _ k => XS.ifNo X0.here hx rfl (hb hby d4_6) rfl (XT.ll_ge_f c6) k) ?_
    show Goes _ _ _ _ _ _ _ (s₁.setTop (mkF m 9 _ []))
    refine Goes.go (fun _ k => XS.lloadN X0.here hx rfl (hb hby d4_9) rfl k) ?_
    show Goes _ _ _ _ _ _ _ (s₁.setTop (mkF m 10 _ [(.long p0)]))
    refine Goes.go (fun _ k => XS.lload X0.here hx rfl (hb hby d4_10) rfl k) ?_
    show Goes _ _ _ _ _ _ _ (s₁.setTop (mkF m 12 _ [(.long p3), (.long p0)]))
    refine Goes.go (fun _ k => XS.l2i X0.here hx rfl (hb hby d4_12) rfl k) ?_
    show Goes _ _ _ _ _ _ _ (s₁.setTop (mkF m 13 _ [(.int (p3).toInt32), (.long p0)]))
    refine Goes.go (fun _ k => XS.lushr X0.here hx rfl (hb hby d4_13) rfl k) ?_
    show Goes _ _ _ _ _ _ _ (s₁.setTop (mkF m 14 _ [(.long ((p0).toUInt64 >>> ((p3).toInt32 &&& 0x3f).toInt64.toUInt64).toInt64)]))
    refine Goes.go (fun _ k => XS.lconst X0.here hx rfl (hb hby d4_14) k) ?_
    show Goes _ _ _ _ _ _ _ (s₁.setTop (mkF m 15 _ [(.long (1 : Int64)), (.long ((p0).toUInt64 >>> ((p3).toInt32 &&& 0x3f).toInt64.toUInt64).toInt64)]))
    refine Goes.go (fun _ k => XS.land X0.here hx rfl (hb hby d4_15) rfl k) ?_
    show Goes _ _ _ _ _ _ _ (s₁.setTop (mkF m 16 _ [(.long (((p0).toUInt64 >>> ((p3).toInt32 &&& 0x3f).toInt64.toUInt64).toInt64 &&& (1 : Int64)))]))
    exact Goes.outJ X0 hx hlk hret (hb hby d4_16) e0 ⟨by unfold boF; rw [if_pos c6], N0, rfl⟩ (by decide) (by decide)
  · skip
    refine Goes.go (fun _ k => XS.ifYes X0.here hx rfl (pc0 := 6) (pc' := 17) rfl (hb hby d4_6) rfl (XT.ll_ge_t c6) (by decide) (by decide) k) ?_
    show Goes _ _ _ _ _ _ _ (s₁.setTop (mkF m 17 _ []))
    refine Goes.go (fun _ k => XS.lload X0.here hx rfl (hb hby d4_17) rfl k) ?_
    show Goes _ _ _ _ _ _ _ (s₁.setTop (mkF m 19 _ [(.long p3)]))
    refine Goes.go (fun _ k => X0.ldc2J hx (v := (128 : Int64)) hown (mvT hZ (hw _ (List.mem_of_getElem? (i := 31) rfl))) rfl (hb hby d4_19) k) ?_
    show Goes _ _ _ _ _ _ _ (s₁.setTop (mkF m 22 _ [(.long (128 : Int64)), (.long p3)]))
    refine Goes.go (fun _ k => XT.lcmp X0.here hx rfl (hb hby d4_22) rfl k) ?_
    show Goes _ _ _ _ _ _ _ (s₁.setTop (mkF m 23 _ [(.int (XT.cmpL p3 (128 : Int64)))]))
    by_cases c23 : p3 < (128 : Int64)
    · skip
      refine Goes.go (fun _ k => XS.ifNo X0.here hx rfl (hb hby d4_23) rfl (XT.ll_ge_f c23) k) ?_
      show Goes _ _ _ _ _ _ _ (s₁.setTop (mkF m 26 _ []))
      refine Goes.go (fun _ k => XS.lloadN X0.here hx rfl (hb hby d4_26) rfl k) ?_
      show Goes _ _ _ _ _ _ _ (s₁.setTop (mkF m 27 _ [(.long p1)]))
      refine Goes.go (fun _ k => XS.lload X0.here hx rfl (hb hby d4_27) rfl k) ?_
      show Goes _ _ _ _ _ _ _ (s₁.setTop (mkF m 29 _ [(.long p3), (.long p1)]))
      refine Goes.go (fun _ k => X0.ldc2J hx (v := (64 : Int64)) hown (mvT hZ (hw _ (List.mem_of_getElem? (i := 30) rfl))) rfl (hb hby d4_29) k) ?_
      show Goes _ _ _ _ _ _ _ (s₁.setTop (mkF m 32 _ [(.long (64 : Int64)), (.long p3), (.long p1)]))
      refine Goes.go (fun _ k => XS.lsub X0.here hx rfl (hb hby d4_32) rfl k) ?_
      show Goes _ _ _ _ _ _ _ (s₁.setTop (mkF m 33 _ [(.long (p3 - (64 : Int64))), (.long p1)]))
      refine Goes.go (fun _ k => XS.l2i X0.here hx rfl (hb hby d4_33) rfl k) ?_
      show Goes _ _ _ _ _ _ _ (s₁.setTop (mkF m 34 _ [(.int ((p3 - (64 : Int64))).toInt32), (.long p1)]))
      refine Goes.go (fun _ k => XS.lushr X0.here hx rfl (hb hby d4_34) rfl k) ?_
      show Goes _ _ _ _ _ _ _ (s₁.setTop (mkF m 35 _ [(.long ((p1).toUInt64 >>> (((p3 - (64 : Int64))).toInt32 &&& 0x3f).toInt64.toUInt64).toInt64)]))
      refine Goes.go (fun _ k => XS.lconst X0.here hx rfl (hb hby d4_35) k) ?_
      show Goes _ _ _ _ _ _ _ (s₁.setTop (mkF m 36 _ [(.long (1 : Int64)), (.long ((p1).toUInt64 >>> (((p3 - (64 : Int64))).toInt32 &&& 0x3f).toInt64.toUInt64).toInt64)]))
      refine Goes.go (fun _ k => XS.land X0.here hx rfl (hb hby d4_36) rfl k) ?_
      show Goes _ _ _ _ _ _ _ (s₁.setTop (mkF m 37 _ [(.long (((p1).toUInt64 >>> (((p3 - (64 : Int64))).toInt32 &&& 0x3f).toInt64.toUInt64).toInt64 &&& (1 : Int64)))]))
      exact Goes.outJ X0 hx hlk hret (hb hby d4_37) e0 ⟨by unfold boF; rw [if_neg c6, if_pos c23], N0, rfl⟩ (by decide) (by decide)
    · skip
      refine Goes.go (fun _ k => XS.ifYes X0.here hx rfl (pc0 := 23) (pc' := 38) rfl (hb hby d4_23) rfl (XT.ll_ge_t c23) (by decide) (by decide) k) ?_
      show Goes _ _ _ _ _ _ _ (s₁.setTop (mkF m 38 _ []))
      refine Goes.go (fun _ k => XS.lload X0.here hx rfl (hb hby d4_38) rfl k) ?_
      show Goes _ _ _ _ _ _ _ (s₁.setTop (mkF m 40 _ [(.long p2)]))
      refine Goes.go (fun _ k => XS.lload X0.here hx rfl (hb hby d4_40) rfl k) ?_
      show Goes _ _ _ _ _ _ _ (s₁.setTop (mkF m 42 _ [(.long p3), (.long p2)]))
      refine Goes.go (fun _ k => X0.ldc2J hx (v := (128 : Int64)) hown (mvT hZ (hw _ (List.mem_of_getElem? (i := 31) rfl))) rfl (hb hby d4_42) k) ?_
      show Goes _ _ _ _ _ _ _ (s₁.setTop (mkF m 45 _ [(.long (128 : Int64)), (.long p3), (.long p2)]))
      refine Goes.go (fun _ k => XS.lsub X0.here hx rfl (hb hby d4_45) rfl k) ?_
      show Goes _ _ _ _ _ _ _ (s₁.setTop (mkF m 46 _ [(.long (p3 - (128 : Int64))), (.long p2)]))
      refine Goes.go (fun _ k => XS.l2i X0.here hx rfl (hb hby d4_46) rfl k) ?_
      show Goes _ _ _ _ _ _ _ (s₁.setTop (mkF m 47 _ [(.int ((p3 - (128 : Int64))).toInt32), (.long p2)]))
      refine Goes.go (fun _ k => XS.lushr X0.here hx rfl (hb hby d4_47) rfl k) ?_
      show Goes _ _ _ _ _ _ _ (s₁.setTop (mkF m 48 _ [(.long ((p2).toUInt64 >>> (((p3 - (128 : Int64))).toInt32 &&& 0x3f).toInt64.toUInt64).toInt64)]))
      refine Goes.go (fun _ k => XS.lconst X0.here hx rfl (hb hby d4_48) k) ?_
      show Goes _ _ _ _ _ _ _ (s₁.setTop (mkF m 49 _ [(.long (1 : Int64)), (.long ((p2).toUInt64 >>> (((p3 - (128 : Int64))).toInt32 &&& 0x3f).toInt64.toUInt64).toInt64)]))
      refine Goes.go (fun _ k => XS.land X0.here hx rfl (hb hby d4_49) rfl k) ?_
      show Goes _ _ _ _ _ _ _ (s₁.setTop (mkF m 50 _ [(.long (((p2).toUInt64 >>> (((p3 - (128 : Int64))).toInt32 &&& 0x3f).toInt64.toUInt64).toInt64 &&& (1 : Int64)))]))
      exact Goes.outJ X0 hx hlk hret (hb hby d4_50) e0 ⟨by unfold boF; rw [if_neg c6, if_neg c23], N0, rfl⟩ (by decide) (by decide)
theorem ef_rm0 (m : MethodId) (p0 : Int32) (p1 : Int32) (p2 : Int32) (p3 : Int64) (p4 : Int64) (p5 : Int64) : entryFrame m #[(.int p0), (.int p1), (.int p2), (.long p3), (.long p4), (.long p5)] maxLocals = mkF m 0 #[.val (.int p0), .val (.int p1), .val (.int p2), .val (.long p3), .second, .val (.long p4), .second, .val (.long p5), .second, .unset, .unset, .unset, .unset, .unset, .unset, .unset, .unset, .unset, .unset, .unset, .unset, .unset, .unset, .unset, .unset] [] := by first | (simp [entryFrame, mkF, argsToLocals, Value.category, maxLocals]; done) | rfl
def Q_rm0 (Z : State) (p0 : Int32) (p1 : Int32) (p2 : Int32) (p3 : Int64) (p4 : Int64) (p5 : Int64) (h0 : Heap) (n0 : Nat) (v : Option Value) (h : Heap) (L : List Loc) : Prop := v = some (.int 1) ∧ Fr n0 L
set_option maxRecDepth 65536 in
set_option maxHeartbeats 40000000 in
theorem rm0 (l : Launch) (Z : State) (a0 : Array Value) (hw : ∀ d ∈ tables_1, d.before a0 Z = true) (ws : List Jvm.Cond) (p0 : Int32) (p1 : Int32) (p2 : Int32) (p3 : Int64) (p4 : Int64) (p5 : Int64) (h0 : Heap) (n0 : Nat) (Z0 : n0 ≤ h0.size)  :
    MetFree l x (head1 (Jvm.Cond.code x code maxLocals ret :: ws) room_1) (fun aa U => aa = #[(.int p0), (.int p1), (.int p2), (.long p3), (.long p4), (.long p5)] ∧ Z.Warmed39 U.vm ∧ U.heap = h0) (fun _ _ _ _ _ => True) (fun _ U o U' => ∃ v L, o = .returned v ∧ Q_rm0 Z p0 p1 p2 p3 p4 p5 h0 n0 v U'.heap L ∧ FrameEnd U o U' L room_1.cells room_1.slots) := by
  refine MetFree.of_bodySF (plainFor_of_name pn1) hisR ?_
  intro p e s m args below meth c s₁ Bd hml0 hP hK
  obtain ⟨rfl, hZ, hh⟩ := hP
  have hx := Bd.exec
  have hby := Bd.bytes
  have hml : c.maxLocals = 25 := hml0
  have hown : s.vm.findClass "com/example/galdict/galdict/model/PackedArrayGetPinLaw" = some m.cls := findClass_of_methodNamed Bd.named
  have hnm := (name_of_methodNamed Bd.named Bd.method).1
  have hlk : meth.locks = false := Bd.notSynchronized
  have hret := Bd.returns
  have X0 : Stand p l e room_1 s m #[(.int p0), (.int p1), (.int p2), (.long p3), (.long p4), (.long p5)] below meth c s₁ [] 0 0 := Stand.of_body Bd
  have e0 : s₁.heap = h0 := by rw [← hh, Bd.state]; rfl
  have N0 := Fr.nil n0
  have K0 : Keep h0 h0 [] := Keep.refl _ _
  show Goes p e below s (Q_rm0 Z p0 p1 p2 p3 p4 p5 h0 n0) room_1.cells room_1.slots _
  refine Goes.go (fun t k => castTop (ef_rm0 m p0 p1 p2 p3 p4 p5) k) ?_
  show Goes _ _ _ _ _ _ _ (s₁.setTop (mkF m 0 #[.val (.int p0), .val (.int p1), .val (.int p2), .val (.long p3), .second, .val (.long p4), .second, .val (.long p5), .second, .unset, .unset, .unset, .unset, .unset, .unset, .unset, .unset, .unset, .unset, .unset, .unset, .unset, .unset, .unset, .unset] []))
  refine Goes.go (fun _ k => XS.iconst X0.here hx rfl (hb hby at_0) k) ?_
  show Goes _ _ _ _ _ _ _ (s₁.setTop (mkF m 1 _ [(.int (1 : Int32))]))
  refine Goes.go (fun _ k => XS.iloadN X0.here hx rfl (hb hby at_1) rfl k) ?_
  show Goes _ _ _ _ _ _ _ (s₁.setTop (mkF m 2 _ [(.int p0), (.int (1 : Int32))]))
  refine Goes.go (fun _ k => XS.bipush X0.here hx rfl (hb hby at_2) k) ?_
  show Goes _ _ _ _ _ _ _ (s₁.setTop (mkF m 4 _ [(.int (63 : Int32)), (.int p0), (.int (1 : Int32))]))
  refine Goes.go (fun _ k => XS.iand X0.here hx rfl (hb hby at_4) rfl k) ?_
  show Goes _ _ _ _ _ _ _ (s₁.setTop (mkF m 5 _ [(.int (p0 &&& (63 : Int32))), (.int (1 : Int32))]))
  refine Goes.go (fun _ k => XS.iadd X0.here hx rfl (hb hby at_5) rfl k) ?_
  show Goes _ _ _ _ _ _ _ (s₁.setTop (mkF m 6 _ [(.int ((1 : Int32) + (p0 &&& (63 : Int32))))]))
  generalize hv6 : ((1 : Int32) + (p0 &&& (63 : Int32))) = v6
  refine Goes.go (fun _ k => XS.istore X0.here hx rfl (hb hby at_6) rfl (l' := #[.val (.int p0), .val (.int p1), .val (.int p2), .val (.long p3), .second, .val (.long p4), .second, .val (.long p5), .second, .val (.int v6), .unset, .unset, .unset, .unset, .unset, .unset, .unset, .unset, .unset, .unset, .unset, .unset, .unset, .unset, .unset]) rfl k) ?_
  show Goes _ _ _ _ _ _ _ (s₁.setTop (mkF m 8 #[.val (.int p0), .val (.int p1), .val (.int p2), .val (.long p3), .second, .val (.long p4), .second, .val (.long p5), .second, .val (.int v6), .unset, .unset, .unset, .unset, .unset, .unset, .unset, .unset, .unset, .unset, .unset, .unset, .unset, .unset, .unset] []))
  obtain ⟨w', hw1, hw2, hw3⟩ := own_wi p0
  rw [hv6] at hw1
  refine Goes.go (fun _ k => X0.ldc2J hx (v := (192 : Int64)) hown (mvT hZ (hw _ (List.mem_of_getElem? (i := 0) rfl))) rfl (hb hby at_8) k) ?_
  show Goes _ _ _ _ _ _ _ (s₁.setTop (mkF m 11 _ [(.long (192 : Int64))]))
  refine Goes.go (fun _ k => XS.iload X0.here hx rfl (hb hby at_11) rfl k) ?_
  show Goes _ _ _ _ _ _ _ (s₁.setTop (mkF m 13 _ [(.int v6), (.long (192 : Int64))]))
  refine Goes.go (fun _ k => XS.i2l X0.here hx rfl (hb hby at_13) rfl k) ?_
  show Goes _ _ _ _ _ _ _ (s₁.setTop (mkF m 14 _ [(.long (v6).toInt64), (.long (192 : Int64))]))
  refine Goes.go (fun _ k => XS.ldiv X0.here hx rfl (hb hby at_14) rfl (own_wnz hw1 hw2) k) ?_
  show Goes _ _ _ _ _ _ _ (s₁.setTop (mkF m 15 _ [(.long ((192 : Int64) / (v6).toInt64))]))
  generalize hv15 : ((192 : Int64) / (v6).toInt64) = v15
  refine Goes.go (fun _ k => XS.lstore X0.here hx rfl (hb hby at_15) rfl (l' := #[.val (.int p0), .val (.int p1), .val (.int p2), .val (.long p3), .second, .val (.long p4), .second, .val (.long p5), .second, .val (.int v6), .val (.long v15), .second, .unset, .unset, .unset, .unset, .unset, .unset, .unset, .unset, .unset, .unset, .unset, .unset, .unset]) rfl k) ?_
  show Goes _ _ _ _ _ _ _ (s₁.setTop (mkF m 17 #[.val (.int p0), .val (.int p1), .val (.int p2), .val (.long p3), .second, .val (.long p4), .second, .val (.long p5), .second, .val (.int v6), .val (.long v15), .second, .unset, .unset, .unset, .unset, .unset, .unset, .unset, .unset, .unset, .unset, .unset, .unset, .unset] []))
  have hn := own_nlen hw1 hw2 hw3
  rw [hv15] at hn
  have hn0 := own_len0 hw2 hw3
  refine Goes.go (fun _ k => XS.iloadN X0.here hx rfl (hb hby at_17) rfl k) ?_
  show Goes _ _ _ _ _ _ _ (s₁.setTop (mkF m 18 _ [(.int p1)]))
  refine Goes.go (fun _ k => X0.ldcI hx (v := (2147483647 : Int32)) hown (mvT hZ (hw _ (List.mem_of_getElem? (i := 1) rfl))) rfl (hb hby at_18) k) ?_
  show Goes _ _ _ _ _ _ _ (s₁.setTop (mkF m 20 _ [(.int (2147483647 : Int32)), (.int p1)]))
  refine Goes.go (fun _ k => XS.iand X0.here hx rfl (hb hby at_20) rfl k) ?_
  show Goes _ _ _ _ _ _ _ (s₁.setTop (mkF m 21 _ [(.int (p1 &&& (2147483647 : Int32)))]))
  refine Goes.go (fun _ k => XS.i2l X0.here hx rfl (hb hby at_21) rfl k) ?_
  show Goes _ _ _ _ _ _ _ (s₁.setTop (mkF m 22 _ [(.long ((p1 &&& (2147483647 : Int32))).toInt64)]))
  refine Goes.go (fun _ k => XS.lload X0.here hx rfl (hb hby at_22) rfl k) ?_
  show Goes _ _ _ _ _ _ _ (s₁.setTop (mkF m 24 _ [(.long v15), (.long ((p1 &&& (2147483647 : Int32))).toInt64)]))
  refine Goes.go (fun _ k => XS.lrem X0.here hx rfl (hb hby at_24) rfl (own_nnz hn hn0.1) k) ?_
  show Goes _ _ _ _ _ _ _ (s₁.setTop (mkF m 25 _ [(.long (((p1 &&& (2147483647 : Int32))).toInt64 - ((p1 &&& (2147483647 : Int32))).toInt64 / v15 * v15))]))
  generalize hv25 : (((p1 &&& (2147483647 : Int32))).toInt64 - ((p1 &&& (2147483647 : Int32))).toInt64 / v15 * v15) = v25
  refine Goes.go (fun _ k => XS.lstore X0.here hx rfl (hb hby at_25) rfl (l' := #[.val (.int p0), .val (.int p1), .val (.int p2), .val (.long p3), .second, .val (.long p4), .second, .val (.long p5), .second, .val (.int v6), .val (.long v15), .second, .val (.long v25), .second, .unset, .unset, .unset, .unset, .unset, .unset, .unset, .unset, .unset, .unset, .unset]) rfl k) ?_
  show Goes _ _ _ _ _ _ _ (s₁.setTop (mkF m 27 #[.val (.int p0), .val (.int p1), .val (.int p2), .val (.long p3), .second, .val (.long p4), .second, .val (.long p5), .second, .val (.int v6), .val (.long v15), .second, .val (.long v25), .second, .unset, .unset, .unset, .unset, .unset, .unset, .unset, .unset, .unset, .unset, .unset] []))
  obtain ⟨i, hi1, hi2⟩ := own_ix p1 hn hn0.1 hv25
  obtain ⟨hm, hm2⟩ := own_mul hi1 hw1 hi2 hn0.2.1 hw3 hn0.2.2
  refine Goes.go (fun _ k => XS.iloadN X0.here hx rfl (hb hby at_27) rfl k) ?_
  show Goes _ _ _ _ _ _ _ (s₁.setTop (mkF m 28 _ [(.int p2)]))
  refine Goes.go (fun _ k => XS.bipush X0.here hx rfl (hb hby at_28) k) ?_
  show Goes _ _ _ _ _ _ _ (s₁.setTop (mkF m 30 _ [(.int (63 : Int32)), (.int p2)]))
  refine Goes.go (fun _ k => XS.iand X0.here hx rfl (hb hby at_30) rfl k) ?_
  show Goes _ _ _ _ _ _ _ (s₁.setTop (mkF m 31 _ [(.int (p2 &&& (63 : Int32)))]))
  generalize hv31 : (p2 &&& (63 : Int32)) = v31
  refine Goes.go (fun _ k => XS.istore X0.here hx rfl (hb hby at_31) rfl (l' := #[.val (.int p0), .val (.int p1), .val (.int p2), .val (.long p3), .second, .val (.long p4), .second, .val (.long p5), .second, .val (.int v6), .val (.long v15), .second, .val (.long v25), .second, .val (.int v31), .unset, .unset, .unset, .unset, .unset, .unset, .unset, .unset, .unset, .unset]) rfl k) ?_
  show Goes _ _ _ _ _ _ _ (s₁.setTop (mkF m 33 #[.val (.int p0), .val (.int p1), .val (.int p2), .val (.long p3), .second, .val (.long p4), .second, .val (.long p5), .second, .val (.int v6), .val (.long v15), .second, .val (.long v25), .second, .val (.int v31), .unset, .unset, .unset, .unset, .unset, .unset, .unset, .unset, .unset, .unset] []))
  obtain ⟨k', hk1, hk2⟩ := own_k p2
  rw [hv31] at hk1
  refine Goes.go (fun _ k => XS.iconst X0.here hx rfl (hb hby at_33) k) ?_
  show Goes _ _ _ _ _ _ _ (s₁.setTop (mkF m 34 _ [(.int (3 : Int32))]))
  obtain ⟨T1, h1, X1, e1, E1, A1, st1⟩ := own_newP X0 hx hZ (aty := .long) (hw _ (List.mem_of_getElem? (i := 2) rfl)) e0 (g := (mkF m 34 #[.val (.int p0), .val (.int p1), .val (.int p2), .val (.long p3), .second, .val (.long p4), .second, .val (.long p5), .second, .val (.int v6), .val (.long v15), .second, .val (.long v25), .second, .val (.int v31), .unset, .unset, .unset, .unset, .unset, .unset, .unset, .unset, .unset, .unset] [(.int (3 : Int32))])) rfl (hb hby at_34) rfl (n := (3 : Int32)) (by decide) (cap := 3) (by decide) (by decide) (by decide) (by decide)
  obtain ⟨ar34, gar34⟩ : ∃ z, z = h0.size := ⟨_, rfl⟩
  rw [← gar34] at A1 st1
  have Z1 : n0 ≤ h1.size := Nat.le_trans Z0 E1.1
  have ge_ar34 : n0 ≤ ar34 := Nat.le_trans Z0 (Nat.le_of_eq gar34.symm)
  have f : Arl Z h1 ar34 .long [(.long (0 : Int64)), (.long (0 : Int64)), (.long (0 : Int64))] := A1
  refine Goes.go (st1) ?_
  show Goes _ _ _ _ _ _ _ (T1.setTop (mkF m 36 _ [(.ref ar34)]))
  refine Goes.go (fun _ k => XS.dup X1.here hx rfl (hb hby at_36) rfl rfl k) ?_
  show Goes _ _ _ _ _ _ _ (T1.setTop (mkF m 37 _ [(.ref ar34), (.ref ar34)]))
  refine Goes.go (fun _ k => XS.iconst X1.here hx rfl (hb hby at_37) k) ?_
  show Goes _ _ _ _ _ _ _ (T1.setTop (mkF m 38 _ [(.int (0 : Int32)), (.ref ar34), (.ref ar34)]))
  refine Goes.go (fun _ k => XS.lloadN X1.here hx rfl (hb hby at_38) rfl k) ?_
  show Goes _ _ _ _ _ _ _ (T1.setTop (mkF m 39 _ [(.long p3), (.int (0 : Int32)), (.ref ar34), (.ref ar34)]))
  obtain ⟨T2, h2, X2, e2, W2, A2, st2⟩ := own_stJ X1 hx hZ e1 f (j := (0 : Int32)) (x := p3) (by decide) (show (0 : Nat) < 3 by decide) (g := (mkF m 39 #[.val (.int p0), .val (.int p1), .val (.int p2), .val (.long p3), .second, .val (.long p4), .second, .val (.long p5), .second, .val (.int v6), .val (.long v15), .second, .val (.long v25), .second, .val (.int v31), .unset, .unset, .unset, .unset, .unset, .unset, .unset, .unset, .unset, .unset] [(.long p3), (.int (0 : Int32)), (.ref ar34), (.ref ar34)])) rfl rfl (hb hby at_39)
  have N2 := Fr.snoc X2 N0 ge_ar34
  have Z2 : n0 ≤ h2.size := by rw [W2.size]; exact Z1
  have f_1 : Arl Z h2 ar34 .long [(.long p3), (.long (0 : Int64)), (.long (0 : Int64))] := A2
  refine Goes.go (st2) ?_
  show Goes _ _ _ _ _ _ _ (T2.setTop (mkF m 40 _ [(.ref ar34)]))
  refine Goes.go (fun _ k => XS.dup X2.here hx rfl (hb hby at_40) rfl rfl k) ?_
  show Goes _ _ _ _ _ _ _ (T2.setTop (mkF m 41 _ [(.ref ar34), (.ref ar34)]))
  refine Goes.go (fun _ k => XS.iconst X2.here hx rfl (hb hby at_41) k) ?_
  show Goes _ _ _ _ _ _ _ (T2.setTop (mkF m 42 _ [(.int (1 : Int32)), (.ref ar34), (.ref ar34)]))
  refine Goes.go (fun _ k => XS.lload X2.here hx rfl (hb hby at_42) rfl k) ?_
  show Goes _ _ _ _ _ _ _ (T2.setTop (mkF m 44 _ [(.long p4), (.int (1 : Int32)), (.ref ar34), (.ref ar34)]))
  obtain ⟨T3, h3, X3, e3, W3, A3, st3⟩ := own_stJ X2 hx hZ e2 f_1 (j := (1 : Int32)) (x := p4) (by decide) (show (1 : Nat) < 3 by decide) (g := (mkF m 44 #[.val (.int p0), .val (.int p1), .val (.int p2), .val (.long p3), .second, .val (.long p4), .second, .val (.long p5), .second, .val (.int v6), .val (.long v15), .second, .val (.long v25), .second, .val (.int v31), .unset, .unset, .unset, .unset, .unset, .unset, .unset, .unset, .unset, .unset] [(.long p4), (.int (1 : Int32)), (.ref ar34), (.ref ar34)])) rfl rfl (hb hby at_44)
  have N3 := Fr.snoc X3 N2 ge_ar34
  have Z3 : n0 ≤ h3.size := by rw [W3.size]; exact Z2
  have f_2 : Arl Z h3 ar34 .long [(.long p3), (.long p4), (.long (0 : Int64))] := A3
  refine Goes.go (st3) ?_
  show Goes _ _ _ _ _ _ _ (T3.setTop (mkF m 45 _ [(.ref ar34)]))
  refine Goes.go (fun _ k => XS.dup X3.here hx rfl (hb hby at_45) rfl rfl k) ?_
  show Goes _ _ _ _ _ _ _ (T3.setTop (mkF m 46 _ [(.ref ar34), (.ref ar34)]))
  refine Goes.go (fun _ k => XS.iconst X3.here hx rfl (hb hby at_46) k) ?_
  show Goes _ _ _ _ _ _ _ (T3.setTop (mkF m 47 _ [(.int (2 : Int32)), (.ref ar34), (.ref ar34)]))
  refine Goes.go (fun _ k => XS.lload X3.here hx rfl (hb hby at_47) rfl k) ?_
  show Goes _ _ _ _ _ _ _ (T3.setTop (mkF m 49 _ [(.long p5), (.int (2 : Int32)), (.ref ar34), (.ref ar34)]))
  obtain ⟨T4, h4, X4, e4, W4, A4, st4⟩ := own_stJ X3 hx hZ e3 f_2 (j := (2 : Int32)) (x := p5) (by decide) (show (2 : Nat) < 3 by decide) (g := (mkF m 49 #[.val (.int p0), .val (.int p1), .val (.int p2), .val (.long p3), .second, .val (.long p4), .second, .val (.long p5), .second, .val (.int v6), .val (.long v15), .second, .val (.long v25), .second, .val (.int v31), .unset, .unset, .unset, .unset, .unset, .unset, .unset, .unset, .unset, .unset] [(.long p5), (.int (2 : Int32)), (.ref ar34), (.ref ar34)])) rfl rfl (hb hby at_49)
  have N4 := Fr.snoc X4 N3 ge_ar34
  have Z4 : n0 ≤ h4.size := by rw [W4.size]; exact Z3
  have f_3 : Arl Z h4 ar34 .long [(.long p3), (.long p4), (.long p5)] := A4
  refine Goes.go (st4) ?_
  show Goes _ _ _ _ _ _ _ (T4.setTop (mkF m 50 _ [(.ref ar34)]))
  refine Goes.go (fun _ k => XS.astore X4.here hx rfl (hb hby at_50) rfl rfl (l' := #[.val (.int p0), .val (.int p1), .val (.int p2), .val (.long p3), .second, .val (.long p4), .second, .val (.long p5), .second, .val (.int v6), .val (.long v15), .second, .val (.long v25), .second, .val (.int v31), .val (.ref ar34), .unset, .unset, .unset, .unset, .unset, .unset, .unset, .unset, .unset]) rfl k) ?_
  show Goes _ _ _ _ _ _ _ (T4.setTop (mkF m 52 #[.val (.int p0), .val (.int p1), .val (.int p2), .val (.long p3), .second, .val (.long p4), .second, .val (.long p5), .second, .val (.int v6), .val (.long v15), .second, .val (.long v25), .second, .val (.int v31), .val (.ref ar34), .unset, .unset, .unset, .unset, .unset, .unset, .unset, .unset, .unset] []))
  obtain ⟨T5, h5, X5, e5, E5, A5, D5, -, st5⟩ := newO X4 hx hZ hown (hw _ (List.mem_of_getElem? (i := 3) rfl)) (hw _ (List.mem_of_getElem? (i := 4) rfl)) (hw _ (List.mem_of_getElem? (i := 5) rfl)) e4 (g := (mkF m 52 #[.val (.int p0), .val (.int p1), .val (.int p2), .val (.long p3), .second, .val (.long p4), .second, .val (.long p5), .second, .val (.int v6), .val (.long v15), .second, .val (.long v25), .second, .val (.int v31), .val (.ref ar34), .unset, .unset, .unset, .unset, .unset, .unset, .unset, .unset, .unset] [])) rfl (hb hby at_52) (by decide) (by decide)
  obtain ⟨ob52, gob52⟩ : ∃ z, z = h4.size := ⟨_, rfl⟩
  rw [← gob52] at A5 D5 st5
  have ne_ar34_ob52 : ar34 ≠ ob52 := by rw [gob52]; exact Nat.ne_of_lt f_3.lt
  have f_4 := f_3.ext E5
  have Z5 : n0 ≤ h5.size := Nat.le_trans Z4 E5.1
  have ge_ob52 : n0 ≤ ob52 := Nat.le_trans Z4 (Nat.le_of_eq gob52.symm)
  have f_5 : Fld Z h5 ob52 "com/example/galdict/galdict/model/PackedArray" "length" "J" (.long (0 : Int64)) := D5 (Or.inr (hw _ (List.mem_of_getElem? (i := 13) rfl))) (ty := .long) (by decide)
  have f_6 : Fld Z h5 ob52 "com/example/galdict/galdict/model/PackedArray" "width" "I" (.int (0 : Int32)) := D5 (Or.inr (hw _ (List.mem_of_getElem? (i := 15) rfl))) (ty := .int) (by decide)
  have f_7 : Fld Z h5 ob52 "com/example/galdict/galdict/model/PackedArray" "mask" "J" (.long (0 : Int64)) := D5 (Or.inr (hw _ (List.mem_of_getElem? (i := 18) rfl))) (ty := .long) (by decide)
  have f_8 : Fld Z h5 ob52 "com/example/galdict/galdict/model/PackedArray" "words" "[J" .null := D5 (Or.inr (hw _ (List.mem_of_getElem? (i := 20) rfl))) (ty := (.array .long)) (by decide)
  refine Goes.go (st5) ?_
  show Goes _ _ _ _ _ _ _ (T5.setTop (mkF m 55 _ [(.ref ob52)]))
  refine Goes.go (fun _ k => XS.dup X5.here hx rfl (hb hby at_55) rfl rfl k) ?_
  show Goes _ _ _ _ _ _ _ (T5.setTop (mkF m 56 _ [(.ref ob52), (.ref ob52)]))
  refine Goes.go (fun _ k => XS.lload X5.here hx rfl (hb hby at_56) rfl k) ?_
  show Goes _ _ _ _ _ _ _ (T5.setTop (mkF m 58 _ [(.long v15), (.ref ob52), (.ref ob52)]))
  refine Goes.go (fun _ k => XS.iload X5.here hx rfl (hb hby at_58) rfl k) ?_
  show Goes _ _ _ _ _ _ _ (T5.setTop (mkF m 60 _ [(.int v6), (.long v15), (.ref ob52), (.ref ob52)]))
  refine Goes.go (fun _ k => XS.aload X5.here hx rfl (hb hby at_60) rfl rfl k) ?_
  show Goes _ _ _ _ _ _ _ (T5.setTop (mkF m 62 _ [(.ref ar34), (.int v6), (.long v15), (.ref ob52), (.ref ob52)]))
  obtain ⟨_, _, ⟨T6, L6, k6, n6⟩, -, X6, ⟨Lc6, hQ6, l6, y6, z6⟩, st6⟩ := X5.specialBack hx (y := (⟨"com/example/galdict/galdict/model/PackedArray", "<init>", "(JI[J)V"⟩ : MethodName)) rfl hown (mvT hZ (hw _ (List.mem_of_getElem? (i := 6) rfl))) (mvT hZ (hw _ (List.mem_of_getElem? (i := 7) rfl))) (mvT hZ (hw _ (List.mem_of_getElem? (i := 8) rfl))) (by decide) (backOf (W := 1) (rm1 l Z a0 hw [] ob52 v15 v6 ar34 h5 n0 Z5 A5 f_5 f_6 f_7 f_8 ge_ob52) hZ (hw _ (List.mem_of_getElem? (i := 8) rfl)) (hw _ (List.mem_of_getElem? (i := 5) rfl)) (by decide) (by decide)) (g := (mkF m 62 #[.val (.int p0), .val (.int p1), .val (.int p2), .val (.long p3), .second, .val (.long p4), .second, .val (.long p5), .second, .val (.int v6), .val (.long v15), .second, .val (.long v25), .second, .val (.int v31), .val (.ref ar34), .unset, .unset, .unset, .unset, .unset, .unset, .unset, .unset, .unset] [(.ref ar34), (.int v6), (.long v15), (.ref ob52), (.ref ob52)])) rfl (by rw [hml]; rfl) (Steps.refl _) (a := ob52) (argsL := [(.long v15), (.int v6), (.ref ar34)]) (rest := [(.ref ob52)]) (lenOf pd0 rfl) rfl (by show 2 * 0 + _ ≤ _; exact Nat.le_of_eq rfl) (hb hby at_62) (fun _ _ => ⟨rfl, e5, (by decide : 2 + 0 ≤ _), (by decide : 7 + 0 ≤ _)⟩)
  dsimp only [Pt.U, Pt.locs, Pt.cells, Pt.slots] at X6 l6 y6 z6 st6 hQ6
  subst l6 y6 z6
  obtain ⟨rfl, Nq6, Kq6, Eq6, Fq6_0, Fq6_1, Fq6_2, Fq6_3⟩ := hQ6
  have N6 := Fr.app N4 Nq6
  have Z6 : n0 ≤ T6.heap.size := Nat.le_trans Z5 Kq6.1
  have f_9 := Arl.keep f_4 Kq6 (ninS ne_ar34_ob52 nin0)
  refine Goes.go (fun _ k => st6.trans k) ?_
  show Goes _ _ _ _ _ _ _ (T6.setTop (mkF m 65 _ [(.ref ob52)]))
  refine Goes.go (fun _ k => XS.astore X6.here hx rfl (hb hby at_65) rfl rfl (l' := #[.val (.int p0), .val (.int p1), .val (.int p2), .val (.long p3), .second, .val (.long p4), .second, .val (.long p5), .second, .val (.int v6), .val (.long v15), .second, .val (.long v25), .second, .val (.int v31), .val (.ref ar34), .val (.ref ob52), .unset, .unset, .unset, .unset, .unset, .unset, .unset, .unset]) rfl k) ?_
  show Goes _ _ _ _ _ _ _ (T6.setTop (mkF m 67 #[.val (.int p0), .val (.int p1), .val (.int p2), .val (.long p3), .second, .val (.long p4), .second, .val (.long p5), .second, .val (.int v6), .val (.long v15), .second, .val (.long v25), .second, .val (.int v31), .val (.ref ar34), .val (.ref ob52), .unset, .unset, .unset, .unset, .unset, .unset, .unset, .unset] []))
  refine Goes.go (fun _ k => XS.aload X6.here hx rfl (hb hby at_67) rfl rfl k) ?_
  show Goes _ _ _ _ _ _ _ (T6.setTop (mkF m 69 _ [(.ref ob52)]))
  refine Goes.go (fun _ k => XS.lload X6.here hx rfl (hb hby at_69) rfl k) ?_
  show Goes _ _ _ _ _ _ _ (T6.setTop (mkF m 71 _ [(.long v25), (.ref ob52)]))
  obtain ⟨cq7, kq7, qa7, qb7, qc7⟩ := isOf hZ rfl Eq6
  obtain ⟨_, _, ⟨T7, L7, k7, n7⟩, -, X7, ⟨Lc7, hQ7, l7, y7, z7⟩, st7⟩ := X6.virtualBack hx (y := (⟨"com/example/galdict/galdict/model/PackedArray", "get", "(J)J"⟩ : MethodName)) (z := (⟨"com/example/galdict/galdict/model/PackedArray", "get", "(J)J"⟩ : MethodName)) hown (mvT hZ (hw _ (List.mem_of_getElem? (i := 21) rfl))) (mvT hZ (hw _ (List.mem_of_getElem? (i := 22) rfl))) (notFace_of_selects (args := #[]) (mvT hZ (hw _ (List.mem_of_getElem? (i := 24) rfl)))) (mvT hZ (hw _ (List.mem_of_getElem? (i := 24) rfl))) (mvT hZ (hw _ (List.mem_of_getElem? (i := 23) rfl))) (by decide) (backOf (W := 0) (rm2 l Z a0 hw [] ob52 v25 v6 (((-1 : Int64)).toUInt64 >>> (((64 : Int32) - v6) &&& 0x3f).toInt64.toUInt64).toInt64 ar34 _ (wAt p3 p4 p5 (i * w' / 64)) (wAt p3 p4 p5 (i * w' / 64 + 1)) T6.heap n0 Z6 Fq6_1 Fq6_2 Fq6_3 f_9 (own_q1 hm (by omega)) (own_q2 (f := Value.long) hm (by omega)) (own_q3 (f := Value.long) hm hw1 hw2 hw3 hm2)) hZ (hw _ (List.mem_of_getElem? (i := 25) rfl)) (hw _ (List.mem_of_getElem? (i := 5) rfl)) (by decide) (by decide)) qa7 qc7 (g := (mkF m 71 #[.val (.int p0), .val (.int p1), .val (.int p2), .val (.long p3), .second, .val (.long p4), .second, .val (.long p5), .second, .val (.int v6), .val (.long v15), .second, .val (.long v25), .second, .val (.int v31), .val (.ref ar34), .val (.ref ob52), .unset, .unset, .unset, .unset, .unset, .unset, .unset, .unset] [(.long v25), (.ref ob52)])) rfl (by rw [hml]; rfl) (Steps.refl _) (argsL := [(.long v25)]) (rest := []) (lenOf pd2 rfl) rfl (by show 2 * 0 + _ ≤ _; exact Nat.le_of_eq rfl) (hb hby at_71) (fun _ _ => ⟨rfl, rfl, (by decide : 2 + 0 ≤ _), (by decide : 7 + 0 ≤ _)⟩)
  dsimp only [Pt.U, Pt.locs, Pt.cells, Pt.slots] at X7 l7 y7 z7 st7 hQ7
  subst l7 y7 z7
  obtain ⟨rfl, Nq7, hh7⟩ := hQ7
  have N7 := Fr.app N6 Nq7
  refine Goes.go (fun _ k => st7.trans k) ?_
  show Goes _ _ _ _ _ _ _ (T7.setTop (mkF m 74 _ [(.long (gF (wAt p3 p4 p5 (i * w' / 64)) (wAt p3 p4 p5 (i * w' / 64 + 1)) (((-1 : Int64)).toUInt64 >>> (((64 : Int32) - v6) &&& 0x3f).toInt64.toUInt64).toInt64 (gO v25 v6) v6))]))
  generalize hv74 : (gF (wAt p3 p4 p5 (i * w' / 64)) (wAt p3 p4 p5 (i * w' / 64 + 1)) (((-1 : Int64)).toUInt64 >>> (((64 : Int32) - v6) &&& 0x3f).toInt64.toUInt64).toInt64 (gO v25 v6) v6) = v74
  refine Goes.go (fun _ k => XS.lstore X7.here hx rfl (hb hby at_74) rfl (l' := #[.val (.int p0), .val (.int p1), .val (.int p2), .val (.long p3), .second, .val (.long p4), .second, .val (.long p5), .second, .val (.int v6), .val (.long v15), .second, .val (.long v25), .second, .val (.int v31), .val (.ref ar34), .val (.ref ob52), .val (.long v74), .second, .unset, .unset, .unset, .unset, .unset, .unset]) rfl k) ?_
  show Goes _ _ _ _ _ _ _ (T7.setTop (mkF m 76 #[.val (.int p0), .val (.int p1), .val (.int p2), .val (.long p3), .second, .val (.long p4), .second, .val (.long p5), .second, .val (.int v6), .val (.long v15), .second, .val (.long v25), .second, .val (.int v31), .val (.ref ar34), .val (.ref ob52), .val (.long v74), .second, .unset, .unset, .unset, .unset, .unset, .unset] []))
  refine Goes.go (fun _ k => XS.lload X7.here hx rfl (hb hby at_76) rfl k) ?_
  show Goes _ _ _ _ _ _ _ (T7.setTop (mkF m 78 _ [(.long v74)]))
  refine Goes.go (fun _ k => XS.iload X7.here hx rfl (hb hby at_78) rfl k) ?_
  show Goes _ _ _ _ _ _ _ (T7.setTop (mkF m 80 _ [(.int v31), (.long v74)]))
  refine Goes.go (fun _ k => XS.lushr X7.here hx rfl (hb hby at_80) rfl k) ?_
  show Goes _ _ _ _ _ _ _ (T7.setTop (mkF m 81 _ [(.long ((v74).toUInt64 >>> (v31 &&& 0x3f).toInt64.toUInt64).toInt64)]))
  refine Goes.go (fun _ k => XS.lconst X7.here hx rfl (hb hby at_81) k) ?_
  show Goes _ _ _ _ _ _ _ (T7.setTop (mkF m 82 _ [(.long (1 : Int64)), (.long ((v74).toUInt64 >>> (v31 &&& 0x3f).toInt64.toUInt64).toInt64)]))
  refine Goes.go (fun _ k => XS.land X7.here hx rfl (hb hby at_82) rfl k) ?_
  show Goes _ _ _ _ _ _ _ (T7.setTop (mkF m 83 _ [(.long (((v74).toUInt64 >>> (v31 &&& 0x3f).toInt64.toUInt64).toInt64 &&& (1 : Int64)))]))
  generalize hv83 : (((v74).toUInt64 >>> (v31 &&& 0x3f).toInt64.toUInt64).toInt64 &&& (1 : Int64)) = v83
  refine Goes.go (fun _ k => XS.lstore X7.here hx rfl (hb hby at_83) rfl (l' := #[.val (.int p0), .val (.int p1), .val (.int p2), .val (.long p3), .second, .val (.long p4), .second, .val (.long p5), .second, .val (.int v6), .val (.long v15), .second, .val (.long v25), .second, .val (.int v31), .val (.ref ar34), .val (.ref ob52), .val (.long v74), .second, .val (.long v83), .second, .unset, .unset, .unset, .unset]) rfl k) ?_
  show Goes _ _ _ _ _ _ _ (T7.setTop (mkF m 85 #[.val (.int p0), .val (.int p1), .val (.int p2), .val (.long p3), .second, .val (.long p4), .second, .val (.long p5), .second, .val (.int v6), .val (.long v15), .second, .val (.long v25), .second, .val (.int v31), .val (.ref ar34), .val (.ref ob52), .val (.long v74), .second, .val (.long v83), .second, .unset, .unset, .unset, .unset] []))
  refine Goes.go (fun _ k => XS.iload X7.here hx rfl (hb hby at_85) rfl k) ?_
  show Goes _ _ _ _ _ _ _ (T7.setTop (mkF m 87 _ [(.int v31)]))
  refine Goes.go (fun _ k => XS.iload X7.here hx rfl (hb hby at_87) rfl k) ?_
  show Goes _ _ _ _ _ _ _ (T7.setTop (mkF m 89 _ [(.int v6), (.int v31)]))
  by_cases c89 : v31 < v6
  · skip
    refine Goes.go (fun _ k => XS.icmpYes X7.here hx rfl (pc0 := 89) (pc' := 98) rfl (hb hby at_89) rfl (XT.ii_lt_t c89) (by decide) (by decide) k) ?_
    show Goes _ _ _ _ _ _ _ (T7.setTop (mkF m 98 _ []))
    refine Goes.go (fun _ k => XS.lload X7.here hx rfl (hb hby at_98) rfl k) ?_
    show Goes _ _ _ _ _ _ _ (T7.setTop (mkF m 100 _ [(.long v25)]))
    refine Goes.go (fun _ k => XS.iload X7.here hx rfl (hb hby at_100) rfl k) ?_
    show Goes _ _ _ _ _ _ _ (T7.setTop (mkF m 102 _ [(.int v6), (.long v25)]))
    refine Goes.go (fun _ k => XS.i2l X7.here hx rfl (hb hby at_102) rfl k) ?_
    show Goes _ _ _ _ _ _ _ (T7.setTop (mkF m 103 _ [(.long (v6).toInt64), (.long v25)]))
    refine Goes.go (fun _ k => XS.lmul X7.here hx rfl (hb hby at_103) rfl k) ?_
    show Goes _ _ _ _ _ _ _ (T7.setTop (mkF m 104 _ [(.long (v25 * (v6).toInt64))]))
    refine Goes.go (fun _ k => XS.iload X7.here hx rfl (hb hby at_104) rfl k) ?_
    show Goes _ _ _ _ _ _ _ (T7.setTop (mkF m 106 _ [(.int v31), (.long (v25 * (v6).toInt64))]))
    refine Goes.go (fun _ k => XS.i2l X7.here hx rfl (hb hby at_106) rfl k) ?_
    show Goes _ _ _ _ _ _ _ (T7.setTop (mkF m 107 _ [(.long (v31).toInt64), (.long (v25 * (v6).toInt64))]))
    refine Goes.go (fun _ k => XS.ladd X7.here hx rfl (hb hby at_107) rfl k) ?_
    show Goes _ _ _ _ _ _ _ (T7.setTop (mkF m 108 _ [(.long ((v25 * (v6).toInt64) + (v31).toInt64))]))
    generalize hv108 : ((v25 * (v6).toInt64) + (v31).toInt64) = v108
    refine Goes.go (fun _ k => XS.lstore X7.here hx rfl (hb hby at_108) rfl (l' := #[.val (.int p0), .val (.int p1), .val (.int p2), .val (.long p3), .second, .val (.long p4), .second, .val (.long p5), .second, .val (.int v6), .val (.long v15), .second, .val (.long v25), .second, .val (.int v31), .val (.ref ar34), .val (.ref ob52), .val (.long v74), .second, .val (.long v83), .second, .unset, .unset, .val (.long v108), .second]) rfl k) ?_
    show Goes _ _ _ _ _ _ _ (T7.setTop (mkF m 110 #[.val (.int p0), .val (.int p1), .val (.int p2), .val (.long p3), .second, .val (.long p4), .second, .val (.long p5), .second, .val (.int v6), .val (.long v15), .second, .val (.long v25), .second, .val (.int v31), .val (.ref ar34), .val (.ref ob52), .val (.long v74), .second, .val (.long v83), .second, .unset, .unset, .val (.long v108), .second] []))
    refine Goes.go (fun _ k => XS.lloadN X7.here hx rfl (hb hby at_110) rfl k) ?_
    show Goes _ _ _ _ _ _ _ (T7.setTop (mkF m 111 _ [(.long p3)]))
    refine Goes.go (fun _ k => XS.lload X7.here hx rfl (hb hby at_111) rfl k) ?_
    show Goes _ _ _ _ _ _ _ (T7.setTop (mkF m 113 _ [(.long p4), (.long p3)]))
    refine Goes.go (fun _ k => XS.lload X7.here hx rfl (hb hby at_113) rfl k) ?_
    show Goes _ _ _ _ _ _ _ (T7.setTop (mkF m 115 _ [(.long p5), (.long p4), (.long p3)]))
    refine Goes.go (fun _ k => XS.lload X7.here hx rfl (hb hby at_115) rfl k) ?_
    show Goes _ _ _ _ _ _ _ (T7.setTop (mkF m 117 _ [(.long v108), (.long p5), (.long p4), (.long p3)]))
    obtain ⟨_, _, ⟨T8, L8, k8, n8⟩, -, X8, ⟨Lc8, hQ8, l8, y8, z8⟩, st8⟩ := Jvm.LawKit.callS X7 hx (y := (⟨"com/example/galdict/galdict/model/PackedArrayGetPinLaw", "bitOf", "(JJJJ)J"⟩ : MethodName)) hown (mvT hZ (hw _ (List.mem_of_getElem? (i := 26) rfl))) (mvT hZ (hw _ (List.mem_of_getElem? (i := 27) rfl))) (mvT hZ (hw _ (List.mem_of_getElem? (i := 28) rfl))) (mvT hZ (hw _ (List.mem_of_getElem? (i := 29) rfl))) (by decide) (backOf (W := 0) (rm3 l Z a0 hw [] p3 p4 p5 v108 T6.heap n0 Z6) hZ (hw _ (List.mem_of_getElem? (i := 29) rfl)) (hw _ (List.mem_of_getElem? (i := 28) rfl)) (by decide) (by decide)) (g := (mkF m 117 #[.val (.int p0), .val (.int p1), .val (.int p2), .val (.long p3), .second, .val (.long p4), .second, .val (.long p5), .second, .val (.int v6), .val (.long v15), .second, .val (.long v25), .second, .val (.int v31), .val (.ref ar34), .val (.ref ob52), .val (.long v74), .second, .val (.long v83), .second, .unset, .unset, .val (.long v108), .second] [(.long v108), (.long p5), (.long p4), (.long p3)])) rfl (by rw [hml]; rfl) (argsL := [(.long p3), (.long p4), (.long p5), (.long v108)]) (rest := []) (lenOf pd3 rfl) rfl (by show 2 * 0 + _ ≤ _; exact Nat.le_of_eq rfl) (hb hby at_117) (fun _ _ => ⟨rfl, hh7, (by decide : 2 + 0 ≤ _), (by decide : 7 + 0 ≤ _)⟩)
    dsimp only [Pt.U, Pt.locs, Pt.cells, Pt.slots] at X8 l8 y8 z8 st8 hQ8
    subst l8 y8 z8
    obtain ⟨rfl, Nq8, hh8⟩ := hQ8
    have N8 := Fr.app N7 Nq8
    refine Goes.go (st8) ?_
    show Goes _ _ _ _ _ _ _ (T8.setTop (mkF m 120 _ [(.long (boF p3 p4 p5 v108))]))
    generalize hv120 : (boF p3 p4 p5 v108) = v120
    refine Goes.go (fun _ k => XS.lstore X8.here hx rfl (hb hby at_120) rfl (l' := #[.val (.int p0), .val (.int p1), .val (.int p2), .val (.long p3), .second, .val (.long p4), .second, .val (.long p5), .second, .val (.int v6), .val (.long v15), .second, .val (.long v25), .second, .val (.int v31), .val (.ref ar34), .val (.ref ob52), .val (.long v74), .second, .val (.long v83), .second, .val (.long v120), .second, .val (.long v108), .second]) rfl k) ?_
    show Goes _ _ _ _ _ _ _ (T8.setTop (mkF m 122 #[.val (.int p0), .val (.int p1), .val (.int p2), .val (.long p3), .second, .val (.long p4), .second, .val (.long p5), .second, .val (.int v6), .val (.long v15), .second, .val (.long v25), .second, .val (.int v31), .val (.ref ar34), .val (.ref ob52), .val (.long v74), .second, .val (.long v83), .second, .val (.long v120), .second, .val (.long v108), .second] []))
    refine Goes.go (fun _ k => XS.aload X8.here hx rfl (hb hby at_122) rfl rfl k) ?_
    show Goes _ _ _ _ _ _ _ (T8.setTop (mkF m 124 _ [(.ref ar34)]))
    refine Goes.go (fun _ k => XS.iconst X8.here hx rfl (hb hby at_124) k) ?_
    show Goes _ _ _ _ _ _ _ (T8.setTop (mkF m 125 _ [(.int (0 : Int32)), (.ref ar34)]))
    refine Goes.go (own_ldJ X8 hx hZ hh8 f_9 (j := (0 : Int32)) (v := (.long p3)) (by decide) rfl rfl rfl (hb hby at_125)) ?_
    show Goes _ _ _ _ _ _ _ (T8.setTop (mkF m 126 _ [(.long p3)]))
    refine Goes.go (fun _ k => XS.lloadN X8.here hx rfl (hb hby at_126) rfl k) ?_
    show Goes _ _ _ _ _ _ _ (T8.setTop (mkF m 127 _ [(.long p3), (.long p3)]))
    refine Goes.go (fun _ k => XT.lcmp X8.here hx rfl (hb hby at_127) rfl k) ?_
    show Goes _ _ _ _ _ _ _ (T8.setTop (mkF m 128 _ [(.int (XT.cmpL p3 p3))]))
    refine Goes.go (fun _ k => XS.ifNo X8.here hx rfl (hb hby at_128) rfl (XT.ll_ne_f rfl) k) ?_
    show Goes _ _ _ _ _ _ _ (T8.setTop (mkF m 131 _ []))
    refine Goes.go (fun _ k => XS.aload X8.here hx rfl (hb hby at_131) rfl rfl k) ?_
    show Goes _ _ _ _ _ _ _ (T8.setTop (mkF m 133 _ [(.ref ar34)]))
    refine Goes.go (fun _ k => XS.iconst X8.here hx rfl (hb hby at_133) k) ?_
    show Goes _ _ _ _ _ _ _ (T8.setTop (mkF m 134 _ [(.int (1 : Int32)), (.ref ar34)]))
    refine Goes.go (own_ldJ X8 hx hZ hh8 f_9 (j := (1 : Int32)) (v := (.long p4)) (by decide) rfl rfl rfl (hb hby at_134)) ?_
    show Goes _ _ _ _ _ _ _ (T8.setTop (mkF m 135 _ [(.long p4)]))
    refine Goes.go (fun _ k => XS.lload X8.here hx rfl (hb hby at_135) rfl k) ?_
    show Goes _ _ _ _ _ _ _ (T8.setTop (mkF m 137 _ [(.long p4), (.long p4)]))
    refine Goes.go (fun _ k => XT.lcmp X8.here hx rfl (hb hby at_137) rfl k) ?_
    show Goes _ _ _ _ _ _ _ (T8.setTop (mkF m 138 _ [(.int (XT.cmpL p4 p4))]))
    refine Goes.go (fun _ k => XS.ifNo X8.here hx rfl (hb hby at_138) rfl (XT.ll_ne_f rfl) k) ?_
    show Goes _ _ _ _ _ _ _ (T8.setTop (mkF m 141 _ []))
    refine Goes.go (fun _ k => XS.aload X8.here hx rfl (hb hby at_141) rfl rfl k) ?_
    show Goes _ _ _ _ _ _ _ (T8.setTop (mkF m 143 _ [(.ref ar34)]))
    refine Goes.go (fun _ k => XS.iconst X8.here hx rfl (hb hby at_143) k) ?_
    show Goes _ _ _ _ _ _ _ (T8.setTop (mkF m 144 _ [(.int (2 : Int32)), (.ref ar34)]))
    refine Goes.go (own_ldJ X8 hx hZ hh8 f_9 (j := (2 : Int32)) (v := (.long p5)) (by decide) rfl rfl rfl (hb hby at_144)) ?_
    show Goes _ _ _ _ _ _ _ (T8.setTop (mkF m 145 _ [(.long p5)]))
    refine Goes.go (fun _ k => XS.lload X8.here hx rfl (hb hby at_145) rfl k) ?_
    show Goes _ _ _ _ _ _ _ (T8.setTop (mkF m 147 _ [(.long p5), (.long p5)]))
    refine Goes.go (fun _ k => XT.lcmp X8.here hx rfl (hb hby at_147) rfl k) ?_
    show Goes _ _ _ _ _ _ _ (T8.setTop (mkF m 148 _ [(.int (XT.cmpL p5 p5))]))
    refine Goes.go (fun _ k => XS.ifNo X8.here hx rfl (hb hby at_148) rfl (XT.ll_ne_f rfl) k) ?_
    show Goes _ _ _ _ _ _ _ (T8.setTop (mkF m 151 _ []))
    refine Goes.go (fun _ k => XS.iconst X8.here hx rfl (hb hby at_151) k) ?_
    show Goes _ _ _ _ _ _ _ (T8.setTop (mkF m 152 _ [(.int (1 : Int32))]))
    refine Goes.go (fun _ k => XS.goto X8.here hx rfl (pc0 := 152) (pc' := 156) rfl (hb hby at_152) (by decide) (by decide) k) ?_
    show Goes _ _ _ _ _ _ _ (T8.setTop (mkF m 156 _ [(.int (1 : Int32))]))
    refine Goes.go (fun _ k => XS.istore X8.here hx rfl (hb hby at_156) rfl (l' := #[.val (.int p0), .val (.int p1), .val (.int p2), .val (.long p3), .second, .val (.long p4), .second, .val (.long p5), .second, .val (.int v6), .val (.long v15), .second, .val (.long v25), .second, .val (.int v31), .val (.ref ar34), .val (.ref ob52), .val (.long v74), .second, .val (.long v83), .second, .val (.long v120), .second, .val (.int (1 : Int32)), .unset]) rfl k) ?_
    show Goes _ _ _ _ _ _ _ (T8.setTop (mkF m 158 #[.val (.int p0), .val (.int p1), .val (.int p2), .val (.long p3), .second, .val (.long p4), .second, .val (.long p5), .second, .val (.int v6), .val (.long v15), .second, .val (.long v25), .second, .val (.int v31), .val (.ref ar34), .val (.ref ob52), .val (.long v74), .second, .val (.long v83), .second, .val (.long v120), .second, .val (.int (1 : Int32)), .unset] []))
    refine Goes.go (fun _ k => XS.lload X8.here hx rfl (hb hby at_158) rfl k) ?_
    show Goes _ _ _ _ _ _ _ (T8.setTop (mkF m 160 _ [(.long v83)]))
    refine Goes.go (fun _ k => XS.lload X8.here hx rfl (hb hby at_160) rfl k) ?_
    show Goes _ _ _ _ _ _ _ (T8.setTop (mkF m 162 _ [(.long v120), (.long v83)]))
    refine Goes.go (fun _ k => XT.lcmp X8.here hx rfl (hb hby at_162) rfl k) ?_
    show Goes _ _ _ _ _ _ _ (T8.setTop (mkF m 163 _ [(.int (XT.cmpL v83 v120))]))
    refine Goes.go (fun _ k => XS.ifNo X8.here hx rfl (hb hby at_163) rfl (XT.ll_ne_f (by rw [← hv83, ← hv74, ← hv120, ← hv108]; exact own_lo hm hw1 hw2 hw3 hm2 hk1 hk2 c89)) k) ?_
    show Goes _ _ _ _ _ _ _ (T8.setTop (mkF m 166 _ []))
    refine Goes.go (fun _ k => XS.iload X8.here hx rfl (hb hby at_166) rfl k) ?_
    show Goes _ _ _ _ _ _ _ (T8.setTop (mkF m 168 _ [(.int (1 : Int32))]))
    refine Goes.go (fun _ k => XS.ifNo X8.here hx rfl (hb hby at_168) rfl (XT.i0_eq_f (by decide)) k) ?_
    show Goes _ _ _ _ _ _ _ (T8.setTop (mkF m 171 _ []))
    refine Goes.go (fun _ k => XS.iconst X8.here hx rfl (hb hby at_171) k) ?_
    show Goes _ _ _ _ _ _ _ (T8.setTop (mkF m 172 _ [(.int (1 : Int32))]))
    refine Goes.go (fun _ k => XS.goto X8.here hx rfl (pc0 := 172) (pc' := 176) rfl (hb hby at_172) (by decide) (by decide) k) ?_
    show Goes _ _ _ _ _ _ _ (T8.setTop (mkF m 176 _ [(.int (1 : Int32))]))
    exact Goes.outZ X8 hx hlk hret rfl (hb hby at_176) hh8 ⟨rfl, N8⟩ (by decide) (by decide)
  · skip
    refine Goes.go (fun _ k => XS.icmpNo X7.here hx rfl (hb hby at_89) rfl (XT.ii_lt_f c89) k) ?_
    show Goes _ _ _ _ _ _ _ (T7.setTop (mkF m 92 _ []))
    refine Goes.go (fun _ k => XS.lconst X7.here hx rfl (hb hby at_92) k) ?_
    show Goes _ _ _ _ _ _ _ (T7.setTop (mkF m 93 _ [(.long (0 : Int64))]))
    refine Goes.go (fun _ k => XS.lstore X7.here hx rfl (hb hby at_93) rfl (l' := #[.val (.int p0), .val (.int p1), .val (.int p2), .val (.long p3), .second, .val (.long p4), .second, .val (.long p5), .second, .val (.int v6), .val (.long v15), .second, .val (.long v25), .second, .val (.int v31), .val (.ref ar34), .val (.ref ob52), .val (.long v74), .second, .val (.long v83), .second, .val (.long (0 : Int64)), .second, .unset, .unset]) rfl k) ?_
    show Goes _ _ _ _ _ _ _ (T7.setTop (mkF m 95 #[.val (.int p0), .val (.int p1), .val (.int p2), .val (.long p3), .second, .val (.long p4), .second, .val (.long p5), .second, .val (.int v6), .val (.long v15), .second, .val (.long v25), .second, .val (.int v31), .val (.ref ar34), .val (.ref ob52), .val (.long v74), .second, .val (.long v83), .second, .val (.long (0 : Int64)), .second, .unset, .unset] []))
    refine Goes.go (fun _ k => XS.goto X7.here hx rfl (pc0 := 95) (pc' := 122) rfl (hb hby at_95) (by decide) (by decide) k) ?_
    show Goes _ _ _ _ _ _ _ (T7.setTop (mkF m 122 _ []))
    refine Goes.go (fun _ k => XS.aload X7.here hx rfl (hb hby at_122) rfl rfl k) ?_
    show Goes _ _ _ _ _ _ _ (T7.setTop (mkF m 124 _ [(.ref ar34)]))
    refine Goes.go (fun _ k => XS.iconst X7.here hx rfl (hb hby at_124) k) ?_
    show Goes _ _ _ _ _ _ _ (T7.setTop (mkF m 125 _ [(.int (0 : Int32)), (.ref ar34)]))
    refine Goes.go (own_ldJ X7 hx hZ hh7 f_9 (j := (0 : Int32)) (v := (.long p3)) (by decide) rfl rfl rfl (hb hby at_125)) ?_
    show Goes _ _ _ _ _ _ _ (T7.setTop (mkF m 126 _ [(.long p3)]))
    refine Goes.go (fun _ k => XS.lloadN X7.here hx rfl (hb hby at_126) rfl k) ?_
    show Goes _ _ _ _ _ _ _ (T7.setTop (mkF m 127 _ [(.long p3), (.long p3)]))
    refine Goes.go (fun _ k => XT.lcmp X7.here hx rfl (hb hby at_127) rfl k) ?_
    show Goes _ _ _ _ _ _ _ (T7.setTop (mkF m 128 _ [(.int (XT.cmpL p3 p3))]))
    refine Goes.go (fun _ k => XS.ifNo X7.here hx rfl (hb hby at_128) rfl (XT.ll_ne_f rfl) k) ?_
    show Goes _ _ _ _ _ _ _ (T7.setTop (mkF m 131 _ []))
    refine Goes.go (fun _ k => XS.aload X7.here hx rfl (hb hby at_131) rfl rfl k) ?_
    show Goes _ _ _ _ _ _ _ (T7.setTop (mkF m 133 _ [(.ref ar34)]))
    refine Goes.go (fun _ k => XS.iconst X7.here hx rfl (hb hby at_133) k) ?_
    show Goes _ _ _ _ _ _ _ (T7.setTop (mkF m 134 _ [(.int (1 : Int32)), (.ref ar34)]))
    refine Goes.go (own_ldJ X7 hx hZ hh7 f_9 (j := (1 : Int32)) (v := (.long p4)) (by decide) rfl rfl rfl (hb hby at_134)) ?_
    show Goes _ _ _ _ _ _ _ (T7.setTop (mkF m 135 _ [(.long p4)]))
    refine Goes.go (fun _ k => XS.lload X7.here hx rfl (hb hby at_135) rfl k) ?_
    show Goes _ _ _ _ _ _ _ (T7.setTop (mkF m 137 _ [(.long p4), (.long p4)]))
    refine Goes.go (fun _ k => XT.lcmp X7.here hx rfl (hb hby at_137) rfl k) ?_
    show Goes _ _ _ _ _ _ _ (T7.setTop (mkF m 138 _ [(.int (XT.cmpL p4 p4))]))
    refine Goes.go (fun _ k => XS.ifNo X7.here hx rfl (hb hby at_138) rfl (XT.ll_ne_f rfl) k) ?_
    show Goes _ _ _ _ _ _ _ (T7.setTop (mkF m 141 _ []))
    refine Goes.go (fun _ k => XS.aload X7.here hx rfl (hb hby at_141) rfl rfl k) ?_
    show Goes _ _ _ _ _ _ _ (T7.setTop (mkF m 143 _ [(.ref ar34)]))
    refine Goes.go (fun _ k => XS.iconst X7.here hx rfl (hb hby at_143) k) ?_
    show Goes _ _ _ _ _ _ _ (T7.setTop (mkF m 144 _ [(.int (2 : Int32)), (.ref ar34)]))
    refine Goes.go (own_ldJ X7 hx hZ hh7 f_9 (j := (2 : Int32)) (v := (.long p5)) (by decide) rfl rfl rfl (hb hby at_144)) ?_
    show Goes _ _ _ _ _ _ _ (T7.setTop (mkF m 145 _ [(.long p5)]))
    refine Goes.go (fun _ k => XS.lload X7.here hx rfl (hb hby at_145) rfl k) ?_
    show Goes _ _ _ _ _ _ _ (T7.setTop (mkF m 147 _ [(.long p5), (.long p5)]))
    refine Goes.go (fun _ k => XT.lcmp X7.here hx rfl (hb hby at_147) rfl k) ?_
    show Goes _ _ _ _ _ _ _ (T7.setTop (mkF m 148 _ [(.int (XT.cmpL p5 p5))]))
    refine Goes.go (fun _ k => XS.ifNo X7.here hx rfl (hb hby at_148) rfl (XT.ll_ne_f rfl) k) ?_
    show Goes _ _ _ _ _ _ _ (T7.setTop (mkF m 151 _ []))
    refine Goes.go (fun _ k => XS.iconst X7.here hx rfl (hb hby at_151) k) ?_
    show Goes _ _ _ _ _ _ _ (T7.setTop (mkF m 152 _ [(.int (1 : Int32))]))
    refine Goes.go (fun _ k => XS.goto X7.here hx rfl (pc0 := 152) (pc' := 156) rfl (hb hby at_152) (by decide) (by decide) k) ?_
    show Goes _ _ _ _ _ _ _ (T7.setTop (mkF m 156 _ [(.int (1 : Int32))]))
    refine Goes.go (fun _ k => XS.istore X7.here hx rfl (hb hby at_156) rfl (l' := #[.val (.int p0), .val (.int p1), .val (.int p2), .val (.long p3), .second, .val (.long p4), .second, .val (.long p5), .second, .val (.int v6), .val (.long v15), .second, .val (.long v25), .second, .val (.int v31), .val (.ref ar34), .val (.ref ob52), .val (.long v74), .second, .val (.long v83), .second, .val (.long (0 : Int64)), .second, .val (.int (1 : Int32)), .unset]) rfl k) ?_
    show Goes _ _ _ _ _ _ _ (T7.setTop (mkF m 158 #[.val (.int p0), .val (.int p1), .val (.int p2), .val (.long p3), .second, .val (.long p4), .second, .val (.long p5), .second, .val (.int v6), .val (.long v15), .second, .val (.long v25), .second, .val (.int v31), .val (.ref ar34), .val (.ref ob52), .val (.long v74), .second, .val (.long v83), .second, .val (.long (0 : Int64)), .second, .val (.int (1 : Int32)), .unset] []))
    refine Goes.go (fun _ k => XS.lload X7.here hx rfl (hb hby at_158) rfl k) ?_
    show Goes _ _ _ _ _ _ _ (T7.setTop (mkF m 160 _ [(.long v83)]))
    refine Goes.go (fun _ k => XS.lload X7.here hx rfl (hb hby at_160) rfl k) ?_
    show Goes _ _ _ _ _ _ _ (T7.setTop (mkF m 162 _ [(.long (0 : Int64)), (.long v83)]))
    refine Goes.go (fun _ k => XT.lcmp X7.here hx rfl (hb hby at_162) rfl k) ?_
    show Goes _ _ _ _ _ _ _ (T7.setTop (mkF m 163 _ [(.int (XT.cmpL v83 (0 : Int64)))]))
    refine Goes.go (fun _ k => XS.ifNo X7.here hx rfl (hb hby at_163) rfl (XT.ll_ne_f (by rw [← hv83, ← hv74]; exact own_hi (own_O hm (by omega)) (by omega) hw1 hw2 hw3 hk1 hk2 c89)) k) ?_
    show Goes _ _ _ _ _ _ _ (T7.setTop (mkF m 166 _ []))
    refine Goes.go (fun _ k => XS.iload X7.here hx rfl (hb hby at_166) rfl k) ?_
    show Goes _ _ _ _ _ _ _ (T7.setTop (mkF m 168 _ [(.int (1 : Int32))]))
    refine Goes.go (fun _ k => XS.ifNo X7.here hx rfl (hb hby at_168) rfl (XT.i0_eq_f (by decide)) k) ?_
    show Goes _ _ _ _ _ _ _ (T7.setTop (mkF m 171 _ []))
    refine Goes.go (fun _ k => XS.iconst X7.here hx rfl (hb hby at_171) k) ?_
    show Goes _ _ _ _ _ _ _ (T7.setTop (mkF m 172 _ [(.int (1 : Int32))]))
    refine Goes.go (fun _ k => XS.goto X7.here hx rfl (pc0 := 172) (pc' := 176) rfl (hb hby at_172) (by decide) (by decide) k) ?_
    show Goes _ _ _ _ _ _ _ (T7.setTop (mkF m 176 _ [(.int (1 : Int32))]))
    exact Goes.outZ X7 hx hlk hret rfl (hb hby at_176) hh7 ⟨rfl, N7⟩ (by decide) (by decide)
set_option maxRecDepth 65536 in
set_option maxHeartbeats 40000000 in
theorem comes_1 {Post : Tables → Env → Array Value → State → Outcome → State → Prop} (hpost : ∀ tb e args s v u, (limb_1_1.after args s (.returned v) u = true ∧ limb_1_2.after args s (.returned v) u = true ∧ True) → FrameEnd s (.returned v) u (Jvm.fieldLocs frame_1_writes args s ++ Jvm.arrayLocs frame_1_arrays args s ++ Jvm.staticLocs frame_1_statics s) 16 128 → Post tb e args s (.returned v) u) :
    ArmFor flags0 classFile x code maxLocals ret World_1 tables_1 room_1 Calls_1 rest_1 Pre_1 Post := by
  intro l hfl _ _ p e ha hc hk s m args below hf hA hF happ hP
  obtain ⟨hcalls, hrest, hpre⟩ := hP
  obtain ⟨-, -, -, hnamed, -, -, -, hat⟩ := (Spec.applies_iff hf).mp happ
  obtain ⟨hg, hn⟩ := and_e (Cond.before_iff.mp (show (Jvm.Cond.and given_1 narrow_1).before args s = true from hpre))
  obtain ⟨gc, gr0⟩ := and_e hg
  obtain ⟨g0, gr1⟩ := and_e gr0
  obtain ⟨g1, gr2⟩ := and_e gr1
  obtain ⟨g2, gr3⟩ := and_e gr2
  obtain ⟨g3, gr4⟩ := and_e gr3
  obtain ⟨g4, gr5⟩ := and_e gr4
  obtain ⟨w0, w1, w2, w3, w4, w5, rfl⟩ : ∃ w0 w1 w2 w3 w4 w5 : Value, args = #[w0, w1, w2, w3, w4, w5] := by
    have hs : args.size = 6 := by simpa [Cond.value, given_1] using gc
    obtain ⟨L⟩ := args
    match L, hs with
    | [w0, w1, w2, w3, w4, w5], _ => exact ⟨w0, w1, w2, w3, w4, w5, rfl⟩
  have hw := fun d (hd : d ∈ tables_1) => atoms_spec (ws := Jvm.Cond.code x code maxLocals ret :: tables_1) hat d (List.mem_cons_of_mem _ hd)
  obtain ⟨i0, ei0⟩ := is_v g0
  obtain rfl : w0 = (.int i0) := Option.some.inj ei0
  obtain ⟨i1, ei1⟩ := is_v g1
  obtain rfl : w1 = (.int i1) := Option.some.inj ei1
  obtain ⟨i2, ei2⟩ := is_v g2
  obtain rfl : w2 = (.int i2) := Option.some.inj ei2
  obtain ⟨i3, ei3⟩ := isL_v g3
  obtain rfl : w3 = (.long i3) := Option.some.inj ei3
  obtain ⟨i4, ei4⟩ := isL_v g4
  obtain rfl : w4 = (.long i4) := Option.some.inj ei4
  obtain ⟨i5, ei5⟩ := isL_v gr5
  obtain rfl : w5 = (.long i5) := Option.some.inj ei5
  obtain ⟨n, o, h1, h2, h3, _, L, rfl, ⟨rfl, N⟩, hq⟩ := rm0 l s _ hw tables_1 i0 i1 i2 i3 i4 i5 s.heap s.heap.size (Nat.le_refl _)  p e ha hc hk s m _ below hf ((Spec.applies_iff_loose hf).mp happ).1 ⟨rfl, State.Warmed39.refl s, rfl⟩ trivial
  refine ⟨n, _, h1, h2, h3, hpost _ _ _ _ _ _ ⟨Cond.after_iff.mpr rfl, Cond.after_iff.mpr (eq_i res_at (Term.int_eval (1)) rfl), trivial⟩ ⟨hq.1, hq.2.1, (hq.2.2.sift fun y hy => Or.inr (N y hy)).mono (by decide) (by decide)⟩⟩
theorem main_1_1 : Claimed_1_1 := comes_1 fun _ _ _ _ _ _ h hF => ⟨h.1, hF⟩
theorem main_1_2 : Claimed_1_2 := comes_1 fun _ _ _ _ _ _ h hF => ⟨h.2.1, hF⟩
end Jvm.Pilot.@@N@@
namespace Jvm.Pilot.@@N@@
open Jvm Jvm.ClassFile Sem Op Lib Jvm.Free Jvm.Stand Jvm.Pilot.@@N@@.Jvm.D
/-! MADE BY PROGRAM (witnessworld.py) out of the Statement's table words and the real class files: 11 classes; the members and pool entries that the words name. The judged class is class 1, her method 2. -/
namespace start1
open Jvm.ClassFile
def u (s : String) : CpInfo := .utf8 (stringToUtf16 s)
/-- a pool by its gaps: so many unusable entries, then the entry; so many at the end -/
def gap : Nat → List CpInfo → List CpInfo
  | 0, r => r
  | n + 1, r => .unusable :: gap n r
def poolList (es : List (Nat × CpInfo)) (last : Nat) : List CpInfo := es.foldr (fun e r => gap e.1 (e.2 :: r)) (gap last [])
def pool (es : List (Nat × CpInfo)) (last : Nat) : Array CpInfo := ⟨poolList es last⟩
def fileOf (pool : Array CpInfo) (this : Nat) (attrs : Array Attribute := #[]) (ms : Array MethodInfo := #[]) (fl : Nat := 33) (sup : Nat := 0) (ifs : Array Nat := #[]) (fds : Array FieldInfo := #[]) : ClassFile where
  minorVersion := 0
  majorVersion := 65
  constantPool := pool
  accessFlags := fl
  thisClass := this
  superClass := sup
  interfaces := ifs
  fields := fds
  methods := ms
  attributes := attrs
def plain (name : String) (sup : Option ClassId) : Class where
  name := name
  kind := .ordinary
  loader := none
  accessFlags := 33
  super := sup
  interfaces := #[]
  cf := none
  fields := #[]
  methods := #[]
  instanceTypes := #[]
  staticTypes := #[]
  resolved := #[]
  callSites := []
  init := .initialized
  statics := none
  mirror := none

def pool0 : Array CpInfo := pool [(5, u "<init>"), (0, u "()V"), (1, .class_ 10), (1, u "java/lang/Object")] 113

def k0c0 : Code := { maxStack := 0, maxLocals := 1, code := object_method_1_code, exceptionTable := #[], attributes := #[] }
def k0m0 : Method := { name := "<init>", desc := "()V", sig := { parameters := [], returnType := none }, accessFlags := 1, code := some k0c0 }
/-- java/lang/Object -/
def k0 : Class := { plain "java/lang/Object" none with
  accessFlags := 33
  interfaces := #[]
  cf := some (fileOf pool0 8 #[] #[{ accessFlags := 1, nameIndex := 5, descriptorIndex := 6, attributes := #[] }] 33 0 #[] #[])
  fields := #[]
  methods := #[k0m0]
  instanceTypes := #[]
  staticTypes := #[]
  resolved := Array.replicate 124 none
  statics := none }

def pool1 : Array CpInfo := pool [(2, .class_ 4), (1, u "java/lang/Object"), (0, u "<init>"), (0, u "()V"), (0, .long 64), (1, .long 128), (1, .long 192), (1, .integer 2147483647), (0, .class_ 15), (0, u "com/example/galdict/galdict/model/PackedArray"), (0, .methodref 14 17), (0, .nameAndType 5 18), (0, u "(JI[J)V"), (0, .methodref 14 20), (0, .nameAndType 21 22), (0, u "get"), (0, u "(J)J"), (0, .methodref 24 25), (0, .class_ 26), (0, .nameAndType 27 28), (0, u "com/example/galdict/galdict/model/PackedArrayGetPinLaw"), (0, u "bitOf"), (0, u "(JJJJ)J"), (3, u "law"), (0, u "(IIIJJJ)Z")] 4

def k1m0 : Method := { name := "<init>", desc := "()V", sig := { parameters := [], returnType := none }, accessFlags := 1, code := none }
def k1c1 : Code := { maxStack := 6, maxLocals := 8, code := method_2_code, exceptionTable := #[], attributes := #[] }
def k1m1 : Method := { name := "bitOf", desc := "(JJJJ)J", sig := { parameters := [.long, .long, .long, .long], returnType := some .long }, accessFlags := 10, code := some k1c1 }
def k1c2 : Code := { maxStack := 8, maxLocals := 25, code := code, exceptionTable := #[], attributes := #[] }
def k1m2 : Method := { name := "law", desc := "(IIIJJJ)Z", sig := { parameters := [.int, .int, .int, .long, .long, .long], returnType := some .boolean }, accessFlags := 9, code := some k1c2 }
/-- com/example/galdict/galdict/model/PackedArrayGetPinLaw -/
def k1 : Class := { plain "com/example/galdict/galdict/model/PackedArrayGetPinLaw" (some 0) with
  accessFlags := 49
  interfaces := #[]
  cf := some (fileOf pool1 24 #[] #[{ accessFlags := 1, nameIndex := 5, descriptorIndex := 6, attributes := #[] }, { accessFlags := 10, nameIndex := 27, descriptorIndex := 28, attributes := #[] }, { accessFlags := 9, nameIndex := 32, descriptorIndex := 33, attributes := #[] }] 49 2 #[] #[])
  fields := #[]
  methods := #[k1m0, k1m1, k1m2]
  instanceTypes := #[]
  staticTypes := #[]
  resolved := Array.replicate 38 none
  statics := none }

def pool2 : Array CpInfo := pool [(2, .class_ 4), (1, u "com/example/galdict/galdict/model/PackedArray"), (4, u "<init>"), (0, u "(JI[J)V"), (0, .methodref 12 13), (0, .class_ 14), (0, .nameAndType 9 15), (0, u "java/lang/Object"), (0, u "()V"), (0, .fieldref 2 17), (0, .nameAndType 18 19), (0, u "length"), (0, u "J"), (0, .fieldref 2 21), (0, .nameAndType 22 23), (0, u "width"), (0, u "I"), (0, .long 18446744073709551615), (3, .fieldref 2 29), (0, .nameAndType 30 19), (0, u "mask"), (0, .fieldref 2 32), (0, .nameAndType 33 34), (0, u "words"), (0, u "[J"), (22, u "get"), (0, u "(J)J")] 19

def k2c0 : Code := { maxStack := 5, maxLocals := 5, code := prog_31_method_2_code, exceptionTable := #[], attributes := #[] }
def k2m0 : Method := { name := "<init>", desc := "(JI[J)V", sig := { parameters := [.long, .int, (.array .long)], returnType := none }, accessFlags := 1, code := some k2c0 }
def k2c1 : Code := { maxStack := 6, maxLocals := 9, code := prog_31_method_7_code, exceptionTable := #[], attributes := #[] }
def k2m1 : Method := { name := "get", desc := "(J)J", sig := { parameters := [.long], returnType := some .long }, accessFlags := 1, code := some k2c1 }
/-- com/example/galdict/galdict/model/PackedArray -/
def k2 : Class := { plain "com/example/galdict/galdict/model/PackedArray" (some 0) with
  accessFlags := 33
  interfaces := #[]
  cf := some (fileOf pool2 2 #[] #[{ accessFlags := 1, nameIndex := 9, descriptorIndex := 10, attributes := #[] }, { accessFlags := 1, nameIndex := 57, descriptorIndex := 58, attributes := #[] }] 33 12 #[] #[{ accessFlags := 18, nameIndex := 18, descriptorIndex := 19, attributes := #[] }, { accessFlags := 18, nameIndex := 22, descriptorIndex := 23, attributes := #[] }, { accessFlags := 18, nameIndex := 30, descriptorIndex := 19, attributes := #[] }, { accessFlags := 18, nameIndex := 33, descriptorIndex := 34, attributes := #[] }])
  fields := #[{ name := "length", type := .long, accessFlags := 18, slot := 0, constantValue := 0 }, { name := "width", type := .int, accessFlags := 18, slot := 1, constantValue := 0 }, { name := "mask", type := .long, accessFlags := 18, slot := 2, constantValue := 0 }, { name := "words", type := (.array .long), accessFlags := 18, slot := 3, constantValue := 0 }]
  methods := #[k2m0, k2m1]
  instanceTypes := #[.long, .int, .long, (.array .long)]
  staticTypes := #[]
  resolved := Array.replicate 78 none
  statics := none }

def pool3 : Array CpInfo := pool [(1, u "java/lang/Cloneable"), (0, .class_ 1), (0, u "java/lang/Object"), (0, .class_ 3)] 3

/-- java/lang/Cloneable -/
def k3 : Class := { plain "java/lang/Cloneable" (some 0) with
  accessFlags := 1537
  interfaces := #[]
  cf := some (fileOf pool3 2 #[] #[] 1537 4 #[] #[])
  fields := #[]
  methods := #[]
  instanceTypes := #[]
  staticTypes := #[]
  resolved := Array.replicate 8 none
  statics := none }

def pool4 : Array CpInfo := pool [(1, u "java/io/Serializable"), (0, .class_ 1), (0, u "java/lang/Object"), (0, .class_ 3)] 3

/-- java/io/Serializable -/
def k4 : Class := { plain "java/io/Serializable" (some 0) with
  accessFlags := 1537
  interfaces := #[]
  cf := some (fileOf pool4 2 #[] #[] 1537 4 #[] #[])
  fields := #[]
  methods := #[]
  instanceTypes := #[]
  staticTypes := #[]
  resolved := Array.replicate 8 none
  statics := none }

/-- the primitive byte -/
def k5 : Class := { plain "byte" none with kind := .primitive 'B', accessFlags := 0x411 }
/-- [B -/
def k6 : Class := { plain "[B" (some 0) with kind := .array 5 .byte, interfaces := #[3, 4], accessFlags := 1041 }

/-- the primitive int -/
def k7 : Class := { plain "int" none with kind := .primitive 'I', accessFlags := 0x411 }
/-- [I -/
def k8 : Class := { plain "[I" (some 0) with kind := .array 7 .int, interfaces := #[3, 4], accessFlags := 1041 }

/-- the primitive long -/
def k9 : Class := { plain "long" none with kind := .primitive 'J', accessFlags := 0x411 }
/-- [J -/
def k10 : Class := { plain "[J" (some 0) with kind := .array 9 .long, interfaces := #[3, 4], accessFlags := 1041 }

def heap : Heap := #[]
def classes : Array Class := #[k0, k1, k2, k3, k4, k5, k6, k7, k8, k9, k10]
def interned : List (Array UInt16 × Addr) := []
def slotsUsed : Nat := 0
def theMethod : MethodId := ⟨1, 2⟩
def args0 : Array Value := #[.int 5, .int 7, .int 9, .long 77, .long 5, .long 6]
def aboutOver (below : List Frame) : State where
  vm := { classes := classes, interned := interned.toArray }
  heap := heap
  slotsUsed := slotsUsed
  threads := #[{ frames := .invoking theMethod args0 :: below }]
def below0 : List Frame := [.native { method := ⟨0, 0⟩, args := #[] }]
def about1 : State := aboutOver below0
def p0 : Program := .bare "" "" ""
def e0 : Env := launch0.env 0 0 0
theorem w_frames : about1.frames = Frame.invoking theMethod args0 :: below0 := rfl
set_option maxRecDepth 65536 in
theorem w_args : argsFit about1.vm theMethod args0 = true := by decide +kernel
set_option maxRecDepth 65536 in
theorem w_heap : heapFits about1 = true := by decide +kernel
set_option maxRecDepth 65536 in
theorem w_runnable : about1.curStatus? = some .runnable := by decide +kernel
set_option maxRecDepth 65536 in
theorem w_alone : about1.alone = true := by decide +kernel
set_option maxRecDepth 65536 in
theorem w_named : about1.methodNamed? x = some theMethod := by decide +kernel
set_option maxRecDepth 65536 in
theorem w_hears : about1.hears theMethod below0 = true := by decide +kernel
set_option maxRecDepth 65536 in
theorem w_ripe : about1.ripe theMethod args0 below0 = true := by decide +kernel
theorem w_running : about1.status = .running := rfl
set_option maxRecDepth 65536 in
theorem w_room : about1.hasRoom e0.platform room_1 = true :=
  launch0.hasRoom_least _ room_1 (by decide +kernel) (by decide +kernel) (by decide +kernel) (by decide +kernel) (by decide +kernel) (by decide +kernel)
theorem allAtoms_all (ts : List Jvm.Cond) (a : Array Jvm.Value) (st : Jvm.State) : (allAtoms ts).before a st = ts.all (fun c => c.before a st) := by
  induction ts with
  | nil => rfl
  | cons c t ih =>
    show (Jvm.Cond.and c (allAtoms t)).before a st = _
    rw [Jvm.Cond.before_and, ih, List.all_cons]
def words1 : List Jvm.Cond := Jvm.Cond.code x code maxLocals ret :: tables_1
/-- a 'code' word, met by the world's own term for the bytes: nothing is compared byte by byte -/
theorem code_word {y : MethodName} {bytes : ByteArray} {mx : Nat} {rt : Option FieldType} {a : Array Value} {s : State} {m : MethodId} {meth : Method} {c : Code} (h1 : s.methodNamed? y = some m) (h2 : s.vm.method? m = some meth) (h3 : meth.code = some c) (h4 : c.code = bytes)
    (h5 : (c.maxLocals == mx && c.exceptionTable.isEmpty && decide (c.maxStack ≤ mostOperands) && decide (meth.sig.returnType = rt) && !meth.locks && decide (parseMethodDescriptor y.desc = some meth.sig)) = true) : (Jvm.Cond.code y bytes mx rt).before a s = true := by
  simp only [Bool.and_eq_true, beq_iff_eq, Bool.not_eq_true', decide_eq_true_eq] at h5
  obtain ⟨⟨⟨⟨⟨g1, g2⟩, g3⟩, g4⟩, g5⟩, g6⟩ := h5
  simp [Cond.before, Cond.holds, Cond.value, h1, h2, h3, h4, g1, g2, g3, g4, g5, g6]
def isCode : Jvm.Cond → Bool
  | .code _ _ _ _ => true
  | _ => false
theorem all_split {L : List Jvm.Cond} {P : Jvm.Cond → Bool} (h1 : L.all (fun c => isCode c || P c) = true) (h2 : ∀ c ∈ L.filter isCode, P c = true) : L.all P = true := by
  refine List.all_eq_true.mpr fun c hc => ?_
  have h := List.all_eq_true.mp h1 c hc
  rcases Bool.eq_false_or_eq_true (isCode c) with hi | hi
  · exact h2 c (List.mem_filter.mpr ⟨hc, hi⟩)
  · simpa [hi] using h
set_option maxRecDepth 65536 in
theorem w_c0 : (Jvm.Cond.code x code maxLocals ret).before args0 about1 = true := code_word (m := ⟨1, 2⟩) (meth := k1m2) (c := k1c2) (by decide +kernel) rfl rfl rfl (by decide +kernel)
set_option maxRecDepth 65536 in
theorem w_c1 : (Jvm.Cond.code ({ cls := "com/example/galdict/galdict/model/PackedArray", name := "<init>", desc := "(JI[J)V" } : Jvm.MethodName) prog_31_method_2_code (5 : Nat) (Option.none : Option Jvm.ClassFile.FieldType)).before args0 about1 = true := code_word (m := ⟨2, 0⟩) (meth := k2m0) (c := k2c0) (by decide +kernel) rfl rfl rfl (by decide +kernel)
set_option maxRecDepth 65536 in
theorem w_c2 : (Jvm.Cond.code ({ cls := "java/lang/Object", name := "<init>", desc := "()V" } : Jvm.MethodName) object_method_1_code (1 : Nat) (Option.none : Option Jvm.ClassFile.FieldType)).before args0 about1 = true := code_word (m := ⟨0, 0⟩) (meth := k0m0) (c := k0c0) (by decide +kernel) rfl rfl rfl (by decide +kernel)
set_option maxRecDepth 65536 in
theorem w_c3 : (Jvm.Cond.code ({ cls := "com/example/galdict/galdict/model/PackedArray", name := "get", desc := "(J)J" } : Jvm.MethodName) prog_31_method_7_code (9 : Nat) (Option.some Jvm.ClassFile.FieldType.long)).before args0 about1 = true := code_word (m := ⟨2, 1⟩) (meth := k2m1) (c := k2c1) (by decide +kernel) rfl rfl rfl (by decide +kernel)
set_option maxRecDepth 65536 in
theorem w_c4 : (Jvm.Cond.code ({ cls := "com/example/galdict/galdict/model/PackedArrayGetPinLaw", name := "bitOf", desc := "(JJJJ)J" } : Jvm.MethodName) method_2_code (8 : Nat) (Option.some Jvm.ClassFile.FieldType.long)).before args0 about1 = true := code_word (m := ⟨1, 1⟩) (meth := k1m1) (c := k1c1) (by decide +kernel) rfl rfl rfl (by decide +kernel)
def codes1 : List Jvm.Cond := [Jvm.Cond.code x code maxLocals ret, Jvm.Cond.code ({ cls := "com/example/galdict/galdict/model/PackedArray", name := "<init>", desc := "(JI[J)V" } : Jvm.MethodName) prog_31_method_2_code (5 : Nat) (Option.none : Option Jvm.ClassFile.FieldType), Jvm.Cond.code ({ cls := "java/lang/Object", name := "<init>", desc := "()V" } : Jvm.MethodName) object_method_1_code (1 : Nat) (Option.none : Option Jvm.ClassFile.FieldType), Jvm.Cond.code ({ cls := "com/example/galdict/galdict/model/PackedArray", name := "get", desc := "(J)J" } : Jvm.MethodName) prog_31_method_7_code (9 : Nat) (Option.some Jvm.ClassFile.FieldType.long), Jvm.Cond.code ({ cls := "com/example/galdict/galdict/model/PackedArrayGetPinLaw", name := "bitOf", desc := "(JJJJ)J" } : Jvm.MethodName) method_2_code (8 : Nat) (Option.some Jvm.ClassFile.FieldType.long)]
set_option maxRecDepth 65536 in
theorem codes_eq : words1.filter isCode = codes1 := rfl
theorem w_codes : ∀ c ∈ words1.filter isCode, c.before args0 about1 = true := by
  rw [codes_eq]
  intro c hc
  simp only [codes1, List.mem_cons, List.not_mem_nil, or_false] at hc
  rcases hc with rfl | rfl | rfl | rfl | rfl
  · exact w_c0
  · exact w_c1
  · exact w_c2
  · exact w_c3
  · exact w_c4
set_option maxRecDepth 65536 in
theorem w_t1 : (words1.take 24).all (fun c => isCode c || c.before args0 about1) = true := by decide +kernel
set_option maxRecDepth 65536 in
theorem w_t2 : (words1.drop 24).all (fun c => isCode c || c.before args0 about1) = true := by decide +kernel
theorem w_tables : (allAtoms (Jvm.Cond.code x code maxLocals ret :: tables_1)).before args0 about1 = true := by
  rw [allAtoms_all]
  show words1.all (fun c => c.before args0 about1) = true
  refine all_split ?_ w_codes
  rw [← List.take_append_drop 24 words1, List.all_append, w_t1, w_t2]
  rfl
set_option maxRecDepth 65536 in
theorem w_case : (Jvm.Cond.and given_1 narrow_1).before args0 about1 = true := by decide +kernel
theorem w_applies : (headSpec (Jvm.Cond.code x code maxLocals ret :: tables_1) room_1).applies x e0.platform about1 = true :=
  (Spec.applies_iff w_frames).mpr ⟨w_running, w_runnable, w_alone, w_named, w_hears, w_ripe, w_room, w_tables⟩
theorem atStart : AtStart classFile x code maxLocals ret World_1 tables_1 room_1 Calls_1 rest_1 Pre_1 launch0 p0 e0 about1 theMethod args0 below0 :=
  ⟨lists_1, trivial, launch0.admits_env _ _ _, launch0.least_env, fairChoices_fair.cas, fairChoices_fair.clock, w_frames, w_args, w_heap, w_applies, trivial, trivial, w_case⟩
end start1
theorem witness_1 : WitnessClaimed_1 := ⟨start1.p0, start1.e0, start1.about1, start1.theMethod, start1.args0, start1.below0, start1.atStart⟩
end Jvm.Pilot.@@N@@
