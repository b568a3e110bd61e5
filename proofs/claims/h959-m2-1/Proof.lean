import JvmDerived
import JvmDerived.Pilot.@@N@@Statement
import JvmDerived.Pilot.@@N@@Code
set_option linter.unusedVariables false
set_option linter.unusedSimpArgs false
namespace Jvm.Pilot.@@N@@
open Jvm Jvm.ClassFile Sem Op Lib Jvm.Free Jvm.Stand Jvm.LawKit Jvm.RoadKit Bundle Jvm.Pilot.@@N@@.Jvm.D
section Own
variable {p : Program} {l : Launch} {e : Env} {R : Room} {s : State} {m : MethodId} {args : Array Value} {below : List Frame} {meth : Method} {c : Code} {T : State} {locs : List Loc} {cells slots : Nat} {Z : State} {a0 : Array Value} {h h' : Heap} {Q : Option Value → Heap → List Loc → Prop} {k n : Nat}
/-- from U the walk comes to a return of which Q holds -/
def Goes (p : Program) (e : Env) (below : List Frame) (s : State) (Q : Option Value → Heap → List Loc → Prop) (k n : Nat) (U : State) : Prop :=
  ∃ s₂ o, Steps p.tables e below U s₂ ∧ s₂.status = .running ∧ Ended s₂ below o ∧ ∃ v L, o = .returned v ∧ Q v s₂.heap L ∧ FrameEnd s o s₂ L k n
theorem Goes.go {U U' : State} (h : ∀ t, Steps p.tables e below U' t → Steps p.tables e below U t) (r : Goes p e below s Q k n U') : Goes p e below s Q k n U := by
  obtain ⟨s₂, o, h1, r⟩ := r
  exact ⟨s₂, o, h _ h1, r⟩
theorem Goes.outI (X : Stand p l e R s m args below meth c T locs cells slots) (hx : p.tables.exec = Jvm.exec) (hlk : meth.locks = false) (hret : meth.sig.returnType = some .int) {pc : Nat} {Ls : Array Slot} {z : Int32} (hd : decode c.code pc = .ok (.ireturn, 1)) (eT : T.heap = h) (hq : Q (some (.int z)) h locs) (hk : cells ≤ k) (hn : slots ≤ n) :
    Goes p e below s Q k n (T.setTop (mkF m pc Ls [.int z])) := by
  obtain ⟨fs, hr, hrun, hended, hW, hsame⟩ := X.leave (v := some (.int z)) (fun h => by rw [hret] at h; cases h) hlk
  refine ⟨_, _, X.ireturnOut hx hret rfl (Or.inl rfl) hd hr, hrun, hended, _, _, rfl, ?_, ⟨_, rfl⟩, hW, hsame.mono hk hn⟩
  show Q _ T.heap _
  rw [eT]; exact hq
theorem Goes.outZ (X : Stand p l e R s m args below meth c T locs cells slots) (hx : p.tables.exec = Jvm.exec) (hlk : meth.locks = false) (hret : meth.sig.returnType = some .boolean) {pc : Nat} {Ls : Array Slot} {z : Int32} (hz : narrow .boolean (.int z) = .int z) (hd : decode c.code pc = .ok (.ireturn, 1)) (eT : T.heap = h) (hq : Q (some (.int z)) h locs) (hk : cells ≤ k) (hn : slots ≤ n) :
    Goes p e below s Q k n (T.setTop (mkF m pc Ls [.int z])) := by
  obtain ⟨fs, hr, hrun, hended, hW, hsame⟩ := X.leave (v := some (.int z)) (fun h => by rw [hret] at h; cases h) hlk
  refine ⟨_, _, X.ireturnOut hx hret hz (Or.inr (Or.inl rfl)) hd hr, hrun, hended, _, _, rfl, ?_, ⟨_, rfl⟩, hW, hsame.mono hk hn⟩
  show Q _ T.heap _
  rw [eT]; exact hq
theorem Goes.outJ (X : Stand p l e R s m args below meth c T locs cells slots) (hx : p.tables.exec = Jvm.exec) (hlk : meth.locks = false) (hret : meth.sig.returnType = some .long) {pc : Nat} {Ls : Array Slot} {z : Int64} (hd : decode c.code pc = .ok (.lreturn, 1)) (eT : T.heap = h) (hq : Q (some (.long z)) h locs) (hk : cells ≤ k) (hn : slots ≤ n) :
    Goes p e below s Q k n (T.setTop (mkF m pc Ls [.long z])) := by
  obtain ⟨fs, hr, hrun, hended, hW, hsame⟩ := X.leave (v := some (.long z)) (fun h => by rw [hret] at h; cases h) hlk
  refine ⟨_, _, X.lreturnOut hx hret hd hr, hrun, hended, _, _, rfl, ?_, ⟨_, rfl⟩, hW, hsame.mono hk hn⟩
  show Q _ T.heap _
  rw [eT]; exact hq
theorem Goes.outA (X : Stand p l e R s m args below meth c T locs cells slots) (hx : p.tables.exec = Jvm.exec) (hlk : meth.locks = false) {t : FieldType} (hret : meth.sig.returnType = some t) (ht : t.isReference = true) {pc : Nat} {Ls : Array Slot} {w : Value} (hw : w.isRef = true) (hd : decode c.code pc = .ok (.areturn, 1)) (eT : T.heap = h) (hq : Q (some w) h locs) (hk : cells ≤ k) (hn : slots ≤ n) :
    Goes p e below s Q k n (T.setTop (mkF m pc Ls [w])) := by
  obtain ⟨fs, hr, hrun, hended, hW, hsame⟩ := X.leave (v := some w) (fun h => by rw [hret] at h; cases h) hlk
  refine ⟨_, _, X.areturnOut hx hw hret ht hd hr, hrun, hended, _, _, rfl, ?_, ⟨_, rfl⟩, hW, hsame.mono hk hn⟩
  show Q _ T.heap _
  rw [eT]; exact hq
theorem Goes.outV (X : Stand p l e R s m args below meth c T locs cells slots) (hx : p.tables.exec = Jvm.exec) (hlk : meth.locks = false) (hret : meth.sig.returnType = none) {pc : Nat} {Ls : Array Slot} (hd : decode c.code pc = .ok (.return_, 1)) (eT : T.heap = h) (hq : Q none h locs) (hk : cells ≤ k) (hn : slots ≤ n) :
    Goes p e below s Q k n (T.setTop (mkF m pc Ls [])) := by
  obtain ⟨fs, hr, hrun, hended, hW, hsame⟩ := X.leave (v := none) (fun _ => rfl) hlk
  refine ⟨_, _, X.returnOut hx hret hd hr, hrun, hended, _, _, rfl, ?_, ⟨_, rfl⟩, hW, hsame.mono hk hn⟩
  show Q _ T.heap _
  rw [eT]; exact hq
/-- an array, by the list of what it holds -/
def Arl (Z : State) (h : Heap) (a : Addr) (ty : FieldType) (vs : List Value) : Prop := ∃ c : Cell, Arr Z h a c ty ∧ c.slots.toList = vs
section Arls
variable {a b : Addr} {ty : FieldType} {vs : List Value} {v : Value} {sl : Nat} {ws : List Addr} {j : Int32}
theorem Arl.lt (F : Arl Z h a ty vs) : a < h.size := by obtain ⟨c, A, -⟩ := F; exact A.lt
theorem Arl.ext (F : Arl Z h a ty vs) (E : Ext h h') : Arl Z h' a ty vs := by obtain ⟨c, A, r⟩ := F; exact ⟨c, A.ext E, r⟩
theorem Arl.other (F : Arl Z h b ty vs) (W : Wr h h' a sl v) (q : b ≠ a) : Arl Z h' b ty vs := by obtain ⟨c, A, r⟩ := F; exact ⟨c, A.other W q, r⟩
theorem Arl.keep (F : Arl Z h a ty vs) (K : Keep h h' ws) (q : a ∉ ws) : Arl Z h' a ty vs := by obtain ⟨c, A, r⟩ := F; exact ⟨c, ⟨K.2.1 a c A.1 q, A.2⟩, r⟩
theorem Arl.set (F : Arl Z h a ty vs) (W : Wr h h' a sl v) : Arl Z h' a ty (vs.set sl v) := by
  obtain ⟨c, A, r⟩ := F
  refine ⟨_, A.same W, ?_⟩
  subst r
  simp [Cell.setSlot]
theorem Arl.eq {vs' : List Value} (F : Arl Z h a ty vs) (e : vs = vs') : Arl Z h a ty vs' := e ▸ F
theorem own_in {c : Cell} (r : c.slots.toList = vs) (h0 : ¬ j < 0) (h1 : j.toNatClampNeg < vs.length) : ¬ (j < 0 ∨ c.slots.size ≤ j.toNatClampNeg) := by
  subst r
  intro q
  rcases q with q | q
  · exact h0 q
  · rw [Array.length_toList] at h1; omega
theorem own_lt (hv : vs[sl]? = some v) : sl < vs.length := (List.getElem?_eq_some_iff.mp hv).1
end Arls
theorem own_ati {xs : List Int32} {j : Nat} {w : Int32} (h : xs[j]? = some w) : (xs.map Value.int)[j]? = some (.int w) := by
  rw [List.getElem?_map, h]; rfl
theorem own_lni {xs : List Int32} {j k : Nat} (hl : xs.length = k) (h : j < k) : j < (xs.map Value.int).length := by
  rw [List.length_map, hl]; exact h
theorem own_sti {a : Addr} {xs : List Int32} {j : Nat} {w : Int32} (A : Arl Z h a .int ((xs.map Value.int).set j (.int w))) : Arl Z h a .int ((xs.set j w).map Value.int) := A.eq List.map_set.symm
theorem own_selP {C : String} {y y' : MethodName} (hs : (Cond.selects C y' y').before args s = true) (hcls : y'.cls = y.cls) (hpriv : s.PrivateAt y) (hinst : (Cond.instanceMethod y).before args s = true) (hy : y.cls ≠ "java/lang/invoke/MethodHandle" ∧ y.cls ≠ "java/lang/invoke/VarHandle") : (Cond.selects y.cls y y).before args s = true := by
  obtain ⟨c2, r2, m2, -, -, q3, -, kP, hkP, hkPi⟩ := Cond.selects_spec hs
  have hc : s.vm.findClass y.cls = some m2.cls := hcls ▸ findClass_of_methodNamed q3
  exact selects_self_of_private hc hkP hkPi hpriv hinst hy
theorem own_neA {a b : Addr} {C : String} {k : Nat} {ty : FieldType} {vs : List Value} (F : Exa Z h a C) (wi : (Cond.instantiable C k).before a0 Z = true) (G : Arl Z h b ty vs) : a ≠ b := by
  obtain ⟨c', A', -⟩ := G
  exact ne_arr F wi A'
theorem own_newP (X : Stand p l e R s m args below meth c T locs cells slots) (hx : p.tables.exec = Jvm.exec) (hZ : Z.Warmed39 s.vm) {aty : ArrayType} (w : (Cond.arrayClass (newarray.typeOf aty)).before a0 Z = true) (eT : T.heap = h) {g : JFrame} (hg : g.method = m) (hd : decode c.code g.pc = .ok (.newarray aty, 2)) {n : Int32} {rest : List Value} (hs : g.stack = .int n :: rest)
    (hn : ¬ n < 0) {cap : Nat} (hcap : n.toNatClampNeg ≤ cap) (hb : cap * 8 ≤ 536870912) (hc : cells + 1 ≤ R.cells) (hl : slots + cap ≤ R.slots) :
    ∃ T' h', Stand p l e R s m args below meth c T' locs (cells + 1) (slots + cap) ∧ T'.heap = h' ∧ Ext h h' ∧ Arl Z h' h.size (newarray.typeOf aty) (List.replicate n.toNatClampNeg (defaultValue (newarray.typeOf aty))) ∧
      ∀ target, Steps p.tables e below (T'.setTop { g with pc := g.pc + 2, stack := .ref h.size :: rest }) target → Steps p.tables e below (T.setTop g) target := by
  obtain ⟨T', h', cA, X', e', E', A', st⟩ := newP X hx hZ w eT hg hd hs hn hcap hb hc hl
  exact ⟨T', h', X', e', E', ⟨_, A', by simp [newA]⟩, st⟩
theorem own_stB (X : Stand p l e R s m args below meth c T locs cells slots) (hx : p.tables.exec = Jvm.exec) (hZ : Z.Warmed39 s.vm) (eT : T.heap = h) {a : Addr} {vs : List Value} (A : Arl Z h a .byte vs) {j x : Int32} (hj : ¬ j < 0) (hj' : j.toNatClampNeg < vs.length) {g : JFrame} (hg : g.method = m) {rest : List Value} (hs : g.stack = .int x :: .int j :: .ref a :: rest) (hd : decode c.code g.pc = .ok (.bastore, 1)) :
    ∃ T' h', Stand p l e R s m args below meth c T' (locs ++ [⟨a, j.toNatClampNeg⟩]) cells slots ∧ T'.heap = h' ∧ Wr h h' a j.toNatClampNeg (.int x.toInt8.toInt32) ∧ Arl Z h' a .byte (vs.set j.toNatClampNeg (.int x.toInt8.toInt32)) ∧ ∀ target, Steps p.tables e below (T'.setTop { g with pc := g.pc + 1, stack := rest }) target → Steps p.tables e below (T.setTop g) target := by
  obtain ⟨c', A', r⟩ := A
  obtain ⟨T', h', X', e', W, st⟩ := stB X hx hZ eT A' (own_in r hj hj') hg hs hd
  exact ⟨T', h', X', e', W, Arl.set ⟨c', A', r⟩ W, st⟩
theorem own_stI (X : Stand p l e R s m args below meth c T locs cells slots) (hx : p.tables.exec = Jvm.exec) (hZ : Z.Warmed39 s.vm) (eT : T.heap = h) {a : Addr} {vs : List Value} (A : Arl Z h a .int vs) {j x : Int32} (hj : ¬ j < 0) (hj' : j.toNatClampNeg < vs.length) {g : JFrame} (hg : g.method = m) {rest : List Value} (hs : g.stack = .int x :: .int j :: .ref a :: rest) (hd : decode c.code g.pc = .ok (.iastore, 1)) :
    ∃ T' h', Stand p l e R s m args below meth c T' (locs ++ [⟨a, j.toNatClampNeg⟩]) cells slots ∧ T'.heap = h' ∧ Wr h h' a j.toNatClampNeg (.int x) ∧ Arl Z h' a .int (vs.set j.toNatClampNeg (.int x)) ∧ ∀ target, Steps p.tables e below (T'.setTop { g with pc := g.pc + 1, stack := rest }) target → Steps p.tables e below (T.setTop g) target := by
  obtain ⟨c', A', r⟩ := A
  obtain ⟨T', h', X', e', W, st⟩ := stI X hx hZ eT A' (own_in r hj hj') hg hs hd
  exact ⟨T', h', X', e', W, Arl.set ⟨c', A', r⟩ W, st⟩
theorem own_stJ (X : Stand p l e R s m args below meth c T locs cells slots) (hx : p.tables.exec = Jvm.exec) (hZ : Z.Warmed39 s.vm) (eT : T.heap = h) {a : Addr} {vs : List Value} (A : Arl Z h a .long vs) {j : Int32} {x : Int64} (hj : ¬ j < 0) (hj' : j.toNatClampNeg < vs.length) {g : JFrame} (hg : g.method = m) {rest : List Value} (hs : g.stack = .long x :: .int j :: .ref a :: rest) (hd : decode c.code g.pc = .ok (.lastore, 1)) :
    ∃ T' h', Stand p l e R s m args below meth c T' (locs ++ [⟨a, j.toNatClampNeg⟩]) cells slots ∧ T'.heap = h' ∧ Wr h h' a j.toNatClampNeg (.long x) ∧ Arl Z h' a .long (vs.set j.toNatClampNeg (.long x)) ∧ ∀ target, Steps p.tables e below (T'.setTop { g with pc := g.pc + 1, stack := rest }) target → Steps p.tables e below (T.setTop g) target := by
  obtain ⟨c', A', r⟩ := A
  obtain ⟨T', h', X', e', W, st⟩ := stJ X hx hZ eT A' (own_in r hj hj') hg hs hd
  exact ⟨T', h', X', e', W, Arl.set ⟨c', A', r⟩ W, st⟩
theorem own_at {a : Addr} {c' : Cell} {vs : List Value} {v : Value} {j : Int32} (r : c'.slots.toList = vs) (hv : vs[j.toNatClampNeg]? = some v) : c'.slots[j.toNatClampNeg]? = some v := by
  subst r; simpa using hv
theorem own_ldB (X : Stand p l e R s m args below meth c T locs cells slots) (hx : p.tables.exec = Jvm.exec) (hZ : Z.Warmed39 s.vm) (eT : T.heap = h) {a : Addr} {vs : List Value} {v : Value} (A : Arl Z h a .byte vs) {j : Int32} (hj : ¬ j < 0) (hv : vs[j.toNatClampNeg]? = some v) {g : JFrame} (hg : g.method = m) {rest : List Value} (hs : g.stack = .int j :: .ref a :: rest) (hd : decode c.code g.pc = .ok (.baload, 1)) :
    ∀ target, Steps p.tables e below (T.setTop { g with pc := g.pc + 1, stack := v :: rest }) target → Steps p.tables e below (T.setTop g) target := by
  obtain ⟨c', A', r⟩ := A
  exact fun t k => X.baloadBytes hx (by rw [eT]; exact A'.1) (State.isArrayOf_alike hZ.alike A'.2.1) A'.2.2 (own_in r hj (own_lt hv)) (own_at (a := a) r hv) hg hs hd t k
theorem own_ldI (X : Stand p l e R s m args below meth c T locs cells slots) (hx : p.tables.exec = Jvm.exec) (hZ : Z.Warmed39 s.vm) (eT : T.heap = h) {a : Addr} {vs : List Value} {v : Value} (A : Arl Z h a .int vs) {j : Int32} (hj : ¬ j < 0) (hv : vs[j.toNatClampNeg]? = some v) {g : JFrame} (hg : g.method = m) {rest : List Value} (hs : g.stack = .int j :: .ref a :: rest) (hd : decode c.code g.pc = .ok (.iaload, 1)) :
    ∀ target, Steps p.tables e below (T.setTop { g with pc := g.pc + 1, stack := v :: rest }) target → Steps p.tables e below (T.setTop g) target := by
  obtain ⟨c', A', r⟩ := A
  exact fun t k => X.iaload hx (by rw [eT]; exact A'.1) (State.isArrayOf_alike hZ.alike A'.2.1) A'.2.2 (own_in r hj (own_lt hv)) (own_at (a := a) r hv) hg hs hd t k
theorem own_ldJ (X : Stand p l e R s m args below meth c T locs cells slots) (hx : p.tables.exec = Jvm.exec) (hZ : Z.Warmed39 s.vm) (eT : T.heap = h) {a : Addr} {vs : List Value} {v : Value} (A : Arl Z h a .long vs) {j : Int32} (hj : ¬ j < 0) (hv : vs[j.toNatClampNeg]? = some v) {g : JFrame} (hg : g.method = m) {rest : List Value} (hs : g.stack = .int j :: .ref a :: rest) (hd : decode c.code g.pc = .ok (.laload, 1)) :
    ∀ target, Steps p.tables e below (T.setTop { g with pc := g.pc + 1, stack := v :: rest }) target → Steps p.tables e below (T.setTop g) target := by
  obtain ⟨c', A', r⟩ := A
  exact fun t k => X.laload hx (by rw [eT]; exact A'.1) (State.isArrayOf_alike hZ.alike A'.2.1) A'.2.2 (own_in r hj (own_lt hv)) (own_at (a := a) r hv) hg hs hd t k
theorem own_len (X : Stand p l e R s m args below meth c T locs cells slots) (hx : p.tables.exec = Jvm.exec) (hZ : Z.Warmed39 s.vm) (eT : T.heap = h) {a : Addr} {ty : FieldType} {vs : List Value} (A : Arl Z h a ty vs) {n : Int32} (hn : vs.length.toInt32 = n) {g : JFrame} (hg : g.method = m) {rest : List Value} (hs : g.stack = .ref a :: rest) (hd : decode c.code g.pc = .ok (.arraylength, 1)) :
    ∀ target, Steps p.tables e below (T.setTop { g with pc := g.pc + 1, stack := .int n :: rest }) target → Steps p.tables e below (T.setTop g) target := by
  obtain ⟨c', A', r⟩ := A
  have q : c'.slots.size.toInt32 = n := by rw [← hn, ← r, Array.length_toList]
  exact fun t k => X.arraylength hx (ty := ty) (by rw [eT]; exact A'.1) (State.isArrayOf_alike hZ.alike A'.2.1) hg hs hd t (q.symm ▸ k)
end Own
def rsF (a b : Int32) : Int32 := if a < 64 then b * a else ((a.toInt64 * b.toInt64) / (8 : Int64)).toInt32
theorem rsF_lo {a b : Int32} (h : a < 64) : rsF a b = b * a := if_pos h
theorem rsF_hi {a b : Int32} (h : ¬ a < 64) : rsF a b = ((a.toInt64 * b.toInt64) / (8 : Int64)).toInt32 := if_neg h
/-- where 64 ≤ a and 0 ≤ b ≤ 8 -/
theorem rsF_big {a b : Int32} (h : ¬ a < 64) (h0 : 0 ≤ b.toInt) (h1 : b.toInt ≤ 8) : (rsF a b).toInt = a.toInt * b.toInt / 8 ∧ 0 ≤ a.toInt * b.toInt ∧ a.toInt * b.toInt ≤ a.toInt * 8 ∧ (a.toInt64 * b.toInt64).toInt = a.toInt * b.toInt := by
  rw [rsF_hi h]
  have ha : 64 ≤ a.toInt := by rw [Int32.lt_iff_toInt_lt] at h; exact Int.not_lt.mp h
  have r := rng32 a
  have e1 := XT.wideMul a b
  have m1 : a.toInt * b.toInt ≤ a.toInt * 8 := Int.mul_le_mul_of_nonneg_left h1 (by omega)
  have m0 : 0 ≤ a.toInt * b.toInt := Int.mul_nonneg (by omega) h0
  have e2 := (c_ldiv (a.toInt64 * b.toInt64) 8 8 (by decide) (by decide)).1
  rw [e1] at e2
  have e3 := e2 m0
  refine ⟨?_, m0, m1, e1⟩
  rw [XT.narrowInt (by rw [e3]; constructor <;> omega), e3]
def rnF (a : Int32) : Int32 := if a = 0 then 0 else if a < 64 then 1 else 8
theorem rnF_cases (a : Int32) : (a = 0 ∧ rnF a = 0) ∨ (¬ a = 0 ∧ a < 64 ∧ rnF a = 1) ∨ (¬ a = 0 ∧ ¬ a < 64 ∧ rnF a = 8) := by
  unfold rnF
  by_cases h : a = 0
  · simp [h]
  · by_cases h' : a < 64 <;> simp [h, h']
theorem own_z {l : Int32} (h : l = 0) : rsF l 0 = l := by subst h; decide
theorem own_1 {l : Int32} (h : l < 64) : rsF l 1 = l := by rw [rsF_lo h]; simp
theorem own_8 {l : Int32} (h : ¬ l < 64) : rsF l 8 = l := by
  have e8 : (8 : Int32).toInt = 8 := by decide
  obtain ⟨e1, -, -, -⟩ := rsF_big (b := 8) h (by omega) (by omega)
  apply Int32.toInt_inj.mp
  rw [e1, e8]; omega
theorem d1_0 : decode prog_66_method_2_code 0 = .ok (.iload_n 0, 1) := by decide +kernel
theorem d1_1 : decode prog_66_method_2_code 1 = .ok (.ifCond .ne 8, 3) := by decide +kernel
theorem d1_4 : decode prog_66_method_2_code 4 = .ok (.iconst 0, 1) := by decide +kernel
theorem d1_5 : decode prog_66_method_2_code 5 = .ok (.istore_n 1, 1) := by decide +kernel
theorem d1_6 : decode prog_66_method_2_code 6 = .ok (.goto 17, 3) := by decide +kernel
theorem d1_9 : decode prog_66_method_2_code 9 = .ok (.iload_n 0, 1) := by decide +kernel
theorem d1_10 : decode prog_66_method_2_code 10 = .ok (.bipush 64, 2) := by decide +kernel
theorem d1_12 : decode prog_66_method_2_code 12 = .ok (.if_icmp .ge 8, 3) := by decide +kernel
theorem d1_15 : decode prog_66_method_2_code 15 = .ok (.iconst 1, 1) := by decide +kernel
theorem d1_16 : decode prog_66_method_2_code 16 = .ok (.istore_n 1, 1) := by decide +kernel
theorem d1_17 : decode prog_66_method_2_code 17 = .ok (.goto 6, 3) := by decide +kernel
theorem d1_20 : decode prog_66_method_2_code 20 = .ok (.bipush 8, 2) := by decide +kernel
theorem d1_22 : decode prog_66_method_2_code 22 = .ok (.istore_n 1, 1) := by decide +kernel
theorem d1_23 : decode prog_66_method_2_code 23 = .ok (.iload_n 1, 1) := by decide +kernel
theorem d1_24 : decode prog_66_method_2_code 24 = .ok (.ireturn, 1) := by decide +kernel
theorem pn0 : plainName "com/example/sievewright/sievewright/TreeLayout" = true := by first | (simp [plainName, overriddenIn]; done) | decide +kernel
theorem ef_rm1 (m : MethodId) (p0 : Int32) : entryFrame m #[(.int p0)] 2 = mkF m 0 #[.val (.int p0), .unset] [] := by first | (simp [entryFrame, mkF, argsToLocals, Value.category]; done) | rfl
def Q_rm1 (Z : State) (p0 : Int32) (h0 : Heap) (n0 : Nat) (v : Option Value) (h : Heap) (L : List Loc) : Prop := v = some (.int (rnF p0)) ∧ Fr n0 L ∧ h = h0
set_option maxRecDepth 65536 in
set_option maxHeartbeats 40000000 in
theorem rm1 (l : Launch) (Z : State) (a0 : Array Value) (hw : ∀ d ∈ tables_1, d.before a0 Z = true) (ws : List Jvm.Cond) (p0 : Int32) (h0 : Heap) (n0 : Nat) (Z0 : n0 ≤ h0.size)  :
    MetFree l (⟨"com/example/sievewright/sievewright/TreeLayout", "runs", "(I)I"⟩ : MethodName) (head1 (Jvm.Cond.code (⟨"com/example/sievewright/sievewright/TreeLayout", "runs", "(I)I"⟩ : MethodName) prog_66_method_2_code 2 (some .int) :: ws) ({ frames := 0, cells := 0, slots := 0, locals := 0 } : Room)) (fun a U => a = #[(.int p0)] ∧ Z.Warmed39 U.vm ∧ U.heap = h0) (fun _ _ _ _ _ => True) (fun _ U o U' => ∃ v L, o = .returned v ∧ Q_rm1 Z p0 h0 n0 v U'.heap L ∧ FrameEnd U o U' L ({ frames := 0, cells := 0, slots := 0, locals := 0 } : Room).cells ({ frames := 0, cells := 0, slots := 0, locals := 0 } : Room).slots) := by
  refine MetFree.of_bodySF (plainFor_of_name pn0) hisR ?_
  intro p e s m args below meth c s₁ Bd hml0 hP hK
  obtain ⟨rfl, hZ, hh⟩ := hP
  have hx := Bd.exec
  have hby := Bd.bytes
  have hml : c.maxLocals = 2 := hml0
  have hown : s.vm.findClass "com/example/sievewright/sievewright/TreeLayout" = some m.cls := findClass_of_methodNamed Bd.named
  have hnm := (name_of_methodNamed Bd.named Bd.method).1
  have hlk : meth.locks = false := Bd.notSynchronized
  have hret := Bd.returns
  have X0 : Stand p l e ({ frames := 0, cells := 0, slots := 0, locals := 0 } : Room) s m #[(.int p0)] below meth c s₁ [] 0 0 := Stand.of_body Bd
  have e0 : s₁.heap = h0 := by rw [← hh, Bd.state]; rfl
  have N0 := Fr.nil n0
  have K0 : Keep h0 h0 [] := Keep.refl _ _
  show Goes p e below s (Q_rm1 Z p0 h0 n0) ({ frames := 0, cells := 0, slots := 0, locals := 0 } : Room).cells ({ frames := 0, cells := 0, slots := 0, locals := 0 } : Room).slots _
  refine Goes.go (fun t k => castTop (ef_rm1 m p0) k) ?_
  show Goes _ _ _ _ _ _ _ (s₁.setTop (mkF m 0 #[.val (.int p0), .unset] []))
  refine Goes.go (fun _ k => XS.iloadN X0.here hx rfl (hb hby d1_0) rfl k) ?_
  show Goes _ _ _ _ _ _ _ (s₁.setTop (mkF m 1 _ [(.int p0)]))
  by_cases c1 : p0 = 0
  · skip
    refine Goes.go (fun _ k => XS.ifNo X0.here hx rfl (hb hby d1_1) rfl (XT.i0_ne_f c1) k) ?_
    show Goes _ _ _ _ _ _ _ (s₁.setTop (mkF m 4 _ []))
    refine Goes.go (fun _ k => XS.iconst X0.here hx rfl (hb hby d1_4) k) ?_
    show Goes _ _ _ _ _ _ _ (s₁.setTop (mkF m 5 _ [(.int (0 : Int32))]))
    refine Goes.go (fun _ k => XS.istoreN X0.here hx rfl (hb hby d1_5) rfl (l' := #[.val (.int p0), .val (.int (0 : Int32))]) rfl k) ?_
    show Goes _ _ _ _ _ _ _ (s₁.setTop (mkF m 6 #[.val (.int p0), .val (.int (0 : Int32))] []))
    refine Goes.go (fun _ k => XS.goto X0.here hx rfl (pc0 := 6) (pc' := 23) rfl (hb hby d1_6) (by decide) (by decide) k) ?_
    show Goes _ _ _ _ _ _ _ (s₁.setTop (mkF m 23 _ []))
    refine Goes.go (fun _ k => XS.iloadN X0.here hx rfl (hb hby d1_23) rfl k) ?_
    show Goes _ _ _ _ _ _ _ (s₁.setTop (mkF m 24 _ [(.int (0 : Int32))]))
    exact Goes.outI X0 hx hlk hret (hb hby d1_24) e0 ⟨by simp [rnF, c1], N0, rfl⟩ (by decide) (by decide)
  · skip
    refine Goes.go (fun _ k => XS.ifYes X0.here hx rfl (pc0 := 1) (pc' := 9) rfl (hb hby d1_1) rfl (XT.i0_ne_t c1) (by decide) (by decide) k) ?_
    show Goes _ _ _ _ _ _ _ (s₁.setTop (mkF m 9 _ []))
    refine Goes.go (fun _ k => XS.iloadN X0.here hx rfl (hb hby d1_9) rfl k) ?_
    show Goes _ _ _ _ _ _ _ (s₁.setTop (mkF m 10 _ [(.int p0)]))
    refine Goes.go (fun _ k => XS.bipush X0.here hx rfl (hb hby d1_10) k) ?_
    show Goes _ _ _ _ _ _ _ (s₁.setTop (mkF m 12 _ [(.int (64 : Int32)), (.int p0)]))
    by_cases c12 : p0 < (64 : Int32)
    · skip
      refine Goes.go (fun _ k => XS.icmpNo X0.here hx rfl (hb hby d1_12) rfl (XT.ii_ge_f c12) k) ?_
      show Goes _ _ _ _ _ _ _ (s₁.setTop (mkF m 15 _ []))
      refine Goes.go (fun _ k => XS.iconst X0.here hx rfl (hb hby d1_15) k) ?_
      show Goes _ _ _ _ _ _ _ (s₁.setTop (mkF m 16 _ [(.int (1 : Int32))]))
      refine Goes.go (fun _ k => XS.istoreN X0.here hx rfl (hb hby d1_16) rfl (l' := #[.val (.int p0), .val (.int (1 : Int32))]) rfl k) ?_
      show Goes _ _ _ _ _ _ _ (s₁.setTop (mkF m 17 #[.val (.int p0), .val (.int (1 : Int32))] []))
      refine Goes.go (fun _ k => XS.goto X0.here hx rfl (pc0 := 17) (pc' := 23) rfl (hb hby d1_17) (by decide) (by decide) k) ?_
      show Goes _ _ _ _ _ _ _ (s₁.setTop (mkF m 23 _ []))
      refine Goes.go (fun _ k => XS.iloadN X0.here hx rfl (hb hby d1_23) rfl k) ?_
      show Goes _ _ _ _ _ _ _ (s₁.setTop (mkF m 24 _ [(.int (1 : Int32))]))
      exact Goes.outI X0 hx hlk hret (hb hby d1_24) e0 ⟨by simp [rnF, c1, c12], N0, rfl⟩ (by decide) (by decide)
    · skip
      refine Goes.go (fun _ k => XS.icmpYes X0.here hx rfl (pc0 := 12) (pc' := 20) rfl (hb hby d1_12) rfl (XT.ii_ge_t c12) (by decide) (by decide) k) ?_
      show Goes _ _ _ _ _ _ _ (s₁.setTop (mkF m 20 _ []))
      refine Goes.go (fun _ k => XS.bipush X0.here hx rfl (hb hby d1_20) k) ?_
      show Goes _ _ _ _ _ _ _ (s₁.setTop (mkF m 22 _ [(.int (8 : Int32))]))
      refine Goes.go (fun _ k => XS.istoreN X0.here hx rfl (hb hby d1_22) rfl (l' := #[.val (.int p0), .val (.int (8 : Int32))]) rfl k) ?_
      show Goes _ _ _ _ _ _ _ (s₁.setTop (mkF m 23 #[.val (.int p0), .val (.int (8 : Int32))] []))
      refine Goes.go (fun _ k => XS.iloadN X0.here hx rfl (hb hby d1_23) rfl k) ?_
      show Goes _ _ _ _ _ _ _ (s₁.setTop (mkF m 24 _ [(.int (8 : Int32))]))
      exact Goes.outI X0 hx hlk hret (hb hby d1_24) e0 ⟨by simp [rnF, c1, c12], N0, rfl⟩ (by decide) (by decide)
theorem d2_0 : decode prog_66_method_3_code 0 = .ok (.iload_n 0, 1) := by decide +kernel
theorem d2_1 : decode prog_66_method_3_code 1 = .ok (.bipush 64, 2) := by decide +kernel
theorem d2_3 : decode prog_66_method_3_code 3 = .ok (.if_icmp .ge 9, 3) := by decide +kernel
theorem d2_6 : decode prog_66_method_3_code 6 = .ok (.iload_n 1, 1) := by decide +kernel
theorem d2_7 : decode prog_66_method_3_code 7 = .ok (.iload_n 0, 1) := by decide +kernel
theorem d2_8 : decode prog_66_method_3_code 8 = .ok (.imul, 1) := by decide +kernel
theorem d2_9 : decode prog_66_method_3_code 9 = .ok (.goto 13, 3) := by decide +kernel
theorem d2_12 : decode prog_66_method_3_code 12 = .ok (.iload_n 0, 1) := by decide +kernel
theorem d2_13 : decode prog_66_method_3_code 13 = .ok (.i2l, 1) := by decide +kernel
theorem d2_14 : decode prog_66_method_3_code 14 = .ok (.iload_n 1, 1) := by decide +kernel
theorem d2_15 : decode prog_66_method_3_code 15 = .ok (.i2l, 1) := by decide +kernel
theorem d2_16 : decode prog_66_method_3_code 16 = .ok (.lmul, 1) := by decide +kernel
theorem d2_17 : decode prog_66_method_3_code 17 = .ok (.ldc2_w 9, 3) := by decide +kernel
theorem d2_20 : decode prog_66_method_3_code 20 = .ok (.ldiv, 1) := by decide +kernel
theorem d2_21 : decode prog_66_method_3_code 21 = .ok (.l2i, 1) := by decide +kernel
theorem d2_22 : decode prog_66_method_3_code 22 = .ok (.ireturn, 1) := by decide +kernel
theorem ef_rm2 (m : MethodId) (p0 : Int32) (p1 : Int32) : entryFrame m #[(.int p0), (.int p1)] 2 = mkF m 0 #[.val (.int p0), .val (.int p1)] [] := by first | (simp [entryFrame, mkF, argsToLocals, Value.category]; done) | rfl
def Q_rm2 (Z : State) (p0 : Int32) (p1 : Int32) (h0 : Heap) (n0 : Nat) (v : Option Value) (h : Heap) (L : List Loc) : Prop := v = some (.int (rsF p0 p1)) ∧ Fr n0 L ∧ h = h0
set_option maxRecDepth 65536 in
set_option maxHeartbeats 40000000 in
theorem rm2 (l : Launch) (Z : State) (a0 : Array Value) (hw : ∀ d ∈ tables_1, d.before a0 Z = true) (ws : List Jvm.Cond) (p0 : Int32) (p1 : Int32) (h0 : Heap) (n0 : Nat) (Z0 : n0 ≤ h0.size)  :
    MetFree l (⟨"com/example/sievewright/sievewright/TreeLayout", "runStart", "(II)I"⟩ : MethodName) (head1 (Jvm.Cond.code (⟨"com/example/sievewright/sievewright/TreeLayout", "runStart", "(II)I"⟩ : MethodName) prog_66_method_3_code 2 (some .int) :: ws) ({ frames := 0, cells := 0, slots := 0, locals := 0 } : Room)) (fun a U => a = #[(.int p0), (.int p1)] ∧ Z.Warmed39 U.vm ∧ U.heap = h0) (fun _ _ _ _ _ => True) (fun _ U o U' => ∃ v L, o = .returned v ∧ Q_rm2 Z p0 p1 h0 n0 v U'.heap L ∧ FrameEnd U o U' L ({ frames := 0, cells := 0, slots := 0, locals := 0 } : Room).cells ({ frames := 0, cells := 0, slots := 0, locals := 0 } : Room).slots) := by
  refine MetFree.of_bodySF (plainFor_of_name pn0) hisR ?_
  intro p e s m args below meth c s₁ Bd hml0 hP hK
  obtain ⟨rfl, hZ, hh⟩ := hP
  have hx := Bd.exec
  have hby := Bd.bytes
  have hml : c.maxLocals = 2 := hml0
  have hown : s.vm.findClass "com/example/sievewright/sievewright/TreeLayout" = some m.cls := findClass_of_methodNamed Bd.named
  have hnm := (name_of_methodNamed Bd.named Bd.method).1
  have hlk : meth.locks = false := Bd.notSynchronized
  have hret := Bd.returns
  have X0 : Stand p l e ({ frames := 0, cells := 0, slots := 0, locals := 0 } : Room) s m #[(.int p0), (.int p1)] below meth c s₁ [] 0 0 := Stand.of_body Bd
  have e0 : s₁.heap = h0 := by rw [← hh, Bd.state]; rfl
  have N0 := Fr.nil n0
  have K0 : Keep h0 h0 [] := Keep.refl _ _
  show Goes p e below s (Q_rm2 Z p0 p1 h0 n0) ({ frames := 0, cells := 0, slots := 0, locals := 0 } : Room).cells ({ frames := 0, cells := 0, slots := 0, locals := 0 } : Room).slots _
  refine Goes.go (fun t k => castTop (ef_rm2 m p0 p1) k) ?_
  show Goes _ _ _ _ _ _ _ (s₁.setTop (mkF m 0 #[.val (.int p0), .val (.int p1)] []))
  refine Goes.go (fun _ k => XS.iloadN X0.here hx rfl (hb hby d2_0) rfl k) ?_
  show Goes _ _ _ _ _ _ _ (s₁.setTop (mkF m 1 _ [(.int p0)]))
  refine Goes.go (fun _ k => XS.bipush X0.here hx rfl (hb hby d2_1) k) ?_
  show Goes _ _ _ _ _ _ _ (s₁.setTop (mkF m 3 _ [(.int (64 : Int32)), (.int p0)]))
  by_cases c3 : p0 < (64 : Int32)
  · skip
    refine Goes.go (fun _ k => XS.icmpNo X0.here hx rfl (hb hby d2_3) rfl (XT.ii_ge_f c3) k) ?_
    show Goes _ _ _ _ _ _ _ (s₁.setTop (mkF m 6 _ []))
    refine Goes.go (fun _ k => XS.iloadN X0.here hx rfl (hb hby d2_6) rfl k) ?_
    show Goes _ _ _ _ _ _ _ (s₁.setTop (mkF m 7 _ [(.int p1)]))
    refine Goes.go (fun _ k => XS.iloadN X0.here hx rfl (hb hby d2_7) rfl k) ?_
    show Goes _ _ _ _ _ _ _ (s₁.setTop (mkF m 8 _ [(.int p0), (.int p1)]))
    refine Goes.go (fun _ k => XS.imul X0.here hx rfl (hb hby d2_8) rfl k) ?_
    show Goes _ _ _ _ _ _ _ (s₁.setTop (mkF m 9 _ [(.int (p1 * p0))]))
    refine Goes.go (fun _ k => XS.goto X0.here hx rfl (pc0 := 9) (pc' := 22) rfl (hb hby d2_9) (by decide) (by decide) k) ?_
    show Goes _ _ _ _ _ _ _ (s₁.setTop (mkF m 22 _ [(.int (p1 * p0))]))
    exact Goes.outI X0 hx hlk hret (hb hby d2_22) e0 ⟨by rw [rsF_lo c3], N0, rfl⟩ (by decide) (by decide)
  · skip
    refine Goes.go (fun _ k => XS.icmpYes X0.here hx rfl (pc0 := 3) (pc' := 12) rfl (hb hby d2_3) rfl (XT.ii_ge_t c3) (by decide) (by decide) k) ?_
    show Goes _ _ _ _ _ _ _ (s₁.setTop (mkF m 12 _ []))
    refine Goes.go (fun _ k => XS.iloadN X0.here hx rfl (hb hby d2_12) rfl k) ?_
    show Goes _ _ _ _ _ _ _ (s₁.setTop (mkF m 13 _ [(.int p0)]))
    refine Goes.go (fun _ k => XS.i2l X0.here hx rfl (hb hby d2_13) rfl k) ?_
    show Goes _ _ _ _ _ _ _ (s₁.setTop (mkF m 14 _ [(.long (p0).toInt64)]))
    refine Goes.go (fun _ k => XS.iloadN X0.here hx rfl (hb hby d2_14) rfl k) ?_
    show Goes _ _ _ _ _ _ _ (s₁.setTop (mkF m 15 _ [(.int p1), (.long (p0).toInt64)]))
    refine Goes.go (fun _ k => XS.i2l X0.here hx rfl (hb hby d2_15) rfl k) ?_
    show Goes _ _ _ _ _ _ _ (s₁.setTop (mkF m 16 _ [(.long (p1).toInt64), (.long (p0).toInt64)]))
    refine Goes.go (fun _ k => XS.lmul X0.here hx rfl (hb hby d2_16) rfl k) ?_
    show Goes _ _ _ _ _ _ _ (s₁.setTop (mkF m 17 _ [(.long ((p0).toInt64 * (p1).toInt64))]))
    refine Goes.go (fun _ k => X0.ldc2J hx (v := (8 : Int64)) hown (mvT hZ (hw _ (List.mem_of_getElem? (i := 7) rfl))) rfl (hb hby d2_17) k) ?_
    show Goes _ _ _ _ _ _ _ (s₁.setTop (mkF m 20 _ [(.long (8 : Int64)), (.long ((p0).toInt64 * (p1).toInt64))]))
    refine Goes.go (fun _ k => XS.ldiv X0.here hx rfl (hb hby d2_20) rfl (by decide) k) ?_
    show Goes _ _ _ _ _ _ _ (s₁.setTop (mkF m 21 _ [(.long (((p0).toInt64 * (p1).toInt64) / (8 : Int64)))]))
    refine Goes.go (fun _ k => XS.l2i X0.here hx rfl (hb hby d2_21) rfl k) ?_
    show Goes _ _ _ _ _ _ _ (s₁.setTop (mkF m 22 _ [(.int ((((p0).toInt64 * (p1).toInt64) / (8 : Int64))).toInt32)]))
    exact Goes.outI X0 hx hlk hret (hb hby d2_22) e0 ⟨by rw [rsF_hi c3], N0, rfl⟩ (by decide) (by decide)
theorem pd0 : parseMethodDescriptor "(I)I" = some ⟨[.int], (some .int)⟩ := by decide +kernel
theorem pd1 : parseMethodDescriptor "(II)I" = some ⟨[.int, .int], (some .int)⟩ := by decide +kernel
theorem pd2 : parseMethodDescriptor "(II)Z" = some ⟨[.int, .int], (some .boolean)⟩ := by decide +kernel
theorem pn1 : plainName "com/example/sievewright/sievewright/TreeLayoutRunsPinLaw" = true := by first | (simp [plainName, overriddenIn]; done) | decide +kernel
theorem ef_rm0 (m : MethodId) (p0 : Int32) (p1 : Int32) : entryFrame m #[(.int p0), (.int p1)] maxLocals = mkF m 0 #[.val (.int p0), .val (.int p1), .unset, .unset] [] := by first | (simp [entryFrame, mkF, argsToLocals, Value.category, maxLocals]; done) | rfl
def Q_rm0 (Z : State) (p0 : Int32) (p1 : Int32) (h0 : Heap) (n0 : Nat) (v : Option Value) (h : Heap) (L : List Loc) : Prop := v = some (.int 1) ∧ Fr n0 L
set_option maxRecDepth 65536 in
set_option maxHeartbeats 40000000 in
theorem rm0 (l : Launch) (Z : State) (a0 : Array Value) (hw : ∀ d ∈ tables_1, d.before a0 Z = true) (ws : List Jvm.Cond) (p0 : Int32) (p1 : Int32) (h0 : Heap) (n0 : Nat) (Z0 : n0 ≤ h0.size)  :
    MetFree l x (head1 (Jvm.Cond.code x code maxLocals ret :: ws) room_1) (fun a U => a = #[(.int p0), (.int p1)] ∧ Z.Warmed39 U.vm ∧ U.heap = h0) (fun _ _ _ _ _ => True) (fun _ U o U' => ∃ v L, o = .returned v ∧ Q_rm0 Z p0 p1 h0 n0 v U'.heap L ∧ FrameEnd U o U' L room_1.cells room_1.slots) := by
  refine MetFree.of_bodySF (plainFor_of_name pn1) hisR ?_
  intro p e s m args below meth c s₁ Bd hml0 hP hK
  obtain ⟨rfl, hZ, hh⟩ := hP
  have hx := Bd.exec
  have hby := Bd.bytes
  have hml : c.maxLocals = 4 := hml0
  have hown : s.vm.findClass "com/example/sievewright/sievewright/TreeLayoutRunsPinLaw" = some m.cls := findClass_of_methodNamed Bd.named
  have hnm := (name_of_methodNamed Bd.named Bd.method).1
  have hlk : meth.locks = false := Bd.notSynchronized
  have hret := Bd.returns
  have X0 : Stand p l e room_1 s m #[(.int p0), (.int p1)] below meth c s₁ [] 0 0 := Stand.of_body Bd
  have e0 : s₁.heap = h0 := by rw [← hh, Bd.state]; rfl
  have N0 := Fr.nil n0
  have K0 : Keep h0 h0 [] := Keep.refl _ _
  show Goes p e below s (Q_rm0 Z p0 p1 h0 n0) room_1.cells room_1.slots _
  refine Goes.go (fun t k => castTop (ef_rm0 m p0 p1) k) ?_
  show Goes _ _ _ _ _ _ _ (s₁.setTop (mkF m 0 #[.val (.int p0), .val (.int p1), .unset, .unset] []))
  refine Goes.go (fun _ k => XS.iloadN X0.here hx rfl (hb hby at_0) rfl k) ?_
  show Goes _ _ _ _ _ _ _ (s₁.setTop (mkF m 1 _ [(.int p1)]))
  refine Goes.go (fun _ k => XS.iconst X0.here hx rfl (hb hby at_1) k) ?_
  show Goes _ _ _ _ _ _ _ (s₁.setTop (mkF m 2 _ [(.int (1 : Int32)), (.int p1)]))
  refine Goes.go (fun _ k => XS.iand X0.here hx rfl (hb hby at_2) rfl k) ?_
  show Goes _ _ _ _ _ _ _ (s₁.setTop (mkF m 3 _ [(.int (p1 &&& (1 : Int32)))]))
  by_cases c3 : (p1 &&& (1 : Int32)) = 0
  · skip
    refine Goes.go (fun _ k => XS.ifYes X0.here hx rfl (pc0 := 3) (pc' := 13) rfl (hb hby at_3) rfl (XT.i0_eq_t c3) (by decide) (by decide) k) ?_
    show Goes _ _ _ _ _ _ _ (s₁.setTop (mkF m 13 _ []))
    refine Goes.go (fun _ k => XS.iloadN X0.here hx rfl (hb hby at_13) rfl k) ?_
    show Goes _ _ _ _ _ _ _ (s₁.setTop (mkF m 14 _ [(.int p0)]))
    refine Goes.go (fun _ k => X0.ldcI hx (v := (2147483647 : Int32)) hown (mvT hZ (hw _ (List.mem_of_getElem? (i := 8) rfl))) rfl (hb hby at_14) k) ?_
    show Goes _ _ _ _ _ _ _ (s₁.setTop (mkF m 16 _ [(.int (2147483647 : Int32)), (.int p0)]))
    refine Goes.go (fun _ k => XS.iand X0.here hx rfl (hb hby at_16) rfl k) ?_
    show Goes _ _ _ _ _ _ _ (s₁.setTop (mkF m 17 _ [(.int (p0 &&& (2147483647 : Int32)))]))
    generalize hv17 : (p0 &&& (2147483647 : Int32)) = v17
    refine Goes.go (fun _ k => XS.istoreN X0.here hx rfl (hb hby at_17) rfl (l' := #[.val (.int p0), .val (.int p1), .val (.int v17), .unset]) rfl k) ?_
    show Goes _ _ _ _ _ _ _ (s₁.setTop (mkF m 18 #[.val (.int p0), .val (.int p1), .val (.int v17), .unset] []))
    refine Goes.go (fun _ k => XS.iloadN X0.here hx rfl (hb hby at_18) rfl k) ?_
    show Goes _ _ _ _ _ _ _ (s₁.setTop (mkF m 19 _ [(.int v17)]))
    obtain ⟨_, _, ⟨T1, L1, k1, n1⟩, -, X1, ⟨Lc1, hQ1, l1, y1, z1⟩, st1⟩ := Jvm.LawKit.callS X0 hx (y := (⟨"com/example/sievewright/sievewright/TreeLayout", "runs", "(I)I"⟩ : MethodName)) hown (mvT hZ (hw _ (List.mem_of_getElem? (i := 0) rfl))) (mvT hZ (hw _ (List.mem_of_getElem? (i := 1) rfl))) (mvT hZ (hw _ (List.mem_of_getElem? (i := 2) rfl))) (mvT hZ (hw _ (List.mem_of_getElem? (i := 3) rfl))) (by decide) (backOf (W := 0) (rm1 l Z a0 hw [] v17 h0 n0 Z0) hZ (hw _ (List.mem_of_getElem? (i := 3) rfl)) (hw _ (List.mem_of_getElem? (i := 2) rfl)) (by decide) (by decide)) (g := (mkF m 19 #[.val (.int p0), .val (.int p1), .val (.int v17), .unset] [(.int v17)])) rfl (by rw [hml]; rfl) (argsL := [(.int v17)]) (rest := []) (lenOf pd0 rfl) rfl (by show 2 * 0 + _ ≤ _; exact Nat.le_of_eq rfl) (hb hby at_19) (fun _ _ => ⟨rfl, e0, (by decide : 0 + 0 ≤ _), (by decide : 0 + 0 ≤ _)⟩)
    dsimp only [Pt.U, Pt.locs, Pt.cells, Pt.slots] at X1 l1 y1 z1 st1 hQ1
    subst l1 y1 z1
    obtain ⟨rfl, Nq1, hh1⟩ := hQ1
    have N1 := Fr.app N0 Nq1
    refine Goes.go (st1) ?_
    show Goes _ _ _ _ _ _ _ (T1.setTop (mkF m 22 _ [(.int (rnF v17))]))
    generalize hv22 : (rnF v17) = v22
    refine Goes.go (fun _ k => XS.istoreN X1.here hx rfl (hb hby at_22) rfl (l' := #[.val (.int p0), .val (.int p1), .val (.int v17), .val (.int v22)]) rfl k) ?_
    show Goes _ _ _ _ _ _ _ (T1.setTop (mkF m 23 #[.val (.int p0), .val (.int p1), .val (.int v17), .val (.int v22)] []))
    rcases rnF_cases v17 with ⟨q1, q2⟩ | ⟨q1, q3, q2⟩ | ⟨q1, q3, q2⟩
    · skip
      rw [q2] at hv22; subst hv22
      show Goes _ _ _ _ _ _ _ (T1.setTop (mkF m 23 #[.val (.int p0), .val (.int p1), .val (.int v17), .val (.int (0 : Int32))] []))
      refine Goes.go (fun _ k => XS.iloadN X1.here hx rfl (hb hby at_23) rfl k) ?_
      show Goes _ _ _ _ _ _ _ (T1.setTop (mkF m 24 _ [(.int (0 : Int32))]))
      refine Goes.go (fun _ k => XS.ifNo X1.here hx rfl (hb hby at_24) rfl (XT.i0_lt_f (by decide)) k) ?_
      show Goes _ _ _ _ _ _ _ (T1.setTop (mkF m 27 _ []))
      refine Goes.go (fun _ k => XS.iloadN X1.here hx rfl (hb hby at_27) rfl k) ?_
      show Goes _ _ _ _ _ _ _ (T1.setTop (mkF m 28 _ [(.int (0 : Int32))]))
      refine Goes.go (fun _ k => XS.bipush X1.here hx rfl (hb hby at_28) k) ?_
      show Goes _ _ _ _ _ _ _ (T1.setTop (mkF m 30 _ [(.int (8 : Int32)), (.int (0 : Int32))]))
      refine Goes.go (fun _ k => XS.icmpYes X1.here hx rfl (pc0 := 30) (pc' := 35) rfl (hb hby at_30) rfl (XT.ii_le_t (by decide)) (by decide) (by decide) k) ?_
      show Goes _ _ _ _ _ _ _ (T1.setTop (mkF m 35 _ []))
      refine Goes.go (fun _ k => XS.iloadN X1.here hx rfl (hb hby at_35) rfl k) ?_
      show Goes _ _ _ _ _ _ _ (T1.setTop (mkF m 36 _ [(.int (0 : Int32))]))
      refine Goes.go (fun _ k => XS.ifNo X1.here hx rfl (hb hby at_36) rfl (XT.i0_ne_f (by decide)) k) ?_
      show Goes _ _ _ _ _ _ _ (T1.setTop (mkF m 39 _ []))
      refine Goes.go (fun _ k => XS.iconst X1.here hx rfl (hb hby at_39) k) ?_
      show Goes _ _ _ _ _ _ _ (T1.setTop (mkF m 40 _ [(.int (1 : Int32))]))
      refine Goes.go (fun _ k => XS.goto X1.here hx rfl (pc0 := 40) (pc' := 44) rfl (hb hby at_40) (by decide) (by decide) k) ?_
      show Goes _ _ _ _ _ _ _ (T1.setTop (mkF m 44 _ [(.int (1 : Int32))]))
      refine Goes.go (fun _ k => XS.iloadN X1.here hx rfl (hb hby at_44) rfl k) ?_
      show Goes _ _ _ _ _ _ _ (T1.setTop (mkF m 45 _ [(.int v17), (.int (1 : Int32))]))
      refine Goes.go (fun _ k => XS.ifNo X1.here hx rfl (hb hby at_45) rfl (XT.i0_ne_f q1) k) ?_
      show Goes _ _ _ _ _ _ _ (T1.setTop (mkF m 48 _ [(.int (1 : Int32))]))
      refine Goes.go (fun _ k => XS.iconst X1.here hx rfl (hb hby at_48) k) ?_
      show Goes _ _ _ _ _ _ _ (T1.setTop (mkF m 49 _ [(.int (1 : Int32)), (.int (1 : Int32))]))
      refine Goes.go (fun _ k => XS.goto X1.here hx rfl (pc0 := 49) (pc' := 53) rfl (hb hby at_49) (by decide) (by decide) k) ?_
      show Goes _ _ _ _ _ _ _ (T1.setTop (mkF m 53 _ [(.int (1 : Int32)), (.int (1 : Int32))]))
      refine Goes.go (fun _ k => XS.icmpYes X1.here hx rfl (pc0 := 53) (pc' := 58) rfl (hb hby at_53) rfl (XT.ii_eq_t (by decide)) (by decide) (by decide) k) ?_
      show Goes _ _ _ _ _ _ _ (T1.setTop (mkF m 58 _ []))
      refine Goes.go (fun _ k => XS.iloadN X1.here hx rfl (hb hby at_58) rfl k) ?_
      show Goes _ _ _ _ _ _ _ (T1.setTop (mkF m 59 _ [(.int v17)]))
      refine Goes.go (fun _ k => XS.iloadN X1.here hx rfl (hb hby at_59) rfl k) ?_
      show Goes _ _ _ _ _ _ _ (T1.setTop (mkF m 60 _ [(.int (0 : Int32)), (.int v17)]))
      obtain ⟨_, _, ⟨T2, L2, k2, n2⟩, -, X2, ⟨Lc2, hQ2, l2, y2, z2⟩, st2⟩ := Jvm.LawKit.callS X1 hx (y := (⟨"com/example/sievewright/sievewright/TreeLayout", "runStart", "(II)I"⟩ : MethodName)) hown (mvT hZ (hw _ (List.mem_of_getElem? (i := 4) rfl))) (mvT hZ (hw _ (List.mem_of_getElem? (i := 5) rfl))) (mvT hZ (hw _ (List.mem_of_getElem? (i := 2) rfl))) (mvT hZ (hw _ (List.mem_of_getElem? (i := 6) rfl))) (by decide) (backOf (W := 0) (rm2 l Z a0 hw [] v17 (0 : Int32) h0 n0 Z0) hZ (hw _ (List.mem_of_getElem? (i := 6) rfl)) (hw _ (List.mem_of_getElem? (i := 2) rfl)) (by decide) (by decide)) (g := (mkF m 60 #[.val (.int p0), .val (.int p1), .val (.int v17), .val (.int (0 : Int32))] [(.int (0 : Int32)), (.int v17)])) rfl (by rw [hml]; rfl) (argsL := [(.int v17), (.int (0 : Int32))]) (rest := []) (lenOf pd1 rfl) rfl (by show 2 * 0 + _ ≤ _; exact Nat.le_of_eq rfl) (hb hby at_60) (fun _ _ => ⟨rfl, hh1, (by decide : 0 + 0 ≤ _), (by decide : 0 + 0 ≤ _)⟩)
      dsimp only [Pt.U, Pt.locs, Pt.cells, Pt.slots] at X2 l2 y2 z2 st2 hQ2
      subst l2 y2 z2
      obtain ⟨rfl, Nq2, hh2⟩ := hQ2
      have N2 := Fr.app N1 Nq2
      refine Goes.go (st2) ?_
      show Goes _ _ _ _ _ _ _ (T2.setTop (mkF m 63 _ [(.int (rsF v17 (0 : Int32)))]))
      refine Goes.go (fun _ k => XS.iloadN X2.here hx rfl (hb hby at_63) rfl k) ?_
      show Goes _ _ _ _ _ _ _ (T2.setTop (mkF m 64 _ [(.int v17), (.int (rsF v17 (0 : Int32)))]))
      refine Goes.go (fun _ k => XS.icmpNo X2.here hx rfl (hb hby at_64) rfl (XT.ii_ne_f (own_z q1)) k) ?_
      show Goes _ _ _ _ _ _ _ (T2.setTop (mkF m 67 _ []))
      refine Goes.go (fun _ k => XS.iconst X2.here hx rfl (hb hby at_67) k) ?_
      show Goes _ _ _ _ _ _ _ (T2.setTop (mkF m 68 _ [(.int (1 : Int32))]))
      refine Goes.go (fun _ k => XS.goto X2.here hx rfl (pc0 := 68) (pc' := 72) rfl (hb hby at_68) (by decide) (by decide) k) ?_
      show Goes _ _ _ _ _ _ _ (T2.setTop (mkF m 72 _ [(.int (1 : Int32))]))
      exact Goes.outZ X2 hx hlk hret rfl (hb hby at_72) hh2 ⟨rfl, N2⟩ (by decide) (by decide)
    · skip
      rw [q2] at hv22; subst hv22
      show Goes _ _ _ _ _ _ _ (T1.setTop (mkF m 23 #[.val (.int p0), .val (.int p1), .val (.int v17), .val (.int (1 : Int32))] []))
      refine Goes.go (fun _ k => XS.iloadN X1.here hx rfl (hb hby at_23) rfl k) ?_
      show Goes _ _ _ _ _ _ _ (T1.setTop (mkF m 24 _ [(.int (1 : Int32))]))
      refine Goes.go (fun _ k => XS.ifNo X1.here hx rfl (hb hby at_24) rfl (XT.i0_lt_f (by decide)) k) ?_
      show Goes _ _ _ _ _ _ _ (T1.setTop (mkF m 27 _ []))
      refine Goes.go (fun _ k => XS.iloadN X1.here hx rfl (hb hby at_27) rfl k) ?_
      show Goes _ _ _ _ _ _ _ (T1.setTop (mkF m 28 _ [(.int (1 : Int32))]))
      refine Goes.go (fun _ k => XS.bipush X1.here hx rfl (hb hby at_28) k) ?_
      show Goes _ _ _ _ _ _ _ (T1.setTop (mkF m 30 _ [(.int (8 : Int32)), (.int (1 : Int32))]))
      refine Goes.go (fun _ k => XS.icmpYes X1.here hx rfl (pc0 := 30) (pc' := 35) rfl (hb hby at_30) rfl (XT.ii_le_t (by decide)) (by decide) (by decide) k) ?_
      show Goes _ _ _ _ _ _ _ (T1.setTop (mkF m 35 _ []))
      refine Goes.go (fun _ k => XS.iloadN X1.here hx rfl (hb hby at_35) rfl k) ?_
      show Goes _ _ _ _ _ _ _ (T1.setTop (mkF m 36 _ [(.int (1 : Int32))]))
      refine Goes.go (fun _ k => XS.ifYes X1.here hx rfl (pc0 := 36) (pc' := 43) rfl (hb hby at_36) rfl (XT.i0_ne_t (by decide)) (by decide) (by decide) k) ?_
      show Goes _ _ _ _ _ _ _ (T1.setTop (mkF m 43 _ []))
      refine Goes.go (fun _ k => XS.iconst X1.here hx rfl (hb hby at_43) k) ?_
      show Goes _ _ _ _ _ _ _ (T1.setTop (mkF m 44 _ [(.int (0 : Int32))]))
      refine Goes.go (fun _ k => XS.iloadN X1.here hx rfl (hb hby at_44) rfl k) ?_
      show Goes _ _ _ _ _ _ _ (T1.setTop (mkF m 45 _ [(.int v17), (.int (0 : Int32))]))
      refine Goes.go (fun _ k => XS.ifYes X1.here hx rfl (pc0 := 45) (pc' := 52) rfl (hb hby at_45) rfl (XT.i0_ne_t q1) (by decide) (by decide) k) ?_
      show Goes _ _ _ _ _ _ _ (T1.setTop (mkF m 52 _ [(.int (0 : Int32))]))
      refine Goes.go (fun _ k => XS.iconst X1.here hx rfl (hb hby at_52) k) ?_
      show Goes _ _ _ _ _ _ _ (T1.setTop (mkF m 53 _ [(.int (0 : Int32)), (.int (0 : Int32))]))
      refine Goes.go (fun _ k => XS.icmpYes X1.here hx rfl (pc0 := 53) (pc' := 58) rfl (hb hby at_53) rfl (XT.ii_eq_t (by decide)) (by decide) (by decide) k) ?_
      show Goes _ _ _ _ _ _ _ (T1.setTop (mkF m 58 _ []))
      refine Goes.go (fun _ k => XS.iloadN X1.here hx rfl (hb hby at_58) rfl k) ?_
      show Goes _ _ _ _ _ _ _ (T1.setTop (mkF m 59 _ [(.int v17)]))
      refine Goes.go (fun _ k => XS.iloadN X1.here hx rfl (hb hby at_59) rfl k) ?_
      show Goes _ _ _ _ _ _ _ (T1.setTop (mkF m 60 _ [(.int (1 : Int32)), (.int v17)]))
      obtain ⟨_, _, ⟨T2, L2, k2, n2⟩, -, X2, ⟨Lc2, hQ2, l2, y2, z2⟩, st2⟩ := Jvm.LawKit.callS X1 hx (y := (⟨"com/example/sievewright/sievewright/TreeLayout", "runStart", "(II)I"⟩ : MethodName)) hown (mvT hZ (hw _ (List.mem_of_getElem? (i := 4) rfl))) (mvT hZ (hw _ (List.mem_of_getElem? (i := 5) rfl))) (mvT hZ (hw _ (List.mem_of_getElem? (i := 2) rfl))) (mvT hZ (hw _ (List.mem_of_getElem? (i := 6) rfl))) (by decide) (backOf (W := 0) (rm2 l Z a0 hw [] v17 (1 : Int32) h0 n0 Z0) hZ (hw _ (List.mem_of_getElem? (i := 6) rfl)) (hw _ (List.mem_of_getElem? (i := 2) rfl)) (by decide) (by decide)) (g := (mkF m 60 #[.val (.int p0), .val (.int p1), .val (.int v17), .val (.int (1 : Int32))] [(.int (1 : Int32)), (.int v17)])) rfl (by rw [hml]; rfl) (argsL := [(.int v17), (.int (1 : Int32))]) (rest := []) (lenOf pd1 rfl) rfl (by show 2 * 0 + _ ≤ _; exact Nat.le_of_eq rfl) (hb hby at_60) (fun _ _ => ⟨rfl, hh1, (by decide : 0 + 0 ≤ _), (by decide : 0 + 0 ≤ _)⟩)
      dsimp only [Pt.U, Pt.locs, Pt.cells, Pt.slots] at X2 l2 y2 z2 st2 hQ2
      subst l2 y2 z2
      obtain ⟨rfl, Nq2, hh2⟩ := hQ2
      have N2 := Fr.app N1 Nq2
      refine Goes.go (st2) ?_
      show Goes _ _ _ _ _ _ _ (T2.setTop (mkF m 63 _ [(.int (rsF v17 (1 : Int32)))]))
      refine Goes.go (fun _ k => XS.iloadN X2.here hx rfl (hb hby at_63) rfl k) ?_
      show Goes _ _ _ _ _ _ _ (T2.setTop (mkF m 64 _ [(.int v17), (.int (rsF v17 (1 : Int32)))]))
      refine Goes.go (fun _ k => XS.icmpNo X2.here hx rfl (hb hby at_64) rfl (XT.ii_ne_f (own_1 q3)) k) ?_
      show Goes _ _ _ _ _ _ _ (T2.setTop (mkF m 67 _ []))
      refine Goes.go (fun _ k => XS.iconst X2.here hx rfl (hb hby at_67) k) ?_
      show Goes _ _ _ _ _ _ _ (T2.setTop (mkF m 68 _ [(.int (1 : Int32))]))
      refine Goes.go (fun _ k => XS.goto X2.here hx rfl (pc0 := 68) (pc' := 72) rfl (hb hby at_68) (by decide) (by decide) k) ?_
      show Goes _ _ _ _ _ _ _ (T2.setTop (mkF m 72 _ [(.int (1 : Int32))]))
      exact Goes.outZ X2 hx hlk hret rfl (hb hby at_72) hh2 ⟨rfl, N2⟩ (by decide) (by decide)
    · skip
      rw [q2] at hv22; subst hv22
      show Goes _ _ _ _ _ _ _ (T1.setTop (mkF m 23 #[.val (.int p0), .val (.int p1), .val (.int v17), .val (.int (8 : Int32))] []))
      refine Goes.go (fun _ k => XS.iloadN X1.here hx rfl (hb hby at_23) rfl k) ?_
      show Goes _ _ _ _ _ _ _ (T1.setTop (mkF m 24 _ [(.int (8 : Int32))]))
      refine Goes.go (fun _ k => XS.ifNo X1.here hx rfl (hb hby at_24) rfl (XT.i0_lt_f (by decide)) k) ?_
      show Goes _ _ _ _ _ _ _ (T1.setTop (mkF m 27 _ []))
      refine Goes.go (fun _ k => XS.iloadN X1.here hx rfl (hb hby at_27) rfl k) ?_
      show Goes _ _ _ _ _ _ _ (T1.setTop (mkF m 28 _ [(.int (8 : Int32))]))
      refine Goes.go (fun _ k => XS.bipush X1.here hx rfl (hb hby at_28) k) ?_
      show Goes _ _ _ _ _ _ _ (T1.setTop (mkF m 30 _ [(.int (8 : Int32)), (.int (8 : Int32))]))
      refine Goes.go (fun _ k => XS.icmpYes X1.here hx rfl (pc0 := 30) (pc' := 35) rfl (hb hby at_30) rfl (XT.ii_le_t (by decide)) (by decide) (by decide) k) ?_
      show Goes _ _ _ _ _ _ _ (T1.setTop (mkF m 35 _ []))
      refine Goes.go (fun _ k => XS.iloadN X1.here hx rfl (hb hby at_35) rfl k) ?_
      show Goes _ _ _ _ _ _ _ (T1.setTop (mkF m 36 _ [(.int (8 : Int32))]))
      refine Goes.go (fun _ k => XS.ifYes X1.here hx rfl (pc0 := 36) (pc' := 43) rfl (hb hby at_36) rfl (XT.i0_ne_t (by decide)) (by decide) (by decide) k) ?_
      show Goes _ _ _ _ _ _ _ (T1.setTop (mkF m 43 _ []))
      refine Goes.go (fun _ k => XS.iconst X1.here hx rfl (hb hby at_43) k) ?_
      show Goes _ _ _ _ _ _ _ (T1.setTop (mkF m 44 _ [(.int (0 : Int32))]))
      refine Goes.go (fun _ k => XS.iloadN X1.here hx rfl (hb hby at_44) rfl k) ?_
      show Goes _ _ _ _ _ _ _ (T1.setTop (mkF m 45 _ [(.int v17), (.int (0 : Int32))]))
      refine Goes.go (fun _ k => XS.ifYes X1.here hx rfl (pc0 := 45) (pc' := 52) rfl (hb hby at_45) rfl (XT.i0_ne_t q1) (by decide) (by decide) k) ?_
      show Goes _ _ _ _ _ _ _ (T1.setTop (mkF m 52 _ [(.int (0 : Int32))]))
      refine Goes.go (fun _ k => XS.iconst X1.here hx rfl (hb hby at_52) k) ?_
      show Goes _ _ _ _ _ _ _ (T1.setTop (mkF m 53 _ [(.int (0 : Int32)), (.int (0 : Int32))]))
      refine Goes.go (fun _ k => XS.icmpYes X1.here hx rfl (pc0 := 53) (pc' := 58) rfl (hb hby at_53) rfl (XT.ii_eq_t (by decide)) (by decide) (by decide) k) ?_
      show Goes _ _ _ _ _ _ _ (T1.setTop (mkF m 58 _ []))
      refine Goes.go (fun _ k => XS.iloadN X1.here hx rfl (hb hby at_58) rfl k) ?_
      show Goes _ _ _ _ _ _ _ (T1.setTop (mkF m 59 _ [(.int v17)]))
      refine Goes.go (fun _ k => XS.iloadN X1.here hx rfl (hb hby at_59) rfl k) ?_
      show Goes _ _ _ _ _ _ _ (T1.setTop (mkF m 60 _ [(.int (8 : Int32)), (.int v17)]))
      obtain ⟨_, _, ⟨T2, L2, k2, n2⟩, -, X2, ⟨Lc2, hQ2, l2, y2, z2⟩, st2⟩ := Jvm.LawKit.callS X1 hx (y := (⟨"com/example/sievewright/sievewright/TreeLayout", "runStart", "(II)I"⟩ : MethodName)) hown (mvT hZ (hw _ (List.mem_of_getElem? (i := 4) rfl))) (mvT hZ (hw _ (List.mem_of_getElem? (i := 5) rfl))) (mvT hZ (hw _ (List.mem_of_getElem? (i := 2) rfl))) (mvT hZ (hw _ (List.mem_of_getElem? (i := 6) rfl))) (by decide) (backOf (W := 0) (rm2 l Z a0 hw [] v17 (8 : Int32) h0 n0 Z0) hZ (hw _ (List.mem_of_getElem? (i := 6) rfl)) (hw _ (List.mem_of_getElem? (i := 2) rfl)) (by decide) (by decide)) (g := (mkF m 60 #[.val (.int p0), .val (.int p1), .val (.int v17), .val (.int (8 : Int32))] [(.int (8 : Int32)), (.int v17)])) rfl (by rw [hml]; rfl) (argsL := [(.int v17), (.int (8 : Int32))]) (rest := []) (lenOf pd1 rfl) rfl (by show 2 * 0 + _ ≤ _; exact Nat.le_of_eq rfl) (hb hby at_60) (fun _ _ => ⟨rfl, hh1, (by decide : 0 + 0 ≤ _), (by decide : 0 + 0 ≤ _)⟩)
      dsimp only [Pt.U, Pt.locs, Pt.cells, Pt.slots] at X2 l2 y2 z2 st2 hQ2
      subst l2 y2 z2
      obtain ⟨rfl, Nq2, hh2⟩ := hQ2
      have N2 := Fr.app N1 Nq2
      refine Goes.go (st2) ?_
      show Goes _ _ _ _ _ _ _ (T2.setTop (mkF m 63 _ [(.int (rsF v17 (8 : Int32)))]))
      refine Goes.go (fun _ k => XS.iloadN X2.here hx rfl (hb hby at_63) rfl k) ?_
      show Goes _ _ _ _ _ _ _ (T2.setTop (mkF m 64 _ [(.int v17), (.int (rsF v17 (8 : Int32)))]))
      refine Goes.go (fun _ k => XS.icmpNo X2.here hx rfl (hb hby at_64) rfl (XT.ii_ne_f (own_8 q3)) k) ?_
      show Goes _ _ _ _ _ _ _ (T2.setTop (mkF m 67 _ []))
      refine Goes.go (fun _ k => XS.iconst X2.here hx rfl (hb hby at_67) k) ?_
      show Goes _ _ _ _ _ _ _ (T2.setTop (mkF m 68 _ [(.int (1 : Int32))]))
      refine Goes.go (fun _ k => XS.goto X2.here hx rfl (pc0 := 68) (pc' := 72) rfl (hb hby at_68) (by decide) (by decide) k) ?_
      show Goes _ _ _ _ _ _ _ (T2.setTop (mkF m 72 _ [(.int (1 : Int32))]))
      exact Goes.outZ X2 hx hlk hret rfl (hb hby at_72) hh2 ⟨rfl, N2⟩ (by decide) (by decide)
  · skip
    refine Goes.go (fun _ k => XS.ifNo X0.here hx rfl (hb hby at_3) rfl (XT.i0_eq_f c3) k) ?_
    show Goes _ _ _ _ _ _ _ (s₁.setTop (mkF m 6 _ []))
    refine Goes.go (fun _ k => XS.iloadN X0.here hx rfl (hb hby at_6) rfl k) ?_
    show Goes _ _ _ _ _ _ _ (s₁.setTop (mkF m 7 _ [(.int p0)]))
    refine Goes.go (fun _ k => XS.bipush X0.here hx rfl (hb hby at_7) k) ?_
    show Goes _ _ _ _ _ _ _ (s₁.setTop (mkF m 9 _ [(.int (127 : Int32)), (.int p0)]))
    refine Goes.go (fun _ k => XS.iand X0.here hx rfl (hb hby at_9) rfl k) ?_
    show Goes _ _ _ _ _ _ _ (s₁.setTop (mkF m 10 _ [(.int (p0 &&& (127 : Int32)))]))
    refine Goes.go (fun _ k => XS.goto X0.here hx rfl (pc0 := 10) (pc' := 17) rfl (hb hby at_10) (by decide) (by decide) k) ?_
    show Goes _ _ _ _ _ _ _ (s₁.setTop (mkF m 17 _ [(.int (p0 &&& (127 : Int32)))]))
    generalize hv17 : (p0 &&& (127 : Int32)) = v17
    refine Goes.go (fun _ k => XS.istoreN X0.here hx rfl (hb hby at_17) rfl (l' := #[.val (.int p0), .val (.int p1), .val (.int v17), .unset]) rfl k) ?_
    show Goes _ _ _ _ _ _ _ (s₁.setTop (mkF m 18 #[.val (.int p0), .val (.int p1), .val (.int v17), .unset] []))
    refine Goes.go (fun _ k => XS.iloadN X0.here hx rfl (hb hby at_18) rfl k) ?_
    show Goes _ _ _ _ _ _ _ (s₁.setTop (mkF m 19 _ [(.int v17)]))
    obtain ⟨_, _, ⟨T1, L1, k1, n1⟩, -, X1, ⟨Lc1, hQ1, l1, y1, z1⟩, st1⟩ := Jvm.LawKit.callS X0 hx (y := (⟨"com/example/sievewright/sievewright/TreeLayout", "runs", "(I)I"⟩ : MethodName)) hown (mvT hZ (hw _ (List.mem_of_getElem? (i := 0) rfl))) (mvT hZ (hw _ (List.mem_of_getElem? (i := 1) rfl))) (mvT hZ (hw _ (List.mem_of_getElem? (i := 2) rfl))) (mvT hZ (hw _ (List.mem_of_getElem? (i := 3) rfl))) (by decide) (backOf (W := 0) (rm1 l Z a0 hw [] v17 h0 n0 Z0) hZ (hw _ (List.mem_of_getElem? (i := 3) rfl)) (hw _ (List.mem_of_getElem? (i := 2) rfl)) (by decide) (by decide)) (g := (mkF m 19 #[.val (.int p0), .val (.int p1), .val (.int v17), .unset] [(.int v17)])) rfl (by rw [hml]; rfl) (argsL := [(.int v17)]) (rest := []) (lenOf pd0 rfl) rfl (by show 2 * 0 + _ ≤ _; exact Nat.le_of_eq rfl) (hb hby at_19) (fun _ _ => ⟨rfl, e0, (by decide : 0 + 0 ≤ _), (by decide : 0 + 0 ≤ _)⟩)
    dsimp only [Pt.U, Pt.locs, Pt.cells, Pt.slots] at X1 l1 y1 z1 st1 hQ1
    subst l1 y1 z1
    obtain ⟨rfl, Nq1, hh1⟩ := hQ1
    have N1 := Fr.app N0 Nq1
    refine Goes.go (st1) ?_
    show Goes _ _ _ _ _ _ _ (T1.setTop (mkF m 22 _ [(.int (rnF v17))]))
    generalize hv22 : (rnF v17) = v22
    refine Goes.go (fun _ k => XS.istoreN X1.here hx rfl (hb hby at_22) rfl (l' := #[.val (.int p0), .val (.int p1), .val (.int v17), .val (.int v22)]) rfl k) ?_
    show Goes _ _ _ _ _ _ _ (T1.setTop (mkF m 23 #[.val (.int p0), .val (.int p1), .val (.int v17), .val (.int v22)] []))
    rcases rnF_cases v17 with ⟨q1, q2⟩ | ⟨q1, q3, q2⟩ | ⟨q1, q3, q2⟩
    · skip
      rw [q2] at hv22; subst hv22
      show Goes _ _ _ _ _ _ _ (T1.setTop (mkF m 23 #[.val (.int p0), .val (.int p1), .val (.int v17), .val (.int (0 : Int32))] []))
      refine Goes.go (fun _ k => XS.iloadN X1.here hx rfl (hb hby at_23) rfl k) ?_
      show Goes _ _ _ _ _ _ _ (T1.setTop (mkF m 24 _ [(.int (0 : Int32))]))
      refine Goes.go (fun _ k => XS.ifNo X1.here hx rfl (hb hby at_24) rfl (XT.i0_lt_f (by decide)) k) ?_
      show Goes _ _ _ _ _ _ _ (T1.setTop (mkF m 27 _ []))
      refine Goes.go (fun _ k => XS.iloadN X1.here hx rfl (hb hby at_27) rfl k) ?_
      show Goes _ _ _ _ _ _ _ (T1.setTop (mkF m 28 _ [(.int (0 : Int32))]))
      refine Goes.go (fun _ k => XS.bipush X1.here hx rfl (hb hby at_28) k) ?_
      show Goes _ _ _ _ _ _ _ (T1.setTop (mkF m 30 _ [(.int (8 : Int32)), (.int (0 : Int32))]))
      refine Goes.go (fun _ k => XS.icmpYes X1.here hx rfl (pc0 := 30) (pc' := 35) rfl (hb hby at_30) rfl (XT.ii_le_t (by decide)) (by decide) (by decide) k) ?_
      show Goes _ _ _ _ _ _ _ (T1.setTop (mkF m 35 _ []))
      refine Goes.go (fun _ k => XS.iloadN X1.here hx rfl (hb hby at_35) rfl k) ?_
      show Goes _ _ _ _ _ _ _ (T1.setTop (mkF m 36 _ [(.int (0 : Int32))]))
      refine Goes.go (fun _ k => XS.ifNo X1.here hx rfl (hb hby at_36) rfl (XT.i0_ne_f (by decide)) k) ?_
      show Goes _ _ _ _ _ _ _ (T1.setTop (mkF m 39 _ []))
      refine Goes.go (fun _ k => XS.iconst X1.here hx rfl (hb hby at_39) k) ?_
      show Goes _ _ _ _ _ _ _ (T1.setTop (mkF m 40 _ [(.int (1 : Int32))]))
      refine Goes.go (fun _ k => XS.goto X1.here hx rfl (pc0 := 40) (pc' := 44) rfl (hb hby at_40) (by decide) (by decide) k) ?_
      show Goes _ _ _ _ _ _ _ (T1.setTop (mkF m 44 _ [(.int (1 : Int32))]))
      refine Goes.go (fun _ k => XS.iloadN X1.here hx rfl (hb hby at_44) rfl k) ?_
      show Goes _ _ _ _ _ _ _ (T1.setTop (mkF m 45 _ [(.int v17), (.int (1 : Int32))]))
      refine Goes.go (fun _ k => XS.ifNo X1.here hx rfl (hb hby at_45) rfl (XT.i0_ne_f q1) k) ?_
      show Goes _ _ _ _ _ _ _ (T1.setTop (mkF m 48 _ [(.int (1 : Int32))]))
      refine Goes.go (fun _ k => XS.iconst X1.here hx rfl (hb hby at_48) k) ?_
      show Goes _ _ _ _ _ _ _ (T1.setTop (mkF m 49 _ [(.int (1 : Int32)), (.int (1 : Int32))]))
      refine Goes.go (fun _ k => XS.goto X1.here hx rfl (pc0 := 49) (pc' := 53) rfl (hb hby at_49) (by decide) (by decide) k) ?_
      show Goes _ _ _ _ _ _ _ (T1.setTop (mkF m 53 _ [(.int (1 : Int32)), (.int (1 : Int32))]))
      refine Goes.go (fun _ k => XS.icmpYes X1.here hx rfl (pc0 := 53) (pc' := 58) rfl (hb hby at_53) rfl (XT.ii_eq_t (by decide)) (by decide) (by decide) k) ?_
      show Goes _ _ _ _ _ _ _ (T1.setTop (mkF m 58 _ []))
      refine Goes.go (fun _ k => XS.iloadN X1.here hx rfl (hb hby at_58) rfl k) ?_
      show Goes _ _ _ _ _ _ _ (T1.setTop (mkF m 59 _ [(.int v17)]))
      refine Goes.go (fun _ k => XS.iloadN X1.here hx rfl (hb hby at_59) rfl k) ?_
      show Goes _ _ _ _ _ _ _ (T1.setTop (mkF m 60 _ [(.int (0 : Int32)), (.int v17)]))
      obtain ⟨_, _, ⟨T2, L2, k2, n2⟩, -, X2, ⟨Lc2, hQ2, l2, y2, z2⟩, st2⟩ := Jvm.LawKit.callS X1 hx (y := (⟨"com/example/sievewright/sievewright/TreeLayout", "runStart", "(II)I"⟩ : MethodName)) hown (mvT hZ (hw _ (List.mem_of_getElem? (i := 4) rfl))) (mvT hZ (hw _ (List.mem_of_getElem? (i := 5) rfl))) (mvT hZ (hw _ (List.mem_of_getElem? (i := 2) rfl))) (mvT hZ (hw _ (List.mem_of_getElem? (i := 6) rfl))) (by decide) (backOf (W := 0) (rm2 l Z a0 hw [] v17 (0 : Int32) h0 n0 Z0) hZ (hw _ (List.mem_of_getElem? (i := 6) rfl)) (hw _ (List.mem_of_getElem? (i := 2) rfl)) (by decide) (by decide)) (g := (mkF m 60 #[.val (.int p0), .val (.int p1), .val (.int v17), .val (.int (0 : Int32))] [(.int (0 : Int32)), (.int v17)])) rfl (by rw [hml]; rfl) (argsL := [(.int v17), (.int (0 : Int32))]) (rest := []) (lenOf pd1 rfl) rfl (by show 2 * 0 + _ ≤ _; exact Nat.le_of_eq rfl) (hb hby at_60) (fun _ _ => ⟨rfl, hh1, (by decide : 0 + 0 ≤ _), (by decide : 0 + 0 ≤ _)⟩)
      dsimp only [Pt.U, Pt.locs, Pt.cells, Pt.slots] at X2 l2 y2 z2 st2 hQ2
      subst l2 y2 z2
      obtain ⟨rfl, Nq2, hh2⟩ := hQ2
      have N2 := Fr.app N1 Nq2
      refine Goes.go (st2) ?_
      show Goes _ _ _ _ _ _ _ (T2.setTop (mkF m 63 _ [(.int (rsF v17 (0 : Int32)))]))
      refine Goes.go (fun _ k => XS.iloadN X2.here hx rfl (hb hby at_63) rfl k) ?_
      show Goes _ _ _ _ _ _ _ (T2.setTop (mkF m 64 _ [(.int v17), (.int (rsF v17 (0 : Int32)))]))
      refine Goes.go (fun _ k => XS.icmpNo X2.here hx rfl (hb hby at_64) rfl (XT.ii_ne_f (own_z q1)) k) ?_
      show Goes _ _ _ _ _ _ _ (T2.setTop (mkF m 67 _ []))
      refine Goes.go (fun _ k => XS.iconst X2.here hx rfl (hb hby at_67) k) ?_
      show Goes _ _ _ _ _ _ _ (T2.setTop (mkF m 68 _ [(.int (1 : Int32))]))
      refine Goes.go (fun _ k => XS.goto X2.here hx rfl (pc0 := 68) (pc' := 72) rfl (hb hby at_68) (by decide) (by decide) k) ?_
      show Goes _ _ _ _ _ _ _ (T2.setTop (mkF m 72 _ [(.int (1 : Int32))]))
      exact Goes.outZ X2 hx hlk hret rfl (hb hby at_72) hh2 ⟨rfl, N2⟩ (by decide) (by decide)
    · skip
      rw [q2] at hv22; subst hv22
      show Goes _ _ _ _ _ _ _ (T1.setTop (mkF m 23 #[.val (.int p0), .val (.int p1), .val (.int v17), .val (.int (1 : Int32))] []))
      refine Goes.go (fun _ k => XS.iloadN X1.here hx rfl (hb hby at_23) rfl k) ?_
      show Goes _ _ _ _ _ _ _ (T1.setTop (mkF m 24 _ [(.int (1 : Int32))]))
      refine Goes.go (fun _ k => XS.ifNo X1.here hx rfl (hb hby at_24) rfl (XT.i0_lt_f (by decide)) k) ?_
      show Goes _ _ _ _ _ _ _ (T1.setTop (mkF m 27 _ []))
      refine Goes.go (fun _ k => XS.iloadN X1.here hx rfl (hb hby at_27) rfl k) ?_
      show Goes _ _ _ _ _ _ _ (T1.setTop (mkF m 28 _ [(.int (1 : Int32))]))
      refine Goes.go (fun _ k => XS.bipush X1.here hx rfl (hb hby at_28) k) ?_
      show Goes _ _ _ _ _ _ _ (T1.setTop (mkF m 30 _ [(.int (8 : Int32)), (.int (1 : Int32))]))
      refine Goes.go (fun _ k => XS.icmpYes X1.here hx rfl (pc0 := 30) (pc' := 35) rfl (hb hby at_30) rfl (XT.ii_le_t (by decide)) (by decide) (by decide) k) ?_
      show Goes _ _ _ _ _ _ _ (T1.setTop (mkF m 35 _ []))
      refine Goes.go (fun _ k => XS.iloadN X1.here hx rfl (hb hby at_35) rfl k) ?_
      show Goes _ _ _ _ _ _ _ (T1.setTop (mkF m 36 _ [(.int (1 : Int32))]))
      refine Goes.go (fun _ k => XS.ifYes X1.here hx rfl (pc0 := 36) (pc' := 43) rfl (hb hby at_36) rfl (XT.i0_ne_t (by decide)) (by decide) (by decide) k) ?_
      show Goes _ _ _ _ _ _ _ (T1.setTop (mkF m 43 _ []))
      refine Goes.go (fun _ k => XS.iconst X1.here hx rfl (hb hby at_43) k) ?_
      show Goes _ _ _ _ _ _ _ (T1.setTop (mkF m 44 _ [(.int (0 : Int32))]))
      refine Goes.go (fun _ k => XS.iloadN X1.here hx rfl (hb hby at_44) rfl k) ?_
      show Goes _ _ _ _ _ _ _ (T1.setTop (mkF m 45 _ [(.int v17), (.int (0 : Int32))]))
      refine Goes.go (fun _ k => XS.ifYes X1.here hx rfl (pc0 := 45) (pc' := 52) rfl (hb hby at_45) rfl (XT.i0_ne_t q1) (by decide) (by decide) k) ?_
      show Goes _ _ _ _ _ _ _ (T1.setTop (mkF m 52 _ [(.int (0 : Int32))]))
      refine Goes.go (fun _ k => XS.iconst X1.here hx rfl (hb hby at_52) k) ?_
      show Goes _ _ _ _ _ _ _ (T1.setTop (mkF m 53 _ [(.int (0 : Int32)), (.int (0 : Int32))]))
      refine Goes.go (fun _ k => XS.icmpYes X1.here hx rfl (pc0 := 53) (pc' := 58) rfl (hb hby at_53) rfl (XT.ii_eq_t (by decide)) (by decide) (by decide) k) ?_
      show Goes _ _ _ _ _ _ _ (T1.setTop (mkF m 58 _ []))
      refine Goes.go (fun _ k => XS.iloadN X1.here hx rfl (hb hby at_58) rfl k) ?_
      show Goes _ _ _ _ _ _ _ (T1.setTop (mkF m 59 _ [(.int v17)]))
      refine Goes.go (fun _ k => XS.iloadN X1.here hx rfl (hb hby at_59) rfl k) ?_
      show Goes _ _ _ _ _ _ _ (T1.setTop (mkF m 60 _ [(.int (1 : Int32)), (.int v17)]))
      obtain ⟨_, _, ⟨T2, L2, k2, n2⟩, -, X2, ⟨Lc2, hQ2, l2, y2, z2⟩, st2⟩ := Jvm.LawKit.callS X1 hx (y := (⟨"com/example/sievewright/sievewright/TreeLayout", "runStart", "(II)I"⟩ : MethodName)) hown (mvT hZ (hw _ (List.mem_of_getElem? (i := 4) rfl))) (mvT hZ (hw _ (List.mem_of_getElem? (i := 5) rfl))) (mvT hZ (hw _ (List.mem_of_getElem? (i := 2) rfl))) (mvT hZ (hw _ (List.mem_of_getElem? (i := 6) rfl))) (by decide) (backOf (W := 0) (rm2 l Z a0 hw [] v17 (1 : Int32) h0 n0 Z0) hZ (hw _ (List.mem_of_getElem? (i := 6) rfl)) (hw _ (List.mem_of_getElem? (i := 2) rfl)) (by decide) (by decide)) (g := (mkF m 60 #[.val (.int p0), .val (.int p1), .val (.int v17), .val (.int (1 : Int32))] [(.int (1 : Int32)), (.int v17)])) rfl (by rw [hml]; rfl) (argsL := [(.int v17), (.int (1 : Int32))]) (rest := []) (lenOf pd1 rfl) rfl (by show 2 * 0 + _ ≤ _; exact Nat.le_of_eq rfl) (hb hby at_60) (fun _ _ => ⟨rfl, hh1, (by decide : 0 + 0 ≤ _), (by decide : 0 + 0 ≤ _)⟩)
      dsimp only [Pt.U, Pt.locs, Pt.cells, Pt.slots] at X2 l2 y2 z2 st2 hQ2
      subst l2 y2 z2
      obtain ⟨rfl, Nq2, hh2⟩ := hQ2
      have N2 := Fr.app N1 Nq2
      refine Goes.go (st2) ?_
      show Goes _ _ _ _ _ _ _ (T2.setTop (mkF m 63 _ [(.int (rsF v17 (1 : Int32)))]))
      refine Goes.go (fun _ k => XS.iloadN X2.here hx rfl (hb hby at_63) rfl k) ?_
      show Goes _ _ _ _ _ _ _ (T2.setTop (mkF m 64 _ [(.int v17), (.int (rsF v17 (1 : Int32)))]))
      refine Goes.go (fun _ k => XS.icmpNo X2.here hx rfl (hb hby at_64) rfl (XT.ii_ne_f (own_1 q3)) k) ?_
      show Goes _ _ _ _ _ _ _ (T2.setTop (mkF m 67 _ []))
      refine Goes.go (fun _ k => XS.iconst X2.here hx rfl (hb hby at_67) k) ?_
      show Goes _ _ _ _ _ _ _ (T2.setTop (mkF m 68 _ [(.int (1 : Int32))]))
      refine Goes.go (fun _ k => XS.goto X2.here hx rfl (pc0 := 68) (pc' := 72) rfl (hb hby at_68) (by decide) (by decide) k) ?_
      show Goes _ _ _ _ _ _ _ (T2.setTop (mkF m 72 _ [(.int (1 : Int32))]))
      exact Goes.outZ X2 hx hlk hret rfl (hb hby at_72) hh2 ⟨rfl, N2⟩ (by decide) (by decide)
    · skip
      rw [q2] at hv22; subst hv22
      show Goes _ _ _ _ _ _ _ (T1.setTop (mkF m 23 #[.val (.int p0), .val (.int p1), .val (.int v17), .val (.int (8 : Int32))] []))
      refine Goes.go (fun _ k => XS.iloadN X1.here hx rfl (hb hby at_23) rfl k) ?_
      show Goes _ _ _ _ _ _ _ (T1.setTop (mkF m 24 _ [(.int (8 : Int32))]))
      refine Goes.go (fun _ k => XS.ifNo X1.here hx rfl (hb hby at_24) rfl (XT.i0_lt_f (by decide)) k) ?_
      show Goes _ _ _ _ _ _ _ (T1.setTop (mkF m 27 _ []))
      refine Goes.go (fun _ k => XS.iloadN X1.here hx rfl (hb hby at_27) rfl k) ?_
      show Goes _ _ _ _ _ _ _ (T1.setTop (mkF m 28 _ [(.int (8 : Int32))]))
      refine Goes.go (fun _ k => XS.bipush X1.here hx rfl (hb hby at_28) k) ?_
      show Goes _ _ _ _ _ _ _ (T1.setTop (mkF m 30 _ [(.int (8 : Int32)), (.int (8 : Int32))]))
      refine Goes.go (fun _ k => XS.icmpYes X1.here hx rfl (pc0 := 30) (pc' := 35) rfl (hb hby at_30) rfl (XT.ii_le_t (by decide)) (by decide) (by decide) k) ?_
      show Goes _ _ _ _ _ _ _ (T1.setTop (mkF m 35 _ []))
      refine Goes.go (fun _ k => XS.iloadN X1.here hx rfl (hb hby at_35) rfl k) ?_
      show Goes _ _ _ _ _ _ _ (T1.setTop (mkF m 36 _ [(.int (8 : Int32))]))
      refine Goes.go (fun _ k => XS.ifYes X1.here hx rfl (pc0 := 36) (pc' := 43) rfl (hb hby at_36) rfl (XT.i0_ne_t (by decide)) (by decide) (by decide) k) ?_
      show Goes _ _ _ _ _ _ _ (T1.setTop (mkF m 43 _ []))
      refine Goes.go (fun _ k => XS.iconst X1.here hx rfl (hb hby at_43) k) ?_
      show Goes _ _ _ _ _ _ _ (T1.setTop (mkF m 44 _ [(.int (0 : Int32))]))
      refine Goes.go (fun _ k => XS.iloadN X1.here hx rfl (hb hby at_44) rfl k) ?_
      show Goes _ _ _ _ _ _ _ (T1.setTop (mkF m 45 _ [(.int v17), (.int (0 : Int32))]))
      refine Goes.go (fun _ k => XS.ifYes X1.here hx rfl (pc0 := 45) (pc' := 52) rfl (hb hby at_45) rfl (XT.i0_ne_t q1) (by decide) (by decide) k) ?_
      show Goes _ _ _ _ _ _ _ (T1.setTop (mkF m 52 _ [(.int (0 : Int32))]))
      refine Goes.go (fun _ k => XS.iconst X1.here hx rfl (hb hby at_52) k) ?_
      show Goes _ _ _ _ _ _ _ (T1.setTop (mkF m 53 _ [(.int (0 : Int32)), (.int (0 : Int32))]))
      refine Goes.go (fun _ k => XS.icmpYes X1.here hx rfl (pc0 := 53) (pc' := 58) rfl (hb hby at_53) rfl (XT.ii_eq_t (by decide)) (by decide) (by decide) k) ?_
      show Goes _ _ _ _ _ _ _ (T1.setTop (mkF m 58 _ []))
      refine Goes.go (fun _ k => XS.iloadN X1.here hx rfl (hb hby at_58) rfl k) ?_
      show Goes _ _ _ _ _ _ _ (T1.setTop (mkF m 59 _ [(.int v17)]))
      refine Goes.go (fun _ k => XS.iloadN X1.here hx rfl (hb hby at_59) rfl k) ?_
      show Goes _ _ _ _ _ _ _ (T1.setTop (mkF m 60 _ [(.int (8 : Int32)), (.int v17)]))
      obtain ⟨_, _, ⟨T2, L2, k2, n2⟩, -, X2, ⟨Lc2, hQ2, l2, y2, z2⟩, st2⟩ := Jvm.LawKit.callS X1 hx (y := (⟨"com/example/sievewright/sievewright/TreeLayout", "runStart", "(II)I"⟩ : MethodName)) hown (mvT hZ (hw _ (List.mem_of_getElem? (i := 4) rfl))) (mvT hZ (hw _ (List.mem_of_getElem? (i := 5) rfl))) (mvT hZ (hw _ (List.mem_of_getElem? (i := 2) rfl))) (mvT hZ (hw _ (List.mem_of_getElem? (i := 6) rfl))) (by decide) (backOf (W := 0) (rm2 l Z a0 hw [] v17 (8 : Int32) h0 n0 Z0) hZ (hw _ (List.mem_of_getElem? (i := 6) rfl)) (hw _ (List.mem_of_getElem? (i := 2) rfl)) (by decide) (by decide)) (g := (mkF m 60 #[.val (.int p0), .val (.int p1), .val (.int v17), .val (.int (8 : Int32))] [(.int (8 : Int32)), (.int v17)])) rfl (by rw [hml]; rfl) (argsL := [(.int v17), (.int (8 : Int32))]) (rest := []) (lenOf pd1 rfl) rfl (by show 2 * 0 + _ ≤ _; exact Nat.le_of_eq rfl) (hb hby at_60) (fun _ _ => ⟨rfl, hh1, (by decide : 0 + 0 ≤ _), (by decide : 0 + 0 ≤ _)⟩)
      dsimp only [Pt.U, Pt.locs, Pt.cells, Pt.slots] at X2 l2 y2 z2 st2 hQ2
      subst l2 y2 z2
      obtain ⟨rfl, Nq2, hh2⟩ := hQ2
      have N2 := Fr.app N1 Nq2
      refine Goes.go (st2) ?_
      show Goes _ _ _ _ _ _ _ (T2.setTop (mkF m 63 _ [(.int (rsF v17 (8 : Int32)))]))
      refine Goes.go (fun _ k => XS.iloadN X2.here hx rfl (hb hby at_63) rfl k) ?_
      show Goes _ _ _ _ _ _ _ (T2.setTop (mkF m 64 _ [(.int v17), (.int (rsF v17 (8 : Int32)))]))
      refine Goes.go (fun _ k => XS.icmpNo X2.here hx rfl (hb hby at_64) rfl (XT.ii_ne_f (own_8 q3)) k) ?_
      show Goes _ _ _ _ _ _ _ (T2.setTop (mkF m 67 _ []))
      refine Goes.go (fun _ k => XS.iconst X2.here hx rfl (hb hby at_67) k) ?_
      show Goes _ _ _ _ _ _ _ (T2.setTop (mkF m 68 _ [(.int (1 : Int32))]))
      refine Goes.go (fun _ k => XS.goto X2.here hx rfl (pc0 := 68) (pc' := 72) rfl (hb hby at_68) (by decide) (by decide) k) ?_
      show Goes _ _ _ _ _ _ _ (T2.setTop (mkF m 72 _ [(.int (1 : Int32))]))
      exact Goes.outZ X2 hx hlk hret rfl (hb hby at_72) hh2 ⟨rfl, N2⟩ (by decide) (by decide)
set_option maxRecDepth 65536 in
set_option maxHeartbeats 40000000 in
theorem comes_1 {Post : Tables → Env → Array Value → State → Outcome → State → Prop} (hpost : ∀ tb e args s v u, (limb_1_1.after args s (.returned v) u = true ∧ limb_1_2.after args s (.returned v) u = true ∧ True) → FrameEnd s (.returned v) u (Jvm.fieldLocs frame_1_writes args s ++ Jvm.arrayLocs frame_1_arrays args s ++ Jvm.staticLocs frame_1_statics s) 0 0 → Post tb e args s (.returned v) u) :
    ArmFor flags0 classFile x code maxLocals ret World_1 tables_1 room_1 Calls_1 rest_1 Pre_1 Post := by
  intro l hfl _ _ p e ha hc hk s m args below hf hA hF happ hP
  obtain ⟨hcalls, hrest, hpre⟩ := hP
  obtain ⟨-, -, -, hnamed, -, -, -, hat⟩ := (Spec.applies_iff hf).mp happ
  obtain ⟨hg, hn⟩ := and_e (Cond.before_iff.mp (show (Jvm.Cond.and given_1 narrow_1).before args s = true from hpre))
  obtain ⟨gc, gr0⟩ := and_e hg
  obtain ⟨g0, gr1⟩ := and_e gr0
  obtain ⟨w0, w1, rfl⟩ : ∃ w0 w1 : Value, args = #[w0, w1] := by
    have hs : args.size = 2 := by simpa [Cond.value, given_1] using gc
    obtain ⟨L⟩ := args
    match L, hs with
    | [w0, w1], _ => exact ⟨w0, w1, rfl⟩
  have hw := fun d (hd : d ∈ tables_1) => atoms_spec (ws := Jvm.Cond.code x code maxLocals ret :: tables_1) hat d (List.mem_cons_of_mem _ hd)
  obtain ⟨i0, ei0⟩ := is_v g0
  obtain rfl : w0 = (.int i0) := Option.some.inj ei0
  obtain ⟨i1, ei1⟩ := is_v gr1
  obtain rfl : w1 = (.int i1) := Option.some.inj ei1
  obtain ⟨n, o, h1, h2, h3, _, L, rfl, ⟨rfl, N⟩, hq⟩ := rm0 l s _ hw tables_1 i0 i1 s.heap s.heap.size (Nat.le_refl _)  p e ha hc hk s m _ below hf ((Spec.applies_iff_loose hf).mp happ).1 ⟨rfl, State.Warmed39.refl s, rfl⟩ trivial
  refine ⟨n, _, h1, h2, h3, hpost _ _ _ _ _ _ ⟨Cond.after_iff.mpr rfl, Cond.after_iff.mpr (eq_i res_at (Term.int_eval (1)) rfl), trivial⟩ ⟨hq.1, hq.2.1, (hq.2.2.sift fun y hy => Or.inr (N y hy)).mono (by decide) (by decide)⟩⟩
theorem main_1_1 : Claimed_1_1 := comes_1 fun _ _ _ _ _ _ h hF => ⟨h.1, hF⟩
theorem main_1_2 : Claimed_1_2 := comes_1 fun _ _ _ _ _ _ h hF => ⟨h.2.1, hF⟩
end Jvm.Pilot.@@N@@
namespace Jvm.Pilot.@@N@@
open Jvm Jvm.ClassFile Sem Op Lib Jvm.Free Jvm.Stand Jvm.Pilot.@@N@@.Jvm.D
/-! MADE BY PROGRAM (witnessworld.py) out of the Statement's table words and the real class files: 9 classes; the members and pool entries that the words name. The judged class is class 1, her method 1. -/
namespace start1
open Jvm.ClassFile
def u (s : String) : CpInfo := .utf8 (stringToUtf16 s)
/-- a pool by its gaps: so many unusable entries, then the entry; so many at the end -/
def gap : Nat → List CpInfo → List CpInfo
  | 0, r => r
  | n + 1, r => .unusable :: gap n r
def poolList (es : List (Nat × CpInfo)) (last : Nat) : List CpInfo := es.foldr (fun e r => gap e.1 (e.2 :: r)) (gap last [])
def pool (es : List (Nat × CpInfo)) (last : Nat) : Array CpInfo := ⟨poolList es last⟩
def fileOf (pool : Array CpInfo) (this : Nat) (attrs : Array Attribute := #[]) (ms : Array MethodInfo := #[]) (fl : Nat := 33) (sup : Nat := 0) (ifs : Array Nat := #[]) (fds : Array FieldInfo := #[]) : ClassFile where
  minorVersion := 0
  majorVersion := 65
  constantPool := pool
  accessFlags := fl
  thisClass := this
  superClass := sup
  interfaces := ifs
  fields := fds
  methods := ms
  attributes := attrs
def plain (name : String) (sup : Option ClassId) : Class where
  name := name
  kind := .ordinary
  loader := none
  accessFlags := 33
  super := sup
  interfaces := #[]
  cf := none
  fields := #[]
  methods := #[]
  instanceTypes := #[]
  staticTypes := #[]
  resolved := #[]
  callSites := []
  init := .initialized
  statics := none
  mirror := none

def pool0 : Array CpInfo := pool [(5, u "<init>"), (0, u "()V"), (1, .class_ 10), (1, u "java/lang/Object")] 113

def k0m0 : Method := { name := "<init>", desc := "()V", sig := { parameters := [], returnType := none }, accessFlags := 1, code := none }
/-- java/lang/Object -/
def k0 : Class := { plain "java/lang/Object" none with
  accessFlags := 33
  interfaces := #[]
  cf := some (fileOf pool0 8 #[] #[{ accessFlags := 1, nameIndex := 5, descriptorIndex := 6, attributes := #[] }] 33 0 #[] #[])
  fields := #[]
  methods := #[k0m0]
  instanceTypes := #[]
  staticTypes := #[]
  resolved := Array.replicate 124 none
  statics := none }

def pool1 : Array CpInfo := pool [(2, .class_ 4), (1, u "java/lang/Object"), (0, u "<init>"), (0, u "()V"), (0, .integer 2147483647), (0, .methodref 9 10), (0, .class_ 11), (0, .nameAndType 12 13), (0, u "com/example/sievewright/sievewright/TreeLayout"), (0, u "runs"), (0, u "(I)I"), (0, .methodref 9 15), (0, .nameAndType 16 17), (0, u "runStart"), (0, u "(II)I"), (0, .class_ 19), (0, u "com/example/sievewright/sievewright/TreeLayoutRunsPinLaw"), (2, u "law"), (0, u "(II)Z")] 3

def k1m0 : Method := { name := "<init>", desc := "()V", sig := { parameters := [], returnType := none }, accessFlags := 2, code := none }
def k1c1 : Code := { maxStack := 2, maxLocals := 4, code := code, exceptionTable := #[], attributes := #[] }
def k1m1 : Method := { name := "law", desc := "(II)Z", sig := { parameters := [.int, .int], returnType := some .boolean }, accessFlags := 9, code := some k1c1 }
/-- com/example/sievewright/sievewright/TreeLayoutRunsPinLaw -/
def k1 : Class := { plain "com/example/sievewright/sievewright/TreeLayoutRunsPinLaw" (some 0) with
  accessFlags := 49
  interfaces := #[]
  cf := some (fileOf pool1 18 #[] #[{ accessFlags := 2, nameIndex := 5, descriptorIndex := 6, attributes := #[] }, { accessFlags := 9, nameIndex := 22, descriptorIndex := 23, attributes := #[] }] 49 2 #[] #[])
  fields := #[]
  methods := #[k1m0, k1m1]
  instanceTypes := #[]
  staticTypes := #[]
  resolved := Array.replicate 27 none
  statics := none }

def pool2 : Array CpInfo := pool [(1, .class_ 2), (0, u "com/example/sievewright/sievewright/TreeLayout"), (1, .class_ 6), (1, u "java/lang/Object"), (0, u "<init>"), (0, u "()V"), (0, .long 8), (17, u "(II)I"), (3, u "(I)I"), (56, u "INFINITE_BOUND"), (0, u "I"), (0, u "BOUND"), (2, u "SHARES"), (1, u "PADDED"), (1, u "ENDS"), (1, u "CHILDREN"), (1, u "LISTED"), (1, u "TIPS"), (1, u "BOUNDS"), (0, u "HEADER"), (1, u "END_BOUND"), (0, u "END_WEIGHTS"), (0, u "KIND_BITS"), (0, u "NODE"), (0, u "CHAIN"), (0, u "END"), (0, u "LONG_CHAIN"), (0, u "INT_SHIFT"), (0, u "KIND"), (0, u "LENGTH_BITS"), (0, u "LENGTH"), (1, u "RUN_FROM"), (1, u "RUNS"), (1, u "SEARCHED_FROM"), (2, u "runs"), (1, u "runStart")] 24

def k2m0 : Method := { name := "<init>", desc := "()V", sig := { parameters := [], returnType := none }, accessFlags := 2, code := none }
def k2c1 : Code := { maxStack := 2, maxLocals := 2, code := prog_66_method_2_code, exceptionTable := #[], attributes := #[] }
def k2m1 : Method := { name := "runs", desc := "(I)I", sig := { parameters := [.int], returnType := some .int }, accessFlags := 8, code := some k2c1 }
def k2c2 : Code := { maxStack := 4, maxLocals := 2, code := prog_66_method_3_code, exceptionTable := #[], attributes := #[] }
def k2m2 : Method := { name := "runStart", desc := "(II)I", sig := { parameters := [.int, .int], returnType := some .int }, accessFlags := 8, code := some k2c2 }
/-- com/example/sievewright/sievewright/TreeLayout -/
def k2 : Class := { plain "com/example/sievewright/sievewright/TreeLayout" (some 0) with
  accessFlags := 48
  interfaces := #[]
  cf := some (fileOf pool2 1 #[] #[{ accessFlags := 2, nameIndex := 7, descriptorIndex := 8, attributes := #[] }, { accessFlags := 8, nameIndex := 127, descriptorIndex := 31, attributes := #[] }, { accessFlags := 8, nameIndex := 129, descriptorIndex := 27, attributes := #[] }] 48 4 #[] #[{ accessFlags := 24, nameIndex := 90, descriptorIndex := 89, attributes := #[] }, { accessFlags := 26, nameIndex := 93, descriptorIndex := 89, attributes := #[] }, { accessFlags := 24, nameIndex := 88, descriptorIndex := 89, attributes := #[] }, { accessFlags := 24, nameIndex := 95, descriptorIndex := 89, attributes := #[] }, { accessFlags := 24, nameIndex := 97, descriptorIndex := 89, attributes := #[] }, { accessFlags := 24, nameIndex := 99, descriptorIndex := 89, attributes := #[] }, { accessFlags := 24, nameIndex := 101, descriptorIndex := 89, attributes := #[] }, { accessFlags := 24, nameIndex := 103, descriptorIndex := 89, attributes := #[] }, { accessFlags := 24, nameIndex := 105, descriptorIndex := 89, attributes := #[] }, { accessFlags := 24, nameIndex := 106, descriptorIndex := 89, attributes := #[] }, { accessFlags := 24, nameIndex := 108, descriptorIndex := 89, attributes := #[] }, { accessFlags := 24, nameIndex := 109, descriptorIndex := 89, attributes := #[] }, { accessFlags := 26, nameIndex := 110, descriptorIndex := 89, attributes := #[] }, { accessFlags := 24, nameIndex := 111, descriptorIndex := 89, attributes := #[] }, { accessFlags := 24, nameIndex := 112, descriptorIndex := 89, attributes := #[] }, { accessFlags := 24, nameIndex := 113, descriptorIndex := 89, attributes := #[] }, { accessFlags := 24, nameIndex := 114, descriptorIndex := 89, attributes := #[] }, { accessFlags := 26, nameIndex := 115, descriptorIndex := 89, attributes := #[] }, { accessFlags := 26, nameIndex := 116, descriptorIndex := 89, attributes := #[] }, { accessFlags := 26, nameIndex := 117, descriptorIndex := 89, attributes := #[] }, { accessFlags := 26, nameIndex := 118, descriptorIndex := 89, attributes := #[] }, { accessFlags := 24, nameIndex := 120, descriptorIndex := 89, attributes := #[] }, { accessFlags := 24, nameIndex := 122, descriptorIndex := 89, attributes := #[] }, { accessFlags := 24, nameIndex := 124, descriptorIndex := 89, attributes := #[] }])
  fields := #[{ name := "BOUND", type := .int, accessFlags := 24, slot := 0, constantValue := 0 }, { name := "SHARES", type := .int, accessFlags := 26, slot := 1, constantValue := 0 }, { name := "INFINITE_BOUND", type := .int, accessFlags := 24, slot := 2, constantValue := 0 }, { name := "PADDED", type := .int, accessFlags := 24, slot := 3, constantValue := 0 }, { name := "ENDS", type := .int, accessFlags := 24, slot := 4, constantValue := 0 }, { name := "CHILDREN", type := .int, accessFlags := 24, slot := 5, constantValue := 0 }, { name := "LISTED", type := .int, accessFlags := 24, slot := 6, constantValue := 0 }, { name := "TIPS", type := .int, accessFlags := 24, slot := 7, constantValue := 0 }, { name := "BOUNDS", type := .int, accessFlags := 24, slot := 8, constantValue := 0 }, { name := "HEADER", type := .int, accessFlags := 24, slot := 9, constantValue := 0 }, { name := "END_BOUND", type := .int, accessFlags := 24, slot := 10, constantValue := 0 }, { name := "END_WEIGHTS", type := .int, accessFlags := 24, slot := 11, constantValue := 0 }, { name := "KIND_BITS", type := .int, accessFlags := 26, slot := 12, constantValue := 0 }, { name := "NODE", type := .int, accessFlags := 24, slot := 13, constantValue := 0 }, { name := "CHAIN", type := .int, accessFlags := 24, slot := 14, constantValue := 0 }, { name := "END", type := .int, accessFlags := 24, slot := 15, constantValue := 0 }, { name := "LONG_CHAIN", type := .int, accessFlags := 24, slot := 16, constantValue := 0 }, { name := "INT_SHIFT", type := .int, accessFlags := 26, slot := 17, constantValue := 0 }, { name := "KIND", type := .int, accessFlags := 26, slot := 18, constantValue := 0 }, { name := "LENGTH_BITS", type := .int, accessFlags := 26, slot := 19, constantValue := 0 }, { name := "LENGTH", type := .int, accessFlags := 26, slot := 20, constantValue := 0 }, { name := "RUN_FROM", type := .int, accessFlags := 24, slot := 21, constantValue := 0 }, { name := "RUNS", type := .int, accessFlags := 24, slot := 22, constantValue := 0 }, { name := "SEARCHED_FROM", type := .int, accessFlags := 24, slot := 23, constantValue := 0 }]
  methods := #[k2m0, k2m1, k2m2]
  instanceTypes := #[]
  staticTypes := #[.int, .int, .int, .int, .int, .int, .int, .int, .int, .int, .int, .int, .int, .int, .int, .int, .int, .int, .int, .int, .int, .int, .int, .int]
  resolved := Array.replicate 154 none
  statics := none }

def pool3 : Array CpInfo := pool [(1, u "java/lang/Cloneable"), (0, .class_ 1), (0, u "java/lang/Object"), (0, .class_ 3)] 3

/-- java/lang/Cloneable -/
def k3 : Class := { plain "java/lang/Cloneable" (some 0) with
  accessFlags := 1537
  interfaces := #[]
  cf := some (fileOf pool3 2 #[] #[] 1537 4 #[] #[])
  fields := #[]
  methods := #[]
  instanceTypes := #[]
  staticTypes := #[]
  resolved := Array.replicate 8 none
  statics := none }

def pool4 : Array CpInfo := pool [(1, u "java/io/Serializable"), (0, .class_ 1), (0, u "java/lang/Object"), (0, .class_ 3)] 3

/-- java/io/Serializable -/
def k4 : Class := { plain "java/io/Serializable" (some 0) with
  accessFlags := 1537
  interfaces := #[]
  cf := some (fileOf pool4 2 #[] #[] 1537 4 #[] #[])
  fields := #[]
  methods := #[]
  instanceTypes := #[]
  staticTypes := #[]
  resolved := Array.replicate 8 none
  statics := none }

/-- the primitive byte -/
def k5 : Class := { plain "byte" none with kind := .primitive 'B', accessFlags := 0x411 }
/-- [B -/
def k6 : Class := { plain "[B" (some 0) with kind := .array 5 .byte, interfaces := #[3, 4], accessFlags := 1041 }

/-- the primitive int -/
def k7 : Class := { plain "int" none with kind := .primitive 'I', accessFlags := 0x411 }
/-- [I -/
def k8 : Class := { plain "[I" (some 0) with kind := .array 7 .int, interfaces := #[3, 4], accessFlags := 1041 }

def heap : Heap := #[]
def classes : Array Class := #[k0, k1, k2, k3, k4, k5, k6, k7, k8]
def interned : List (Array UInt16 × Addr) := []
def slotsUsed : Nat := 0
def theMethod : MethodId := ⟨1, 1⟩
def args0 : Array Value := #[.int 100, .int 7]
def aboutOver (below : List Frame) : State where
  vm := { classes := classes, interned := interned.toArray }
  heap := heap
  slotsUsed := slotsUsed
  threads := #[{ frames := .invoking theMethod args0 :: below }]
def below0 : List Frame := [.native { method := ⟨0, 0⟩, args := #[] }]
def about1 : State := aboutOver below0
def p0 : Program := .bare "" "" ""
def e0 : Env := launch0.env 0 0 0
theorem w_frames : about1.frames = Frame.invoking theMethod args0 :: below0 := rfl
set_option maxRecDepth 65536 in
theorem w_args : argsFit about1.vm theMethod args0 = true := by decide +kernel
set_option maxRecDepth 65536 in
theorem w_heap : heapFits about1 = true := by decide +kernel
set_option maxRecDepth 65536 in
theorem w_runnable : about1.curStatus? = some .runnable := by decide +kernel
set_option maxRecDepth 65536 in
theorem w_alone : about1.alone = true := by decide +kernel
set_option maxRecDepth 65536 in
theorem w_named : about1.methodNamed? x = some theMethod := by decide +kernel
set_option maxRecDepth 65536 in
theorem w_hears : about1.hears theMethod below0 = true := by decide +kernel
set_option maxRecDepth 65536 in
theorem w_ripe : about1.ripe theMethod args0 below0 = true := by decide +kernel
theorem w_running : about1.status = .running := rfl
set_option maxRecDepth 65536 in
theorem w_room : about1.hasRoom e0.platform room_1 = true :=
  launch0.hasRoom_least _ room_1 (by decide +kernel) (by decide +kernel) (by decide +kernel) (by decide +kernel) (by decide +kernel) (by decide +kernel)
theorem allAtoms_all (ts : List Jvm.Cond) (a : Array Jvm.Value) (st : Jvm.State) : (allAtoms ts).before a st = ts.all (fun c => c.before a st) := by
  induction ts with
  | nil => rfl
  | cons c t ih =>
    show (Jvm.Cond.and c (allAtoms t)).before a st = _
    rw [Jvm.Cond.before_and, ih, List.all_cons]
def words1 : List Jvm.Cond := Jvm.Cond.code x code maxLocals ret :: tables_1
/-- a 'code' word, met by the world's own term for the bytes: nothing is compared byte by byte -/
theorem code_word {y : MethodName} {bytes : ByteArray} {mx : Nat} {rt : Option FieldType} {a : Array Value} {s : State} {m : MethodId} {meth : Method} {c : Code} (h1 : s.methodNamed? y = some m) (h2 : s.vm.method? m = some meth) (h3 : meth.code = some c) (h4 : c.code = bytes)
    (h5 : (c.maxLocals == mx && c.exceptionTable.isEmpty && decide (c.maxStack ≤ mostOperands) && decide (meth.sig.returnType = rt) && !meth.locks && decide (parseMethodDescriptor y.desc = some meth.sig)) = true) : (Jvm.Cond.code y bytes mx rt).before a s = true := by
  simp only [Bool.and_eq_true, beq_iff_eq, Bool.not_eq_true', decide_eq_true_eq] at h5
  obtain ⟨⟨⟨⟨⟨g1, g2⟩, g3⟩, g4⟩, g5⟩, g6⟩ := h5
  simp [Cond.before, Cond.holds, Cond.value, h1, h2, h3, h4, g1, g2, g3, g4, g5, g6]
def isCode : Jvm.Cond → Bool
  | .code _ _ _ _ => true
  | _ => false
theorem all_split {L : List Jvm.Cond} {P : Jvm.Cond → Bool} (h1 : L.all (fun c => isCode c || P c) = true) (h2 : ∀ c ∈ L.filter isCode, P c = true) : L.all P = true := by
  refine List.all_eq_true.mpr fun c hc => ?_
  have h := List.all_eq_true.mp h1 c hc
  rcases Bool.eq_false_or_eq_true (isCode c) with hi | hi
  · exact h2 c (List.mem_filter.mpr ⟨hc, hi⟩)
  · simpa [hi] using h
set_option maxRecDepth 65536 in
theorem w_c0 : (Jvm.Cond.code x code maxLocals ret).before args0 about1 = true := code_word (m := ⟨1, 1⟩) (meth := k1m1) (c := k1c1) (by decide +kernel) rfl rfl rfl (by decide +kernel)
set_option maxRecDepth 65536 in
theorem w_c1 : (Jvm.Cond.code ({ cls := "com/example/sievewright/sievewright/TreeLayout", name := "runs", desc := "(I)I" } : Jvm.MethodName) prog_66_method_2_code (2 : Nat) (Option.some Jvm.ClassFile.FieldType.int)).before args0 about1 = true := code_word (m := ⟨2, 1⟩) (meth := k2m1) (c := k2c1) (by decide +kernel) rfl rfl rfl (by decide +kernel)
set_option maxRecDepth 65536 in
theorem w_c2 : (Jvm.Cond.code ({ cls := "com/example/sievewright/sievewright/TreeLayout", name := "runStart", desc := "(II)I" } : Jvm.MethodName) prog_66_method_3_code (2 : Nat) (Option.some Jvm.ClassFile.FieldType.int)).before args0 about1 = true := code_word (m := ⟨2, 2⟩) (meth := k2m2) (c := k2c2) (by decide +kernel) rfl rfl rfl (by decide +kernel)
def codes1 : List Jvm.Cond := [Jvm.Cond.code x code maxLocals ret, Jvm.Cond.code ({ cls := "com/example/sievewright/sievewright/TreeLayout", name := "runs", desc := "(I)I" } : Jvm.MethodName) prog_66_method_2_code (2 : Nat) (Option.some Jvm.ClassFile.FieldType.int), Jvm.Cond.code ({ cls := "com/example/sievewright/sievewright/TreeLayout", name := "runStart", desc := "(II)I" } : Jvm.MethodName) prog_66_method_3_code (2 : Nat) (Option.some Jvm.ClassFile.FieldType.int)]
set_option maxRecDepth 65536 in
theorem codes_eq : words1.filter isCode = codes1 := rfl
theorem w_codes : ∀ c ∈ words1.filter isCode, c.before args0 about1 = true := by
  rw [codes_eq]
  intro c hc
  simp only [codes1, List.mem_cons, List.not_mem_nil, or_false] at hc
  rcases hc with rfl | rfl | rfl
  · exact w_c0
  · exact w_c1
  · exact w_c2
set_option maxRecDepth 65536 in
theorem w_t1 : words1.all (fun c => isCode c || c.before args0 about1) = true := by decide +kernel
theorem w_tables : (allAtoms (Jvm.Cond.code x code maxLocals ret :: tables_1)).before args0 about1 = true := by
  rw [allAtoms_all]
  show words1.all (fun c => c.before args0 about1) = true
  refine all_split ?_ w_codes
  rw [w_t1]
set_option maxRecDepth 65536 in
theorem w_case : (Jvm.Cond.and given_1 narrow_1).before args0 about1 = true := by decide +kernel
theorem w_applies : (headSpec (Jvm.Cond.code x code maxLocals ret :: tables_1) room_1).applies x e0.platform about1 = true :=
  (Spec.applies_iff w_frames).mpr ⟨w_running, w_runnable, w_alone, w_named, w_hears, w_ripe, w_room, w_tables⟩
theorem atStart : AtStart classFile x code maxLocals ret World_1 tables_1 room_1 Calls_1 rest_1 Pre_1 launch0 p0 e0 about1 theMethod args0 below0 :=
  ⟨lists_1, trivial, launch0.admits_env _ _ _, launch0.least_env, fairChoices_fair.cas, fairChoices_fair.clock, w_frames, w_args, w_heap, w_applies, trivial, trivial, w_case⟩
end start1
theorem witness_1 : WitnessClaimed_1 := ⟨start1.p0, start1.e0, start1.about1, start1.theMethod, start1.args0, start1.below0, start1.atStart⟩
end Jvm.Pilot.@@N@@
