import JvmDerived
import JvmDerived.Pilot.@@N@@Statement
import JvmDerived.Pilot.@@N@@Code
set_option linter.unusedVariables false
set_option linter.unusedSimpArgs false
namespace Jvm.Pilot.@@N@@
open Jvm Jvm.ClassFile Sem Op Lib Jvm.Free Jvm.Stand Jvm.LawKit Jvm.RoadKit Bundle Jvm.Pilot.@@N@@.Jvm.D
section Own
variable {p : Program} {l : Launch} {e : Env} {R : Room} {s : State} {m : MethodId} {args : Array Value} {below : List Frame} {meth : Method} {c : Code} {T : State} {locs : List Loc} {cells slots : Nat} {Z : State} {a0 : Array Value} {h h' : Heap} {Q : Option Value → Heap → List Loc → Prop} {k n : Nat}
/-- from U the walk comes to a return of which Q holds -/
def Goes (p : Program) (e : Env) (below : List Frame) (s : State) (Q : Option Value → Heap → List Loc → Prop) (k n : Nat) (U : State) : Prop :=
  ∃ s₂ o, Steps p.tables e below U s₂ ∧ s₂.status = .running ∧ Ended s₂ below o ∧ ∃ v L, o = .returned v ∧ Q v s₂.heap L ∧ FrameEnd s o s₂ L k n
theorem Goes.go {U U' : State} (h : ∀ t, Steps p.tables e below U' t → Steps p.tables e below U t) (r : Goes p e below s Q k n U') : Goes p e below s Q k n U := by
  obtain ⟨s₂, o, h1, r⟩ := r
  exact ⟨s₂, o, h _ h1, r⟩
theorem Goes.outI (X : Stand p l e R s m args below meth c T locs cells slots) (hx : p.tables.exec = Jvm.exec) (hlk : meth.locks = false) (hret : meth.sig.returnType = some .int) {pc : Nat} {Ls : Array Slot} {z : Int32} (hd : decode c.code pc = .ok (.ireturn, 1)) (eT : T.heap = h) (hq : Q (some (.int z)) h locs) (hk : cells ≤ k) (hn : slots ≤ n) :
    Goes p e below s Q k n (T.setTop (mkF m pc Ls [.int z])) := by
  obtain ⟨fs, hr, hrun, hended, hW, hsame⟩ := X.leave (v := some (.int z)) (fun h => by rw [hret] at h; cases h) hlk
  refine ⟨_, _, X.ireturnOut hx hret rfl (Or.inl rfl) hd hr, hrun, hended, _, _, rfl, ?_, ⟨_, rfl⟩, hW, hsame.mono hk hn⟩
  show Q _ T.heap _
  rw [eT]; exact hq
theorem Goes.outZ (X : Stand p l e R s m args below meth c T locs cells slots) (hx : p.tables.exec = Jvm.exec) (hlk : meth.locks = false) (hret : meth.sig.returnType = some .boolean) {pc : Nat} {Ls : Array Slot} {z : Int32} (hz : narrow .boolean (.int z) = .int z) (hd : decode c.code pc = .ok (.ireturn, 1)) (eT : T.heap = h) (hq : Q (some (.int z)) h locs) (hk : cells ≤ k) (hn : slots ≤ n) :
    Goes p e below s Q k n (T.setTop (mkF m pc Ls [.int z])) := by
  obtain ⟨fs, hr, hrun, hended, hW, hsame⟩ := X.leave (v := some (.int z)) (fun h => by rw [hret] at h; cases h) hlk
  refine ⟨_, _, X.ireturnOut hx hret hz (Or.inr (Or.inl rfl)) hd hr, hrun, hended, _, _, rfl, ?_, ⟨_, rfl⟩, hW, hsame.mono hk hn⟩
  show Q _ T.heap _
  rw [eT]; exact hq
theorem Goes.outJ (X : Stand p l e R s m args below meth c T locs cells slots) (hx : p.tables.exec = Jvm.exec) (hlk : meth.locks = false) (hret : meth.sig.returnType = some .long) {pc : Nat} {Ls : Array Slot} {z : Int64} (hd : decode c.code pc = .ok (.lreturn, 1)) (eT : T.heap = h) (hq : Q (some (.long z)) h locs) (hk : cells ≤ k) (hn : slots ≤ n) :
    Goes p e below s Q k n (T.setTop (mkF m pc Ls [.long z])) := by
  obtain ⟨fs, hr, hrun, hended, hW, hsame⟩ := X.leave (v := some (.long z)) (fun h => by rw [hret] at h; cases h) hlk
  refine ⟨_, _, X.lreturnOut hx hret hd hr, hrun, hended, _, _, rfl, ?_, ⟨_, rfl⟩, hW, hsame.mono hk hn⟩
  show Q _ T.heap _
  rw [eT]; exact hq
theorem Goes.outA (X : Stand p l e R s m args below meth c T locs cells slots) (hx : p.tables.exec = Jvm.exec) (hlk : meth.locks = false) {t : FieldType} (hret : meth.sig.returnType = some t) (ht : t.isReference = true) {pc : Nat} {Ls : Array Slot} {w : Value} (hw : w.isRef = true) (hd : decode c.code pc = .ok (.areturn, 1)) (eT : T.heap = h) (hq : Q (some w) h locs) (hk : cells ≤ k) (hn : slots ≤ n) :
    Goes p e below s Q k n (T.setTop (mkF m pc Ls [w])) := by
  obtain ⟨fs, hr, hrun, hended, hW, hsame⟩ := X.leave (v := some w) (fun h => by rw [hret] at h; cases h) hlk
  refine ⟨_, _, X.areturnOut hx hw hret ht hd hr, hrun, hended, _, _, rfl, ?_, ⟨_, rfl⟩, hW, hsame.mono hk hn⟩
  show Q _ T.heap _
  rw [eT]; exact hq
theorem Goes.outV (X : Stand p l e R s m args below meth c T locs cells slots) (hx : p.tables.exec = Jvm.exec) (hlk : meth.locks = false) (hret : meth.sig.returnType = none) {pc : Nat} {Ls : Array Slot} (hd : decode c.code pc = .ok (.return_, 1)) (eT : T.heap = h) (hq : Q none h locs) (hk : cells ≤ k) (hn : slots ≤ n) :
    Goes p e below s Q k n (T.setTop (mkF m pc Ls [])) := by
  obtain ⟨fs, hr, hrun, hended, hW, hsame⟩ := X.leave (v := none) (fun _ => rfl) hlk
  refine ⟨_, _, X.returnOut hx hret hd hr, hrun, hended, _, _, rfl, ?_, ⟨_, rfl⟩, hW, hsame.mono hk hn⟩
  show Q _ T.heap _
  rw [eT]; exact hq
/-- an array, by the list of what it holds -/
def Arl (Z : State) (h : Heap) (a : Addr) (ty : FieldType) (vs : List Value) : Prop := ∃ c : Cell, Arr Z h a c ty ∧ c.slots.toList = vs
section Arls
variable {a b : Addr} {ty : FieldType} {vs : List Value} {v : Value} {sl : Nat} {ws : List Addr} {j : Int32}
theorem Arl.lt (F : Arl Z h a ty vs) : a < h.size := by obtain ⟨c, A, -⟩ := F; exact A.lt
theorem Arl.ext (F : Arl Z h a ty vs) (E : Ext h h') : Arl Z h' a ty vs := by obtain ⟨c, A, r⟩ := F; exact ⟨c, A.ext E, r⟩
theorem Arl.other (F : Arl Z h b ty vs) (W : Wr h h' a sl v) (q : b ≠ a) : Arl Z h' b ty vs := by obtain ⟨c, A, r⟩ := F; exact ⟨c, A.other W q, r⟩
theorem Arl.keep (F : Arl Z h a ty vs) (K : Keep h h' ws) (q : a ∉ ws) : Arl Z h' a ty vs := by obtain ⟨c, A, r⟩ := F; exact ⟨c, ⟨K.2.1 a c A.1 q, A.2⟩, r⟩
theorem Arl.set (F : Arl Z h a ty vs) (W : Wr h h' a sl v) : Arl Z h' a ty (vs.set sl v) := by
  obtain ⟨c, A, r⟩ := F
  refine ⟨_, A.same W, ?_⟩
  subst r
  simp [Cell.setSlot]
theorem Arl.eq {vs' : List Value} (F : Arl Z h a ty vs) (e : vs = vs') : Arl Z h a ty vs' := e ▸ F
theorem own_in {c : Cell} (r : c.slots.toList = vs) (h0 : ¬ j < 0) (h1 : j.toNatClampNeg < vs.length) : ¬ (j < 0 ∨ c.slots.size ≤ j.toNatClampNeg) := by
  subst r
  intro q
  rcases q with q | q
  · exact h0 q
  · rw [Array.length_toList] at h1; omega
theorem own_lt (hv : vs[sl]? = some v) : sl < vs.length := (List.getElem?_eq_some_iff.mp hv).1
end Arls
theorem own_ati {xs : List Int32} {j : Nat} {w : Int32} (h : xs[j]? = some w) : (xs.map Value.int)[j]? = some (.int w) := by
  rw [List.getElem?_map, h]; rfl
theorem own_lni {xs : List Int32} {j k : Nat} (hl : xs.length = k) (h : j < k) : j < (xs.map Value.int).length := by
  rw [List.length_map, hl]; exact h
theorem own_sti {a : Addr} {xs : List Int32} {j : Nat} {w : Int32} (A : Arl Z h a .int ((xs.map Value.int).set j (.int w))) : Arl Z h a .int ((xs.set j w).map Value.int) := A.eq List.map_set.symm
theorem own_selP {C : String} {y y' : MethodName} (hs : (Cond.selects C y' y').before args s = true) (hcls : y'.cls = y.cls) (hpriv : s.PrivateAt y) (hinst : (Cond.instanceMethod y).before args s = true) (hy : y.cls ≠ "java/lang/invoke/MethodHandle" ∧ y.cls ≠ "java/lang/invoke/VarHandle") : (Cond.selects y.cls y y).before args s = true := by
  obtain ⟨c2, r2, m2, -, -, q3, -, kP, hkP, hkPi⟩ := Cond.selects_spec hs
  have hc : s.vm.findClass y.cls = some m2.cls := hcls ▸ findClass_of_methodNamed q3
  exact selects_self_of_private hc hkP hkPi hpriv hinst hy
theorem own_neA {a b : Addr} {C : String} {k : Nat} {ty : FieldType} {vs : List Value} (F : Exa Z h a C) (wi : (Cond.instantiable C k).before a0 Z = true) (G : Arl Z h b ty vs) : a ≠ b := by
  obtain ⟨c', A', -⟩ := G
  exact ne_arr F wi A'
theorem own_newP (X : Stand p l e R s m args below meth c T locs cells slots) (hx : p.tables.exec = Jvm.exec) (hZ : Z.Warmed39 s.vm) {aty : ArrayType} (w : (Cond.arrayClass (newarray.typeOf aty)).before a0 Z = true) (eT : T.heap = h) {g : JFrame} (hg : g.method = m) (hd : decode c.code g.pc = .ok (.newarray aty, 2)) {n : Int32} {rest : List Value} (hs : g.stack = .int n :: rest)
    (hn : ¬ n < 0) {cap : Nat} (hcap : n.toNatClampNeg ≤ cap) (hb : cap * 8 ≤ 536870912) (hc : cells + 1 ≤ R.cells) (hl : slots + cap ≤ R.slots) :
    ∃ T' h', Stand p l e R s m args below meth c T' locs (cells + 1) (slots + cap) ∧ T'.heap = h' ∧ Ext h h' ∧ Arl Z h' h.size (newarray.typeOf aty) (List.replicate n.toNatClampNeg (defaultValue (newarray.typeOf aty))) ∧
      ∀ target, Steps p.tables e below (T'.setTop { g with pc := g.pc + 2, stack := .ref h.size :: rest }) target → Steps p.tables e below (T.setTop g) target := by
  obtain ⟨T', h', cA, X', e', E', A', st⟩ := newP X hx hZ w eT hg hd hs hn hcap hb hc hl
  exact ⟨T', h', X', e', E', ⟨_, A', by simp [newA]⟩, st⟩
theorem own_stB (X : Stand p l e R s m args below meth c T locs cells slots) (hx : p.tables.exec = Jvm.exec) (hZ : Z.Warmed39 s.vm) (eT : T.heap = h) {a : Addr} {vs : List Value} (A : Arl Z h a .byte vs) {j x : Int32} (hj : ¬ j < 0) (hj' : j.toNatClampNeg < vs.length) {g : JFrame} (hg : g.method = m) {rest : List Value} (hs : g.stack = .int x :: .int j :: .ref a :: rest) (hd : decode c.code g.pc = .ok (.bastore, 1)) :
    ∃ T' h', Stand p l e R s m args below meth c T' (locs ++ [⟨a, j.toNatClampNeg⟩]) cells slots ∧ T'.heap = h' ∧ Wr h h' a j.toNatClampNeg (.int x.toInt8.toInt32) ∧ Arl Z h' a .byte (vs.set j.toNatClampNeg (.int x.toInt8.toInt32)) ∧ ∀ target, Steps p.tables e below (T'.setTop { g with pc := g.pc + 1, stack := rest }) target → Steps p.tables e below (T.setTop g) target := by
  obtain ⟨c', A', r⟩ := A
  obtain ⟨T', h', X', e', W, st⟩ := stB X hx hZ eT A' (own_in r hj hj') hg hs hd
  exact ⟨T', h', X', e', W, Arl.set ⟨c', A', r⟩ W, st⟩
theorem own_stI (X : Stand p l e R s m args below meth c T locs cells slots) (hx : p.tables.exec = Jvm.exec) (hZ : Z.Warmed39 s.vm) (eT : T.heap = h) {a : Addr} {vs : List Value} (A : Arl Z h a .int vs) {j x : Int32} (hj : ¬ j < 0) (hj' : j.toNatClampNeg < vs.length) {g : JFrame} (hg : g.method = m) {rest : List Value} (hs : g.stack = .int x :: .int j :: .ref a :: rest) (hd : decode c.code g.pc = .ok (.iastore, 1)) :
    ∃ T' h', Stand p l e R s m args below meth c T' (locs ++ [⟨a, j.toNatClampNeg⟩]) cells slots ∧ T'.heap = h' ∧ Wr h h' a j.toNatClampNeg (.int x) ∧ Arl Z h' a .int (vs.set j.toNatClampNeg (.int x)) ∧ ∀ target, Steps p.tables e below (T'.setTop { g with pc := g.pc + 1, stack := rest }) target → Steps p.tables e below (T.setTop g) target := by
  obtain ⟨c', A', r⟩ := A
  obtain ⟨T', h', X', e', W, st⟩ := stI X hx hZ eT A' (own_in r hj hj') hg hs hd
  exact ⟨T', h', X', e', W, Arl.set ⟨c', A', r⟩ W, st⟩
theorem own_stJ (X : Stand p l e R s m args below meth c T locs cells slots) (hx : p.tables.exec = Jvm.exec) (hZ : Z.Warmed39 s.vm) (eT : T.heap = h) {a : Addr} {vs : List Value} (A : Arl Z h a .long vs) {j : Int32} {x : Int64} (hj : ¬ j < 0) (hj' : j.toNatClampNeg < vs.length) {g : JFrame} (hg : g.method = m) {rest : List Value} (hs : g.stack = .long x :: .int j :: .ref a :: rest) (hd : decode c.code g.pc = .ok (.lastore, 1)) :
    ∃ T' h', Stand p l e R s m args below meth c T' (locs ++ [⟨a, j.toNatClampNeg⟩]) cells slots ∧ T'.heap = h' ∧ Wr h h' a j.toNatClampNeg (.long x) ∧ Arl Z h' a .long (vs.set j.toNatClampNeg (.long x)) ∧ ∀ target, Steps p.tables e below (T'.setTop { g with pc := g.pc + 1, stack := rest }) target → Steps p.tables e below (T.setTop g) target := by
  obtain ⟨c', A', r⟩ := A
  obtain ⟨T', h', X', e', W, st⟩ := stJ X hx hZ eT A' (own_in r hj hj') hg hs hd
  exact ⟨T', h', X', e', W, Arl.set ⟨c', A', r⟩ W, st⟩
theorem own_at {a : Addr} {c' : Cell} {vs : List Value} {v : Value} {j : Int32} (r : c'.slots.toList = vs) (hv : vs[j.toNatClampNeg]? = some v) : c'.slots[j.toNatClampNeg]? = some v := by
  subst r; simpa using hv
theorem own_ldB (X : Stand p l e R s m args below meth c T locs cells slots) (hx : p.tables.exec = Jvm.exec) (hZ : Z.Warmed39 s.vm) (eT : T.heap = h) {a : Addr} {vs : List Value} {v : Value} (A : Arl Z h a .byte vs) {j : Int32} (hj : ¬ j < 0) (hv : vs[j.toNatClampNeg]? = some v) {g : JFrame} (hg : g.method = m) {rest : List Value} (hs : g.stack = .int j :: .ref a :: rest) (hd : decode c.code g.pc = .ok (.baload, 1)) :
    ∀ target, Steps p.tables e below (T.setTop { g with pc := g.pc + 1, stack := v :: rest }) target → Steps p.tables e below (T.setTop g) target := by
  obtain ⟨c', A', r⟩ := A
  exact fun t k => X.baloadBytes hx (by rw [eT]; exact A'.1) (State.isArrayOf_alike hZ.alike A'.2.1) A'.2.2 (own_in r hj (own_lt hv)) (own_at (a := a) r hv) hg hs hd t k
theorem own_ldI (X : Stand p l e R s m args below meth c T locs cells slots) (hx : p.tables.exec = Jvm.exec) (hZ : Z.Warmed39 s.vm) (eT : T.heap = h) {a : Addr} {vs : List Value} {v : Value} (A : Arl Z h a .int vs) {j : Int32} (hj : ¬ j < 0) (hv : vs[j.toNatClampNeg]? = some v) {g : JFrame} (hg : g.method = m) {rest : List Value} (hs : g.stack = .int j :: .ref a :: rest) (hd : decode c.code g.pc = .ok (.iaload, 1)) :
    ∀ target, Steps p.tables e below (T.setTop { g with pc := g.pc + 1, stack := v :: rest }) target → Steps p.tables e below (T.setTop g) target := by
  obtain ⟨c', A', r⟩ := A
  exact fun t k => X.iaload hx (by rw [eT]; exact A'.1) (State.isArrayOf_alike hZ.alike A'.2.1) A'.2.2 (own_in r hj (own_lt hv)) (own_at (a := a) r hv) hg hs hd t k
theorem own_ldJ (X : Stand p l e R s m args below meth c T locs cells slots) (hx : p.tables.exec = Jvm.exec) (hZ : Z.Warmed39 s.vm) (eT : T.heap = h) {a : Addr} {vs : List Value} {v : Value} (A : Arl Z h a .long vs) {j : Int32} (hj : ¬ j < 0) (hv : vs[j.toNatClampNeg]? = some v) {g : JFrame} (hg : g.method = m) {rest : List Value} (hs : g.stack = .int j :: .ref a :: rest) (hd : decode c.code g.pc = .ok (.laload, 1)) :
    ∀ target, Steps p.tables e below (T.setTop { g with pc := g.pc + 1, stack := v :: rest }) target → Steps p.tables e below (T.setTop g) target := by
  obtain ⟨c', A', r⟩ := A
  exact fun t k => X.laload hx (by rw [eT]; exact A'.1) (State.isArrayOf_alike hZ.alike A'.2.1) A'.2.2 (own_in r hj (own_lt hv)) (own_at (a := a) r hv) hg hs hd t k
theorem own_len (X : Stand p l e R s m args below meth c T locs cells slots) (hx : p.tables.exec = Jvm.exec) (hZ : Z.Warmed39 s.vm) (eT : T.heap = h) {a : Addr} {ty : FieldType} {vs : List Value} (A : Arl Z h a ty vs) {n : Int32} (hn : vs.length.toInt32 = n) {g : JFrame} (hg : g.method = m) {rest : List Value} (hs : g.stack = .ref a :: rest) (hd : decode c.code g.pc = .ok (.arraylength, 1)) :
    ∀ target, Steps p.tables e below (T.setTop { g with pc := g.pc + 1, stack := .int n :: rest }) target → Steps p.tables e below (T.setTop g) target := by
  obtain ⟨c', A', r⟩ := A
  have q : c'.slots.size.toInt32 = n := by rw [← hn, ← r, Array.length_toList]
  exact fun t k => X.arraylength hx (ty := ty) (by rw [eT]; exact A'.1) (State.isArrayOf_alike hZ.alike A'.2.1) hg hs hd t (q.symm ▸ k)
end Own
def mxI (x y : Int32) : Int32 := if x < y then y else x
theorem own_max1 (x : Int32) : 0 < mxI (1 : Int32) (x &&& (2147483647 : Int32)) := by
  have e0 : (0 : Int32).toInt = 0 := by decide
  have e1 : (1 : Int32).toInt = 1 := by decide
  unfold mxI
  split
  · rename_i h; rw [Int32.lt_iff_toInt_lt] at h ⊢; omega
  · decide
theorem own_off (x : Int64) : ¬ (x &&& (9223372036854775807 : Int64)) < (0 : Int64) := by
  have h := c_maskL x 9223372036854775807 63 (by decide) (by decide)
  have e0 : (0 : Int64).toInt = 0 := by decide
  rw [Int64.lt_iff_toInt_lt]
  omega
def eqF (o1 : Int64) (s1 : Int32) (t1 o2 : Int64) (s2 : Int32) (t2 : Int64) : Int32 := if o1 = o2 then (if s1 = s2 then (if t1 = t2 then 1 else 0) else 0) else 0
theorem eqF_self (o : Int64) (s : Int32) (t : Int64) : eqF o s t o s t = 1 := by simp [eqF]
theorem eqF_comm (o1 : Int64) (s1 : Int32) (t1 o2 : Int64) (s2 : Int32) (t2 : Int64) : eqF o2 s2 t2 o1 s1 t1 = eqF o1 s1 t1 o2 s2 t2 := by
  unfold eqF
  simp only [eq_comm (a := o2), eq_comm (a := s2), eq_comm (a := t2)]
/-- the cache of Long.valueOf, as its initialiser leaves it -/
def LC (Z : State) (h : Heap) : Prop := ∃ (ca : Addr) (cl : Cell), Sta Z h "java/lang/Long$LongCache" "cache" "[Ljava/lang/Long;" (.ref ca) ∧ Arr Z h ca cl (.object "java/lang/Long") ∧ cl.slots.size = 256 ∧ ∀ j, j < 256 → ∃ x, cl.slots[j]? = some (.ref x) ∧ Exa Z h x "java/lang/Long"
theorem LC.ext {Z : State} {h h' : Heap} (F : LC Z h) (E : Ext h h') : LC Z h' := by
  obtain ⟨ca, cl, f1, f2, f3, f4⟩ := F
  refine ⟨ca, cl, f1.ext E, f2.ext E, f3, fun j hj => ?_⟩
  obtain ⟨x, g1, g2⟩ := f4 j hj
  exact ⟨x, g1, g2.ext E⟩
theorem own_ext {h h' : Heap} (K : Keep h h' []) : Ext h h' := ⟨K.1, fun a c q => K.2.1 a c q nin0⟩
theorem own_idx {v : Int64} (h1 : ¬ v < (0 : Int64)) (h2 : ¬ (127 : Int64) < v) : ¬ ((v.toInt32 + (128 : Int32)) < 0 ∨ 256 ≤ (v.toInt32 + (128 : Int32)).toNatClampNeg) ∧ (v.toInt32 + (128 : Int32)).toNatClampNeg < 256 := by
  have e0 : (0 : Int64).toInt = 0 := by decide
  have e1 : (127 : Int64).toInt = 127 := by decide
  have e2 : (128 : Int32).toInt = 128 := by decide
  have e3 : (0 : Int32).toInt = 0 := by decide
  rw [Int64.lt_iff_toInt_lt] at h1 h2
  have a1 := c_l2i v
  have r1 := rng32 v.toInt32
  have a2 := c_iadd v.toInt32 128
  have r2 := rng32 (v.toInt32 + (128 : Int32))
  have e : (v.toInt32 + (128 : Int32)).toNatClampNeg = (v.toInt32 + (128 : Int32)).toInt.toNat := rfl
  rw [Int32.lt_iff_toInt_lt]
  omega
theorem own_128 {v : Int64} (h : ¬ v < (0 : Int64)) : ¬ v < (-128 : Int64) := by
  have e0 : (0 : Int64).toInt = 0 := by decide
  have e1 : (-128 : Int64).toInt = -128 := by decide
  rw [Int64.lt_iff_toInt_lt] at h ⊢
  omega
theorem own_root {Z : State} {a0 : Array Value} {O K : String} {n : Nat} (w : (Cond.noSuperclass O).before a0 Z = true) (wi : (Cond.instantiable K n).before a0 Z = true) (hn : O ≠ K) : NS Z O K := by
  obtain ⟨c, k, h1, h2, h3, -, -⟩ := Cond.noSuperclass_spec w
  obtain ⟨t, kt, g1, -⟩ := Cond.instantiable_spec wi
  have ne := ids_ne h1 g1 hn
  refine ⟨c, t, h1, g1, fun fuel => ?_⟩
  cases fuel with
  | zero => rfl
  | succ f => simp [Vm.isSubclassAux, ne, h2, h3]
theorem own_noAs {Z : State} {a0 : Array Value} {C S K : String} {n : Nat} (w : (Cond.superclass C S).before a0 Z = true) (wi : (Cond.instantiable K n).before a0 Z = true) (nn : NS Z C K) (hn : C ≠ K) : ∃ c t, Z.vm.findClass C = some c ∧ Z.vm.findClass K = some t ∧ Z.vm.assignable c t = false := by
  obtain ⟨c, t, h0, g0, n3⟩ := nn
  obtain ⟨p, k, kp, h1, h2, h3, h4, h5, -, h7⟩ := Cond.superclass_spec h0 w
  obtain ⟨q, kt, g1, g2, g5, g7, -⟩ := Cond.instantiable_spec wi
  cases g0.symm.trans g1
  have g7' : kt.isInterface = false := by simp only [Bool.or_eq_false_iff] at g7; exact g7.1
  have ne := ids_ne h0 g0 hn
  refine ⟨c, _, h0, g0, ?_⟩
  show Z.vm.assignableAux (255 + 1) c _ = false
  simp [Vm.assignableAux, ne, h2, g2, h5, g5, g7', Vm.isSubclass, n3]
theorem pd0 : parseMethodDescriptor "(II)I" = some ⟨[.int, .int], (some .int)⟩ := by decide +kernel
theorem pd1 : parseMethodDescriptor "(JIJ)V" = some ⟨[.long, .int, .long], none⟩ := by decide +kernel
theorem pd2 : parseMethodDescriptor "()V" = some ⟨[], none⟩ := by decide +kernel
theorem pd3 : parseMethodDescriptor "(Ljava/lang/Object;)Z" = some ⟨[(.object "java/lang/Object")], (some .boolean)⟩ := by decide +kernel
theorem pd4 : parseMethodDescriptor "(J)Ljava/lang/Long;" = some ⟨[.long], (some (.object "java/lang/Long"))⟩ := by decide +kernel
theorem pd5 : parseMethodDescriptor "(J)V" = some ⟨[.long], none⟩ := by decide +kernel
theorem pd6 : parseMethodDescriptor "(JIJJII)Z" = some ⟨[.long, .int, .long, .long, .int, .int], (some .boolean)⟩ := by decide +kernel
theorem d1_0 : decode jdk_29_method_65_code 0 = .ok (.iload_n 0, 1) := by decide +kernel
theorem d1_1 : decode jdk_29_method_65_code 1 = .ok (.iload_n 1, 1) := by decide +kernel
theorem d1_2 : decode jdk_29_method_65_code 2 = .ok (.if_icmp .lt 7, 3) := by decide +kernel
theorem d1_5 : decode jdk_29_method_65_code 5 = .ok (.iload_n 0, 1) := by decide +kernel
theorem d1_6 : decode jdk_29_method_65_code 6 = .ok (.goto 4, 3) := by decide +kernel
theorem d1_9 : decode jdk_29_method_65_code 9 = .ok (.iload_n 1, 1) := by decide +kernel
theorem d1_10 : decode jdk_29_method_65_code 10 = .ok (.ireturn, 1) := by decide +kernel
theorem ef_rmM (m : MethodId) (p0 : Int32) (p1 : Int32) : entryFrame m #[(.int p0), (.int p1)] 2 = mkF m 0 #[.val (.int p0), .val (.int p1)] [] := by first | (simp [entryFrame, mkF, argsToLocals, Value.category]; done) | rfl
def Q_rmM (Z : State) (p0 : Int32) (p1 : Int32) (h0 : Heap) (n0 : Nat) (v : Option Value) (h : Heap) (L : List Loc) : Prop := v = some (.int (mxI p0 p1)) ∧ Fr n0 L ∧ h = h0
set_option maxRecDepth 65536 in
set_option maxHeartbeats 40000000 in
theorem rmM (l : Launch) (Z : State) (a0 : Array Value) (hw : ∀ d ∈ tables_1, d.before a0 Z = true) (ws : List Jvm.Cond) (p0 : Int32) (p1 : Int32) (h0 : Heap) (n0 : Nat) (Z0 : n0 ≤ h0.size)  :
    MetFree l (⟨"java/lang/Math", "max", "(II)I"⟩ : MethodName) (head1 (Jvm.Cond.code (⟨"java/lang/Math", "max", "(II)I"⟩ : MethodName) jdk_29_method_65_code 2 (some .int) :: ws) ({ frames := 0, cells := 0, slots := 0, locals := 0 } : Room)) (fun aa U => aa = #[(.int p0), (.int p1)] ∧ Z.Warmed39 U.vm ∧ U.heap = h0) (fun _ _ _ _ _ => True) (fun _ U oo U' => ∃ v L, oo = .returned v ∧ Q_rmM Z p0 p1 h0 n0 v U'.heap L ∧ FrameEnd U oo U' L ({ frames := 0, cells := 0, slots := 0, locals := 0 } : Room).cells ({ frames := 0, cells := 0, slots := 0, locals := 0 } : Room).slots) := by
  refine MetFree.of_bodySF (Jvm.Free.JP.mathPlain rfl (by decide +kernel)) hisR ?_
  intro p e s m args below meth c s₁ Bd hml0 hP hK
  obtain ⟨rfl, hZ, hh⟩ := hP
  have hx := Bd.exec
  have hby := Bd.bytes
  have hml : c.maxLocals = 2 := hml0
  have hown : s.vm.findClass "java/lang/Math" = some m.cls := findClass_of_methodNamed Bd.named
  have hnm := (name_of_methodNamed Bd.named Bd.method).1
  have hlk : meth.locks = false := Bd.notSynchronized
  have hret := Bd.returns
  have X0 : Stand p l e ({ frames := 0, cells := 0, slots := 0, locals := 0 } : Room) s m #[(.int p0), (.int p1)] below meth c s₁ [] 0 0 := Stand.of_body Bd
  have e0 : s₁.heap = h0 := by rw [← hh, Bd.state]; rfl
  have N0 := Fr.nil n0
  have K0 : Keep h0 h0 [] := Keep.refl _ _
  show Goes p e below s (Q_rmM Z p0 p1 h0 n0) ({ frames := 0, cells := 0, slots := 0, locals := 0 } : Room).cells ({ frames := 0, cells := 0, slots := 0, locals := 0 } : Room).slots _
  refine Goes.go (fun _ kk => castTop (ef_rmM m p0 p1) kk) ?_
  show Goes _ _ _ _ _ _ _ (s₁.setTop (mkF m 0 #[.val (.int p0), .val (.int p1)] []))
  refine Goes.go (fun _ kk => XS.iloadN X0.here hx rfl (hb hby d1_0) rfl kk) ?_
  show Goes _ _ _ _ _ _ _ (s₁.setTop (mkF m 1 _ [(.int p0)]))
  refine Goes.go (fun _ kk => XS.iloadN X0.here hx rfl (hb hby d1_1) rfl kk) ?_
  show Goes _ _ _ _ _ _ _ (s₁.setTop (mkF m 2 _ [(.int p1), (.int p0)]))
  by_cases c2 : p0 < p1
  · skip
    refine Goes.go (fun _ kk => XS.icmpYes X0.here hx rfl (pc0 := 2) (pc' := 9) rfl (hb hby d1_2) rfl (XT.ii_lt_t c2) (by decide) (by decide) kk) ?_
    show Goes _ _ _ _ _ _ _ (s₁.setTop (mkF m 9 _ []))
    refine Goes.go (fun _ kk => XS.iloadN X0.here hx rfl (hb hby d1_9) rfl kk) ?_
    show Goes _ _ _ _ _ _ _ (s₁.setTop (mkF m 10 _ [(.int p1)]))
    exact Goes.outI X0 hx hlk hret (hb hby d1_10) e0 ⟨by rw [mxI, if_pos c2], N0, rfl⟩ (by decide) (by decide)
  · skip
    refine Goes.go (fun _ kk => XS.icmpNo X0.here hx rfl (hb hby d1_2) rfl (XT.ii_lt_f c2) kk) ?_
    show Goes _ _ _ _ _ _ _ (s₁.setTop (mkF m 5 _ []))
    refine Goes.go (fun _ kk => XS.iloadN X0.here hx rfl (hb hby d1_5) rfl kk) ?_
    show Goes _ _ _ _ _ _ _ (s₁.setTop (mkF m 6 _ [(.int p0)]))
    refine Goes.go (fun _ kk => XS.goto X0.here hx rfl (pc0 := 6) (pc' := 10) rfl (hb hby d1_6) (by decide) (by decide) kk) ?_
    show Goes _ _ _ _ _ _ _ (s₁.setTop (mkF m 10 _ [(.int p0)]))
    exact Goes.outI X0 hx hlk hret (hb hby d1_10) e0 ⟨by rw [mxI, if_neg c2], N0, rfl⟩ (by decide) (by decide)
theorem d2_0 : decode prog_21_method_1_code 0 = .ok (.aload_n 0, 1) := by decide +kernel
theorem d2_1 : decode prog_21_method_1_code 1 = .ok (.invokespecial 1, 3) := by decide +kernel
theorem d2_4 : decode prog_21_method_1_code 4 = .ok (.lload_n 1, 1) := by decide +kernel
theorem d2_5 : decode prog_21_method_1_code 5 = .ok (.lconst 0, 1) := by decide +kernel
theorem d2_6 : decode prog_21_method_1_code 6 = .ok (.lcmp, 1) := by decide +kernel
theorem d2_7 : decode prog_21_method_1_code 7 = .ok (.ifCond .ge 17, 3) := by decide +kernel
theorem d2_10 : decode prog_21_method_1_code 10 = .ok (.new 7, 3) := by decide +kernel
theorem d2_13 : decode prog_21_method_1_code 13 = .ok (.dup, 1) := by decide +kernel
theorem d2_14 : decode prog_21_method_1_code 14 = .ok (.lload_n 1, 1) := by decide +kernel
theorem d2_15 : decode prog_21_method_1_code 15 = .ok (.invokedynamic 9, 5) := by decide +kernel
theorem d2_20 : decode prog_21_method_1_code 20 = .ok (.invokespecial 13, 3) := by decide +kernel
theorem d2_23 : decode prog_21_method_1_code 23 = .ok (.athrow, 1) := by decide +kernel
theorem d2_24 : decode prog_21_method_1_code 24 = .ok (.iload_n 3, 1) := by decide +kernel
theorem d2_25 : decode prog_21_method_1_code 25 = .ok (.ifCond .gt 17, 3) := by decide +kernel
theorem d2_28 : decode prog_21_method_1_code 28 = .ok (.new 7, 3) := by decide +kernel
theorem d2_31 : decode prog_21_method_1_code 31 = .ok (.dup, 1) := by decide +kernel
theorem d2_32 : decode prog_21_method_1_code 32 = .ok (.iload_n 3, 1) := by decide +kernel
theorem d2_33 : decode prog_21_method_1_code 33 = .ok (.invokedynamic 16, 5) := by decide +kernel
theorem d2_38 : decode prog_21_method_1_code 38 = .ok (.invokespecial 13, 3) := by decide +kernel
theorem d2_41 : decode prog_21_method_1_code 41 = .ok (.athrow, 1) := by decide +kernel
theorem d2_42 : decode prog_21_method_1_code 42 = .ok (.aload_n 0, 1) := by decide +kernel
theorem d2_43 : decode prog_21_method_1_code 43 = .ok (.lload_n 1, 1) := by decide +kernel
theorem d2_44 : decode prog_21_method_1_code 44 = .ok (.putfield 19, 3) := by decide +kernel
theorem d2_47 : decode prog_21_method_1_code 47 = .ok (.aload_n 0, 1) := by decide +kernel
theorem d2_48 : decode prog_21_method_1_code 48 = .ok (.iload_n 3, 1) := by decide +kernel
theorem d2_49 : decode prog_21_method_1_code 49 = .ok (.putfield 25, 3) := by decide +kernel
theorem d2_52 : decode prog_21_method_1_code 52 = .ok (.aload_n 0, 1) := by decide +kernel
theorem d2_53 : decode prog_21_method_1_code 53 = .ok (.lload 4, 2) := by decide +kernel
theorem d2_55 : decode prog_21_method_1_code 55 = .ok (.putfield 29, 3) := by decide +kernel
theorem d2_58 : decode prog_21_method_1_code 58 = .ok (.return_, 1) := by decide +kernel
theorem pn0 : plainName "com/example/xixi/xixi/store/ConsumeQueueEntry" = true := by first | (simp [plainName, overriddenIn]; done) | decide +kernel
theorem ef_rm1 (m : MethodId) (a : Addr) (p0 : Int64) (p1 : Int32) (p2 : Int64) : entryFrame m #[(.ref a), (.long p0), (.int p1), (.long p2)] 6 = mkF m 0 #[.val (.ref a), .val (.long p0), .second, .val (.int p1), .val (.long p2), .second] [] := by first | (simp [entryFrame, mkF, argsToLocals, Value.category]; done) | rfl
def Q_rm1 (Z : State) (a : Addr) (p0 : Int64) (p1 : Int32) (p2 : Int64) (h0 : Heap) (n0 : Nat) (v : Option Value) (h : Heap) (L : List Loc) : Prop := v = none ∧ Fr n0 L ∧ Keep h0 h [a] ∧ Exa Z h a "com/example/xixi/xixi/store/ConsumeQueueEntry" ∧ Fld Z h a "com/example/xixi/xixi/store/ConsumeQueueEntry" "commitLogOffset" "J" (.long p0) ∧ Fld Z h a "com/example/xixi/xixi/store/ConsumeQueueEntry" "size" "I" (.int p1) ∧ Fld Z h a "com/example/xixi/xixi/store/ConsumeQueueEntry" "tagHash" "J" (.long p2)
set_option maxRecDepth 65536 in
set_option maxHeartbeats 40000000 in
theorem rm1 (l : Launch) (Z : State) (a0 : Array Value) (hw : ∀ d ∈ tables_1, d.before a0 Z = true) (ws : List Jvm.Cond) (a : Addr) (p0 : Int64) (p1 : Int32) (p2 : Int64) (h0 : Heap) (n0 : Nat) (Z0 : n0 ≤ h0.size) (E0 : Exa Z h0 a "com/example/xixi/xixi/store/ConsumeQueueEntry") (F_commitLogOffset : Fld Z h0 a "com/example/xixi/xixi/store/ConsumeQueueEntry" "commitLogOffset" "J" (.long (0 : Int64))) (F_size : Fld Z h0 a "com/example/xixi/xixi/store/ConsumeQueueEntry" "size" "I" (.int (0 : Int32))) (F_tagHash : Fld Z h0 a "com/example/xixi/xixi/store/ConsumeQueueEntry" "tagHash" "J" (.long (0 : Int64))) (ga : n0 ≤ a) (hp0 : ¬ p0 < (0 : Int64)) (hp1 : 0 < p1) :
    MetFree l (⟨"com/example/xixi/xixi/store/ConsumeQueueEntry", "<init>", "(JIJ)V"⟩ : MethodName) (head1 (Jvm.Cond.code (⟨"com/example/xixi/xixi/store/ConsumeQueueEntry", "<init>", "(JIJ)V"⟩ : MethodName) prog_21_method_1_code 6 none :: ws) ({ frames := 1, cells := 0, slots := 0, locals := 12 } : Room)) (fun aa U => aa = #[(.ref a), (.long p0), (.int p1), (.long p2)] ∧ Z.Warmed39 U.vm ∧ U.heap = h0) (fun _ _ _ _ _ => True) (fun _ U oo U' => ∃ v L, oo = .returned v ∧ Q_rm1 Z a p0 p1 p2 h0 n0 v U'.heap L ∧ FrameEnd U oo U' L ({ frames := 1, cells := 0, slots := 0, locals := 12 } : Room).cells ({ frames := 1, cells := 0, slots := 0, locals := 12 } : Room).slots) := by
  refine MetFree.of_bodySF (plainFor_of_name pn0) hisR ?_
  intro p e s m args below meth c s₁ Bd hml0 hP hK
  obtain ⟨rfl, hZ, hh⟩ := hP
  have hx := Bd.exec
  have hby := Bd.bytes
  have hml : c.maxLocals = 6 := hml0
  have hown : s.vm.findClass "com/example/xixi/xixi/store/ConsumeQueueEntry" = some m.cls := findClass_of_methodNamed Bd.named
  have hnm := (name_of_methodNamed Bd.named Bd.method).1
  have hlk : meth.locks = false := Bd.notSynchronized
  have hret := Bd.returns
  have X0 : Stand p l e ({ frames := 1, cells := 0, slots := 0, locals := 12 } : Room) s m #[(.ref a), (.long p0), (.int p1), (.long p2)] below meth c s₁ [] 0 0 := Stand.of_body Bd
  have e0 : s₁.heap = h0 := by rw [← hh, Bd.state]; rfl
  have N0 := Fr.nil n0
  have K0 : Keep h0 h0 [a] := Keep.refl _ _
  show Goes p e below s (Q_rm1 Z a p0 p1 p2 h0 n0) ({ frames := 1, cells := 0, slots := 0, locals := 12 } : Room).cells ({ frames := 1, cells := 0, slots := 0, locals := 12 } : Room).slots _
  refine Goes.go (fun _ kk => castTop (ef_rm1 m a p0 p1 p2) kk) ?_
  show Goes _ _ _ _ _ _ _ (s₁.setTop (mkF m 0 #[.val (.ref a), .val (.long p0), .second, .val (.int p1), .val (.long p2), .second] []))
  refine Goes.go (fun _ kk => XS.aloadN X0.here hx rfl (hb hby d2_0) rfl rfl kk) ?_
  show Goes _ _ _ _ _ _ _ (s₁.setTop (mkF m 1 _ [(.ref a)]))
  obtain ⟨T1, X1, e1, st1⟩ := initO X0 hx hZ hown (hw _ (List.mem_of_getElem? (i := 12) rfl)) (hw _ (List.mem_of_getElem? (i := 13) rfl)) (hw _ (List.mem_of_getElem? (i := 14) rfl)) e0 (g := (mkF m 1 #[.val (.ref a), .val (.long p0), .second, .val (.int p1), .val (.long p2), .second] [(.ref a)])) rfl (by rw [hml]; rfl) rfl (hb hby d2_1) (by decide) (W := 0) (by show 2 * 0 + _ ≤ _; exact Nat.le_of_eq rfl) (by decide)
  refine Goes.go (st1) ?_
  show Goes _ _ _ _ _ _ _ (T1.setTop (mkF m 4 _ []))
  refine Goes.go (fun _ kk => XS.lloadN X1.here hx rfl (hb hby d2_4) rfl kk) ?_
  show Goes _ _ _ _ _ _ _ (T1.setTop (mkF m 5 _ [(.long p0)]))
  refine Goes.go (fun _ kk => XS.lconst X1.here hx rfl (hb hby d2_5) kk) ?_
  show Goes _ _ _ _ _ _ _ (T1.setTop (mkF m 6 _ [(.long (0 : Int64)), (.long p0)]))
  refine Goes.go (fun _ kk => XT.lcmp X1.here hx rfl (hb hby d2_6) rfl kk) ?_
  show Goes _ _ _ _ _ _ _ (T1.setTop (mkF m 7 _ [(.int (XT.cmpL p0 (0 : Int64)))]))
  refine Goes.go (fun _ kk => XS.ifYes X1.here hx rfl (pc0 := 7) (pc' := 24) rfl (hb hby d2_7) rfl (XT.ll_ge_t hp0) (by decide) (by decide) kk) ?_
  show Goes _ _ _ _ _ _ _ (T1.setTop (mkF m 24 _ []))
  refine Goes.go (fun _ kk => XS.iloadN X1.here hx rfl (hb hby d2_24) rfl kk) ?_
  show Goes _ _ _ _ _ _ _ (T1.setTop (mkF m 25 _ [(.int p1)]))
  refine Goes.go (fun _ kk => XS.ifYes X1.here hx rfl (pc0 := 25) (pc' := 42) rfl (hb hby d2_25) rfl (XT.i0_gt_t hp1) (by decide) (by decide) kk) ?_
  show Goes _ _ _ _ _ _ _ (T1.setTop (mkF m 42 _ []))
  refine Goes.go (fun _ kk => XS.aloadN X1.here hx rfl (hb hby d2_42) rfl rfl kk) ?_
  show Goes _ _ _ _ _ _ _ (T1.setTop (mkF m 43 _ [(.ref a)]))
  refine Goes.go (fun _ kk => XS.lloadN X1.here hx rfl (hb hby d2_43) rfl kk) ?_
  show Goes _ _ _ _ _ _ _ (T1.setTop (mkF m 44 _ [(.long p0), (.ref a)]))
  obtain ⟨T2, h2, X2, e2, W2, st2⟩ := putF X1 hx hZ hown (host := "") (Or.inl (hw _ (List.mem_of_getElem? (i := 15) rfl))) Via.refl e1 F_commitLogOffset E0 (Or.inr ⟨(hw _ (List.mem_of_getElem? (i := 16) rfl)), rfl, hnm⟩) (hw _ (List.mem_of_getElem? (i := 7) rfl)) (ty := .long) (by decide) rfl rfl (g := (mkF m 44 #[.val (.ref a), .val (.long p0), .second, .val (.int p1), .val (.long p2), .second] [(.long p0), (.ref a)])) rfl rfl (hb hby d2_44)
  have N2 := Fr.snoc X2 N0 ga
  have f := Exa.wr W2 E0
  have f_1 := Fld.other W2 F_size (Or.inr (slot_ne (Or.inr (hw _ (List.mem_of_getElem? (i := 18) rfl))) (Or.inr (hw _ (List.mem_of_getElem? (i := 16) rfl))) (by decide) (t := .int) (t' := .long) (by decide) (by decide)))
  have f_2 := Fld.other W2 F_tagHash (Or.inr (slot_ne (Or.inr (hw _ (List.mem_of_getElem? (i := 20) rfl))) (Or.inr (hw _ (List.mem_of_getElem? (i := 16) rfl))) (by decide) (t := .long) (t' := .long) (by decide) (by decide)))
  have f_3 := Fld.same W2 F_commitLogOffset
  have Z2 : n0 ≤ h2.size := by rw [W2.size]; exact Z0
  have K2 := K0.wr W2 (Or.inl (List.mem_of_getElem? (i := 0) rfl))
  refine Goes.go (st2) ?_
  show Goes _ _ _ _ _ _ _ (T2.setTop (mkF m 47 _ []))
  refine Goes.go (fun _ kk => XS.aloadN X2.here hx rfl (hb hby d2_47) rfl rfl kk) ?_
  show Goes _ _ _ _ _ _ _ (T2.setTop (mkF m 48 _ [(.ref a)]))
  refine Goes.go (fun _ kk => XS.iloadN X2.here hx rfl (hb hby d2_48) rfl kk) ?_
  show Goes _ _ _ _ _ _ _ (T2.setTop (mkF m 49 _ [(.int p1), (.ref a)]))
  obtain ⟨T3, h3, X3, e3, W3, st3⟩ := putF X2 hx hZ hown (host := "") (Or.inl (hw _ (List.mem_of_getElem? (i := 17) rfl))) Via.refl e2 f_1 f (Or.inr ⟨(hw _ (List.mem_of_getElem? (i := 18) rfl)), rfl, hnm⟩) (hw _ (List.mem_of_getElem? (i := 7) rfl)) (ty := .int) (by decide) rfl rfl (g := (mkF m 49 #[.val (.ref a), .val (.long p0), .second, .val (.int p1), .val (.long p2), .second] [(.int p1), (.ref a)])) rfl rfl (hb hby d2_49)
  have N3 := Fr.snoc X3 N2 ga
  have f_4 := Exa.wr W3 f
  have f_5 := Fld.other W3 f_3 (Or.inr (slot_ne (Or.inr (hw _ (List.mem_of_getElem? (i := 16) rfl))) (Or.inr (hw _ (List.mem_of_getElem? (i := 18) rfl))) (by decide) (t := .long) (t' := .int) (by decide) (by decide)))
  have f_6 := Fld.other W3 f_2 (Or.inr (slot_ne (Or.inr (hw _ (List.mem_of_getElem? (i := 20) rfl))) (Or.inr (hw _ (List.mem_of_getElem? (i := 18) rfl))) (by decide) (t := .long) (t' := .int) (by decide) (by decide)))
  have f_7 := Fld.same W3 f_1
  have Z3 : n0 ≤ h3.size := by rw [W3.size]; exact Z2
  have K3 := K2.wr W3 (Or.inl (List.mem_of_getElem? (i := 0) rfl))
  refine Goes.go (st3) ?_
  show Goes _ _ _ _ _ _ _ (T3.setTop (mkF m 52 _ []))
  refine Goes.go (fun _ kk => XS.aloadN X3.here hx rfl (hb hby d2_52) rfl rfl kk) ?_
  show Goes _ _ _ _ _ _ _ (T3.setTop (mkF m 53 _ [(.ref a)]))
  refine Goes.go (fun _ kk => XS.lload X3.here hx rfl (hb hby d2_53) rfl kk) ?_
  show Goes _ _ _ _ _ _ _ (T3.setTop (mkF m 55 _ [(.long p2), (.ref a)]))
  obtain ⟨T4, h4, X4, e4, W4, st4⟩ := putF X3 hx hZ hown (host := "") (Or.inl (hw _ (List.mem_of_getElem? (i := 19) rfl))) Via.refl e3 f_6 f_4 (Or.inr ⟨(hw _ (List.mem_of_getElem? (i := 20) rfl)), rfl, hnm⟩) (hw _ (List.mem_of_getElem? (i := 7) rfl)) (ty := .long) (by decide) rfl rfl (g := (mkF m 55 #[.val (.ref a), .val (.long p0), .second, .val (.int p1), .val (.long p2), .second] [(.long p2), (.ref a)])) rfl rfl (hb hby d2_55)
  have N4 := Fr.snoc X4 N3 ga
  have f_8 := Exa.wr W4 f_4
  have f_9 := Fld.other W4 f_5 (Or.inr (slot_ne (Or.inr (hw _ (List.mem_of_getElem? (i := 16) rfl))) (Or.inr (hw _ (List.mem_of_getElem? (i := 20) rfl))) (by decide) (t := .long) (t' := .long) (by decide) (by decide)))
  have f_10 := Fld.other W4 f_7 (Or.inr (slot_ne (Or.inr (hw _ (List.mem_of_getElem? (i := 18) rfl))) (Or.inr (hw _ (List.mem_of_getElem? (i := 20) rfl))) (by decide) (t := .int) (t' := .long) (by decide) (by decide)))
  have f_11 := Fld.same W4 f_6
  have Z4 : n0 ≤ h4.size := by rw [W4.size]; exact Z3
  have K4 := K3.wr W4 (Or.inl (List.mem_of_getElem? (i := 0) rfl))
  refine Goes.go (st4) ?_
  show Goes _ _ _ _ _ _ _ (T4.setTop (mkF m 58 _ []))
  exact Goes.outV X4 hx hlk hret (hb hby d2_58) e4 ⟨rfl, N4, K4, f_8, f_9, f_10, f_11⟩ (by decide) (by decide)
theorem d4_0 : decode prog_21_method_8_code 0 = .ok (.aload_n 1, 1) := by decide +kernel
theorem d4_1 : decode prog_21_method_8_code 1 = .ok (.instanceof 20, 3) := by decide +kernel
theorem d4_4 : decode prog_21_method_8_code 4 = .ok (.ifCond .eq 47, 3) := by decide +kernel
theorem d4_7 : decode prog_21_method_8_code 7 = .ok (.aload_n 1, 1) := by decide +kernel
theorem d4_8 : decode prog_21_method_8_code 8 = .ok (.checkcast 20, 3) := by decide +kernel
theorem d4_11 : decode prog_21_method_8_code 11 = .ok (.astore_n 2, 1) := by decide +kernel
theorem d4_12 : decode prog_21_method_8_code 12 = .ok (.aload_n 0, 1) := by decide +kernel
theorem d4_13 : decode prog_21_method_8_code 13 = .ok (.getfield 19, 3) := by decide +kernel
theorem d4_16 : decode prog_21_method_8_code 16 = .ok (.aload_n 2, 1) := by decide +kernel
theorem d4_17 : decode prog_21_method_8_code 17 = .ok (.getfield 19, 3) := by decide +kernel
theorem d4_20 : decode prog_21_method_8_code 20 = .ok (.lcmp, 1) := by decide +kernel
theorem d4_21 : decode prog_21_method_8_code 21 = .ok (.ifCond .ne 30, 3) := by decide +kernel
theorem d4_24 : decode prog_21_method_8_code 24 = .ok (.aload_n 0, 1) := by decide +kernel
theorem d4_25 : decode prog_21_method_8_code 25 = .ok (.getfield 25, 3) := by decide +kernel
theorem d4_28 : decode prog_21_method_8_code 28 = .ok (.aload_n 2, 1) := by decide +kernel
theorem d4_29 : decode prog_21_method_8_code 29 = .ok (.getfield 25, 3) := by decide +kernel
theorem d4_32 : decode prog_21_method_8_code 32 = .ok (.if_icmp .ne 19, 3) := by decide +kernel
theorem d4_35 : decode prog_21_method_8_code 35 = .ok (.aload_n 0, 1) := by decide +kernel
theorem d4_36 : decode prog_21_method_8_code 36 = .ok (.getfield 29, 3) := by decide +kernel
theorem d4_39 : decode prog_21_method_8_code 39 = .ok (.aload_n 2, 1) := by decide +kernel
theorem d4_40 : decode prog_21_method_8_code 40 = .ok (.getfield 29, 3) := by decide +kernel
theorem d4_43 : decode prog_21_method_8_code 43 = .ok (.lcmp, 1) := by decide +kernel
theorem d4_44 : decode prog_21_method_8_code 44 = .ok (.ifCond .ne 7, 3) := by decide +kernel
theorem d4_47 : decode prog_21_method_8_code 47 = .ok (.iconst 1, 1) := by decide +kernel
theorem d4_48 : decode prog_21_method_8_code 48 = .ok (.goto 4, 3) := by decide +kernel
theorem d4_51 : decode prog_21_method_8_code 51 = .ok (.iconst 0, 1) := by decide +kernel
theorem d4_52 : decode prog_21_method_8_code 52 = .ok (.ireturn, 1) := by decide +kernel
theorem ef_rmE (m : MethodId) (a : Addr) (b : Addr) : entryFrame m #[(.ref a), (.ref b)] 3 = mkF m 0 #[.val (.ref a), .val (.ref b), .unset] [] := by first | (simp [entryFrame, mkF, argsToLocals, Value.category]; done) | rfl
def Q_rmE (Z : State) (a : Addr) (b : Addr) (o1 : Int64) (s1 : Int32) (t1 : Int64) (o2 : Int64) (s2 : Int32) (t2 : Int64) (h0 : Heap) (n0 : Nat) (v : Option Value) (h : Heap) (L : List Loc) : Prop := v = some (.int (eqF o1 s1 t1 o2 s2 t2)) ∧ Fr n0 L ∧ h = h0
set_option maxRecDepth 65536 in
set_option maxHeartbeats 40000000 in
theorem rmE (l : Launch) (Z : State) (a0 : Array Value) (hw : ∀ d ∈ tables_1, d.before a0 Z = true) (ws : List Jvm.Cond) (a : Addr) (b : Addr) (o1 : Int64) (s1 : Int32) (t1 : Int64) (o2 : Int64) (s2 : Int32) (t2 : Int64) (h0 : Heap) (n0 : Nat) (Z0 : n0 ≤ h0.size) (E2 : Exa Z h0 b "com/example/xixi/xixi/store/ConsumeQueueEntry") (F1_commitLogOffset : Fld Z h0 a "com/example/xixi/xixi/store/ConsumeQueueEntry" "commitLogOffset" "J" (.long o1)) (F1_size : Fld Z h0 a "com/example/xixi/xixi/store/ConsumeQueueEntry" "size" "I" (.int s1)) (F1_tagHash : Fld Z h0 a "com/example/xixi/xixi/store/ConsumeQueueEntry" "tagHash" "J" (.long t1)) (F2_commitLogOffset : Fld Z h0 b "com/example/xixi/xixi/store/ConsumeQueueEntry" "commitLogOffset" "J" (.long o2)) (F2_size : Fld Z h0 b "com/example/xixi/xixi/store/ConsumeQueueEntry" "size" "I" (.int s2)) (F2_tagHash : Fld Z h0 b "com/example/xixi/xixi/store/ConsumeQueueEntry" "tagHash" "J" (.long t2)) :
    MetFree l (⟨"com/example/xixi/xixi/store/ConsumeQueueEntry", "equals", "(Ljava/lang/Object;)Z"⟩ : MethodName) (head1 (Jvm.Cond.code (⟨"com/example/xixi/xixi/store/ConsumeQueueEntry", "equals", "(Ljava/lang/Object;)Z"⟩ : MethodName) prog_21_method_8_code 3 (some .boolean) :: ws) ({ frames := 0, cells := 0, slots := 0, locals := 0 } : Room)) (fun aa U => aa = #[(.ref a), (.ref b)] ∧ Z.Warmed39 U.vm ∧ U.heap = h0) (fun _ _ _ _ _ => True) (fun _ U oo U' => ∃ v L, oo = .returned v ∧ Q_rmE Z a b o1 s1 t1 o2 s2 t2 h0 n0 v U'.heap L ∧ FrameEnd U oo U' L ({ frames := 0, cells := 0, slots := 0, locals := 0 } : Room).cells ({ frames := 0, cells := 0, slots := 0, locals := 0 } : Room).slots) := by
  refine MetFree.of_bodySF (plainFor_of_name pn0) hisR ?_
  intro p e s m args below meth c s₁ Bd hml0 hP hK
  obtain ⟨rfl, hZ, hh⟩ := hP
  have hx := Bd.exec
  have hby := Bd.bytes
  have hml : c.maxLocals = 3 := hml0
  have hown : s.vm.findClass "com/example/xixi/xixi/store/ConsumeQueueEntry" = some m.cls := findClass_of_methodNamed Bd.named
  have hnm := (name_of_methodNamed Bd.named Bd.method).1
  have hlk : meth.locks = false := Bd.notSynchronized
  have hret := Bd.returns
  have X0 : Stand p l e ({ frames := 0, cells := 0, slots := 0, locals := 0 } : Room) s m #[(.ref a), (.ref b)] below meth c s₁ [] 0 0 := Stand.of_body Bd
  have e0 : s₁.heap = h0 := by rw [← hh, Bd.state]; rfl
  have N0 := Fr.nil n0
  have K0 : Keep h0 h0 [] := Keep.refl _ _
  show Goes p e below s (Q_rmE Z a b o1 s1 t1 o2 s2 t2 h0 n0) ({ frames := 0, cells := 0, slots := 0, locals := 0 } : Room).cells ({ frames := 0, cells := 0, slots := 0, locals := 0 } : Room).slots _
  refine Goes.go (fun _ kk => castTop (ef_rmE m a b) kk) ?_
  show Goes _ _ _ _ _ _ _ (s₁.setTop (mkF m 0 #[.val (.ref a), .val (.ref b), .unset] []))
  refine Goes.go (fun _ kk => XS.aloadN X0.here hx rfl (hb hby d4_0) rfl rfl kk) ?_
  show Goes _ _ _ _ _ _ _ (s₁.setTop (mkF m 1 _ [(.ref b)]))
  obtain ⟨T1, X1, e1, st1⟩ := instY X0 hx hZ hown (hw _ (List.mem_of_getElem? (i := 26) rfl)) e0 (Ins.self E2) (g := (mkF m 1 #[.val (.ref a), .val (.ref b), .unset] [(.ref b)])) rfl rfl (hb hby d4_1)
  refine Goes.go (st1) ?_
  show Goes _ _ _ _ _ _ _ (T1.setTop (mkF m 4 _ [(.int (1 : Int32))]))
  refine Goes.go (fun _ kk => XS.ifNo X1.here hx rfl (hb hby d4_4) rfl (XT.i0_eq_f (by decide)) kk) ?_
  show Goes _ _ _ _ _ _ _ (T1.setTop (mkF m 7 _ []))
  refine Goes.go (fun _ kk => XS.aloadN X1.here hx rfl (hb hby d4_7) rfl rfl kk) ?_
  show Goes _ _ _ _ _ _ _ (T1.setTop (mkF m 8 _ [(.ref b)]))
  obtain ⟨T2, X2, e2, st2⟩ := castY X1 hx hZ hown (hw _ (List.mem_of_getElem? (i := 26) rfl)) e1 (Ins.self E2) (g := (mkF m 8 #[.val (.ref a), .val (.ref b), .unset] [(.ref b)])) rfl rfl (hb hby d4_8)
  refine Goes.go (st2) ?_
  show Goes _ _ _ _ _ _ _ (T2.setTop (mkF m 11 _ [(.ref b)]))
  refine Goes.go (fun _ kk => XS.astoreN X2.here hx rfl (hb hby d4_11) rfl rfl (l' := #[.val (.ref a), .val (.ref b), .val (.ref b)]) rfl kk) ?_
  show Goes _ _ _ _ _ _ _ (T2.setTop (mkF m 12 #[.val (.ref a), .val (.ref b), .val (.ref b)] []))
  refine Goes.go (fun _ kk => XS.aloadN X2.here hx rfl (hb hby d4_12) rfl rfl kk) ?_
  show Goes _ _ _ _ _ _ _ (T2.setTop (mkF m 13 _ [(.ref a)]))
  obtain ⟨T3, X3, e3, st3⟩ := getF X2 hx hZ hown (host := "") (Or.inl (hw _ (List.mem_of_getElem? (i := 15) rfl))) Via.refl e2 F1_commitLogOffset (g := (mkF m 13 #[.val (.ref a), .val (.ref b), .val (.ref b)] [(.ref a)])) rfl rfl (hb hby d4_13)
  refine Goes.go (st3) ?_
  show Goes _ _ _ _ _ _ _ (T3.setTop (mkF m 16 _ [(.long o1)]))
  refine Goes.go (fun _ kk => XS.aloadN X3.here hx rfl (hb hby d4_16) rfl rfl kk) ?_
  show Goes _ _ _ _ _ _ _ (T3.setTop (mkF m 17 _ [(.ref b), (.long o1)]))
  obtain ⟨T4, X4, e4, st4⟩ := getF X3 hx hZ hown (host := "") (Or.inl (hw _ (List.mem_of_getElem? (i := 15) rfl))) Via.refl e3 F2_commitLogOffset (g := (mkF m 17 #[.val (.ref a), .val (.ref b), .val (.ref b)] [(.ref b), (.long o1)])) rfl rfl (hb hby d4_17)
  refine Goes.go (st4) ?_
  show Goes _ _ _ _ _ _ _ (T4.setTop (mkF m 20 _ [(.long o2), (.long o1)]))
  refine Goes.go (fun _ kk => XT.lcmp X4.here hx rfl (hb hby d4_20) rfl kk) ?_
  show Goes _ _ _ _ _ _ _ (T4.setTop (mkF m 21 _ [(.int (XT.cmpL o1 o2))]))
  by_cases c21 : o1 = o2
  · skip
    refine Goes.go (fun _ kk => XS.ifNo X4.here hx rfl (hb hby d4_21) rfl (XT.ll_ne_f c21) kk) ?_
    show Goes _ _ _ _ _ _ _ (T4.setTop (mkF m 24 _ []))
    refine Goes.go (fun _ kk => XS.aloadN X4.here hx rfl (hb hby d4_24) rfl rfl kk) ?_
    show Goes _ _ _ _ _ _ _ (T4.setTop (mkF m 25 _ [(.ref a)]))
    obtain ⟨T5, X5, e5, st5⟩ := getF X4 hx hZ hown (host := "") (Or.inl (hw _ (List.mem_of_getElem? (i := 17) rfl))) Via.refl e4 F1_size (g := (mkF m 25 #[.val (.ref a), .val (.ref b), .val (.ref b)] [(.ref a)])) rfl rfl (hb hby d4_25)
    refine Goes.go (st5) ?_
    show Goes _ _ _ _ _ _ _ (T5.setTop (mkF m 28 _ [(.int s1)]))
    refine Goes.go (fun _ kk => XS.aloadN X5.here hx rfl (hb hby d4_28) rfl rfl kk) ?_
    show Goes _ _ _ _ _ _ _ (T5.setTop (mkF m 29 _ [(.ref b), (.int s1)]))
    obtain ⟨T6, X6, e6, st6⟩ := getF X5 hx hZ hown (host := "") (Or.inl (hw _ (List.mem_of_getElem? (i := 17) rfl))) Via.refl e5 F2_size (g := (mkF m 29 #[.val (.ref a), .val (.ref b), .val (.ref b)] [(.ref b), (.int s1)])) rfl rfl (hb hby d4_29)
    refine Goes.go (st6) ?_
    show Goes _ _ _ _ _ _ _ (T6.setTop (mkF m 32 _ [(.int s2), (.int s1)]))
    by_cases c32 : s1 = s2
    · skip
      refine Goes.go (fun _ kk => XS.icmpNo X6.here hx rfl (hb hby d4_32) rfl (XT.ii_ne_f c32) kk) ?_
      show Goes _ _ _ _ _ _ _ (T6.setTop (mkF m 35 _ []))
      refine Goes.go (fun _ kk => XS.aloadN X6.here hx rfl (hb hby d4_35) rfl rfl kk) ?_
      show Goes _ _ _ _ _ _ _ (T6.setTop (mkF m 36 _ [(.ref a)]))
      obtain ⟨T7, X7, e7, st7⟩ := getF X6 hx hZ hown (host := "") (Or.inl (hw _ (List.mem_of_getElem? (i := 19) rfl))) Via.refl e6 F1_tagHash (g := (mkF m 36 #[.val (.ref a), .val (.ref b), .val (.ref b)] [(.ref a)])) rfl rfl (hb hby d4_36)
      refine Goes.go (st7) ?_
      show Goes _ _ _ _ _ _ _ (T7.setTop (mkF m 39 _ [(.long t1)]))
      refine Goes.go (fun _ kk => XS.aloadN X7.here hx rfl (hb hby d4_39) rfl rfl kk) ?_
      show Goes _ _ _ _ _ _ _ (T7.setTop (mkF m 40 _ [(.ref b), (.long t1)]))
      obtain ⟨T8, X8, e8, st8⟩ := getF X7 hx hZ hown (host := "") (Or.inl (hw _ (List.mem_of_getElem? (i := 19) rfl))) Via.refl e7 F2_tagHash (g := (mkF m 40 #[.val (.ref a), .val (.ref b), .val (.ref b)] [(.ref b), (.long t1)])) rfl rfl (hb hby d4_40)
      refine Goes.go (st8) ?_
      show Goes _ _ _ _ _ _ _ (T8.setTop (mkF m 43 _ [(.long t2), (.long t1)]))
      refine Goes.go (fun _ kk => XT.lcmp X8.here hx rfl (hb hby d4_43) rfl kk) ?_
      show Goes _ _ _ _ _ _ _ (T8.setTop (mkF m 44 _ [(.int (XT.cmpL t1 t2))]))
      by_cases c44 : t1 = t2
      · skip
        refine Goes.go (fun _ kk => XS.ifNo X8.here hx rfl (hb hby d4_44) rfl (XT.ll_ne_f c44) kk) ?_
        show Goes _ _ _ _ _ _ _ (T8.setTop (mkF m 47 _ []))
        refine Goes.go (fun _ kk => XS.iconst X8.here hx rfl (hb hby d4_47) kk) ?_
        show Goes _ _ _ _ _ _ _ (T8.setTop (mkF m 48 _ [(.int (1 : Int32))]))
        refine Goes.go (fun _ kk => XS.goto X8.here hx rfl (pc0 := 48) (pc' := 52) rfl (hb hby d4_48) (by decide) (by decide) kk) ?_
        show Goes _ _ _ _ _ _ _ (T8.setTop (mkF m 52 _ [(.int (1 : Int32))]))
        exact Goes.outZ X8 hx hlk hret rfl (hb hby d4_52) e8 ⟨by simp only [eqF, if_pos c21, if_pos c32, if_pos c44], N0, rfl⟩ (by decide) (by decide)
      · skip
        refine Goes.go (fun _ kk => XS.ifYes X8.here hx rfl (pc0 := 44) (pc' := 51) rfl (hb hby d4_44) rfl (XT.ll_ne_t c44) (by decide) (by decide) kk) ?_
        show Goes _ _ _ _ _ _ _ (T8.setTop (mkF m 51 _ []))
        refine Goes.go (fun _ kk => XS.iconst X8.here hx rfl (hb hby d4_51) kk) ?_
        show Goes _ _ _ _ _ _ _ (T8.setTop (mkF m 52 _ [(.int (0 : Int32))]))
        exact Goes.outZ X8 hx hlk hret rfl (hb hby d4_52) e8 ⟨by simp only [eqF, if_pos c21, if_pos c32, if_neg c44], N0, rfl⟩ (by decide) (by decide)
    · skip
      refine Goes.go (fun _ kk => XS.icmpYes X6.here hx rfl (pc0 := 32) (pc' := 51) rfl (hb hby d4_32) rfl (XT.ii_ne_t c32) (by decide) (by decide) kk) ?_
      show Goes _ _ _ _ _ _ _ (T6.setTop (mkF m 51 _ []))
      refine Goes.go (fun _ kk => XS.iconst X6.here hx rfl (hb hby d4_51) kk) ?_
      show Goes _ _ _ _ _ _ _ (T6.setTop (mkF m 52 _ [(.int (0 : Int32))]))
      exact Goes.outZ X6 hx hlk hret rfl (hb hby d4_52) e6 ⟨by simp only [eqF, if_pos c21, if_neg c32], N0, rfl⟩ (by decide) (by decide)
  · skip
    refine Goes.go (fun _ kk => XS.ifYes X4.here hx rfl (pc0 := 21) (pc' := 51) rfl (hb hby d4_21) rfl (XT.ll_ne_t c21) (by decide) (by decide) kk) ?_
    show Goes _ _ _ _ _ _ _ (T4.setTop (mkF m 51 _ []))
    refine Goes.go (fun _ kk => XS.iconst X4.here hx rfl (hb hby d4_51) kk) ?_
    show Goes _ _ _ _ _ _ _ (T4.setTop (mkF m 52 _ [(.int (0 : Int32))]))
    exact Goes.outZ X4 hx hlk hret rfl (hb hby d4_52) e4 ⟨by simp only [eqF, if_neg c21], N0, rfl⟩ (by decide) (by decide)
theorem ef_rmN (m : MethodId) (a : Addr) : entryFrame m #[(.ref a), .null] 3 = mkF m 0 #[.val (.ref a), .val .null, .unset] [] := by first | (simp [entryFrame, mkF, argsToLocals, Value.category]; done) | rfl
def Q_rmN (Z : State) (a : Addr) (h0 : Heap) (n0 : Nat) (v : Option Value) (h : Heap) (L : List Loc) : Prop := v = some (.int (0 : Int32)) ∧ Fr n0 L ∧ h = h0
set_option maxRecDepth 65536 in
set_option maxHeartbeats 40000000 in
theorem rmN (l : Launch) (Z : State) (a0 : Array Value) (hw : ∀ d ∈ tables_1, d.before a0 Z = true) (ws : List Jvm.Cond) (a : Addr) (h0 : Heap) (n0 : Nat) (Z0 : n0 ≤ h0.size)  :
    MetFree l (⟨"com/example/xixi/xixi/store/ConsumeQueueEntry", "equals", "(Ljava/lang/Object;)Z"⟩ : MethodName) (head1 (Jvm.Cond.code (⟨"com/example/xixi/xixi/store/ConsumeQueueEntry", "equals", "(Ljava/lang/Object;)Z"⟩ : MethodName) prog_21_method_8_code 3 (some .boolean) :: ws) ({ frames := 0, cells := 0, slots := 0, locals := 0 } : Room)) (fun aa U => aa = #[(.ref a), .null] ∧ Z.Warmed39 U.vm ∧ U.heap = h0) (fun _ _ _ _ _ => True) (fun _ U oo U' => ∃ v L, oo = .returned v ∧ Q_rmN Z a h0 n0 v U'.heap L ∧ FrameEnd U oo U' L ({ frames := 0, cells := 0, slots := 0, locals := 0 } : Room).cells ({ frames := 0, cells := 0, slots := 0, locals := 0 } : Room).slots) := by
  refine MetFree.of_bodySF (plainFor_of_name pn0) hisR ?_
  intro p e s m args below meth c s₁ Bd hml0 hP hK
  obtain ⟨rfl, hZ, hh⟩ := hP
  have hx := Bd.exec
  have hby := Bd.bytes
  have hml : c.maxLocals = 3 := hml0
  have hown : s.vm.findClass "com/example/xixi/xixi/store/ConsumeQueueEntry" = some m.cls := findClass_of_methodNamed Bd.named
  have hnm := (name_of_methodNamed Bd.named Bd.method).1
  have hlk : meth.locks = false := Bd.notSynchronized
  have hret := Bd.returns
  have X0 : Stand p l e ({ frames := 0, cells := 0, slots := 0, locals := 0 } : Room) s m #[(.ref a), .null] below meth c s₁ [] 0 0 := Stand.of_body Bd
  have e0 : s₁.heap = h0 := by rw [← hh, Bd.state]; rfl
  have N0 := Fr.nil n0
  have K0 : Keep h0 h0 [] := Keep.refl _ _
  show Goes p e below s (Q_rmN Z a h0 n0) ({ frames := 0, cells := 0, slots := 0, locals := 0 } : Room).cells ({ frames := 0, cells := 0, slots := 0, locals := 0 } : Room).slots _
  refine Goes.go (fun _ kk => castTop (ef_rmN m a) kk) ?_
  show Goes _ _ _ _ _ _ _ (s₁.setTop (mkF m 0 #[.val (.ref a), .val .null, .unset] []))
  refine Goes.go (fun _ kk => XS.aloadN X0.here hx rfl (hb hby d4_0) rfl rfl kk) ?_
  show Goes _ _ _ _ _ _ _ (s₁.setTop (mkF m 1 _ [.null]))
  refine Goes.go (Jvm.Stand.instanceofNull X0 hx rfl rfl (hb hby d4_1)) ?_
  show Goes _ _ _ _ _ _ _ (s₁.setTop (mkF m 4 _ [(.int (0 : Int32))]))
  refine Goes.go (fun _ kk => XS.ifYes X0.here hx rfl (pc0 := 4) (pc' := 51) rfl (hb hby d4_4) rfl (XT.i0_eq_t (by decide)) (by decide) (by decide) kk) ?_
  show Goes _ _ _ _ _ _ _ (s₁.setTop (mkF m 51 _ []))
  refine Goes.go (fun _ kk => XS.iconst X0.here hx rfl (hb hby d4_51) kk) ?_
  show Goes _ _ _ _ _ _ _ (s₁.setTop (mkF m 52 _ [(.int (0 : Int32))]))
  exact Goes.outZ X0 hx hlk hret rfl (hb hby d4_52) e0 ⟨rfl, N0, rfl⟩ (by decide) (by decide)
theorem ef_rmL (m : MethodId) (a : Addr) (b : Addr) : entryFrame m #[(.ref a), (.ref b)] 3 = mkF m 0 #[.val (.ref a), .val (.ref b), .unset] [] := by first | (simp [entryFrame, mkF, argsToLocals, Value.category]; done) | rfl
def Q_rmL (Z : State) (a : Addr) (b : Addr) (h0 : Heap) (n0 : Nat) (v : Option Value) (h : Heap) (L : List Loc) : Prop := v = some (.int (0 : Int32)) ∧ Fr n0 L ∧ h = h0
set_option maxRecDepth 65536 in
set_option maxHeartbeats 40000000 in
theorem rmL (l : Launch) (Z : State) (a0 : Array Value) (hw : ∀ d ∈ tables_1, d.before a0 Z = true) (ws : List Jvm.Cond) (a : Addr) (b : Addr) (h0 : Heap) (n0 : Nat) (Z0 : n0 ≤ h0.size) (E2 : Exa Z h0 b "java/lang/Long") :
    MetFree l (⟨"com/example/xixi/xixi/store/ConsumeQueueEntry", "equals", "(Ljava/lang/Object;)Z"⟩ : MethodName) (head1 (Jvm.Cond.code (⟨"com/example/xixi/xixi/store/ConsumeQueueEntry", "equals", "(Ljava/lang/Object;)Z"⟩ : MethodName) prog_21_method_8_code 3 (some .boolean) :: ws) ({ frames := 0, cells := 0, slots := 0, locals := 0 } : Room)) (fun aa U => aa = #[(.ref a), (.ref b)] ∧ Z.Warmed39 U.vm ∧ U.heap = h0) (fun _ _ _ _ _ => True) (fun _ U oo U' => ∃ v L, oo = .returned v ∧ Q_rmL Z a b h0 n0 v U'.heap L ∧ FrameEnd U oo U' L ({ frames := 0, cells := 0, slots := 0, locals := 0 } : Room).cells ({ frames := 0, cells := 0, slots := 0, locals := 0 } : Room).slots) := by
  refine MetFree.of_bodySF (plainFor_of_name pn0) hisR ?_
  intro p e s m args below meth c s₁ Bd hml0 hP hK
  obtain ⟨rfl, hZ, hh⟩ := hP
  have hx := Bd.exec
  have hby := Bd.bytes
  have hml : c.maxLocals = 3 := hml0
  have hown : s.vm.findClass "com/example/xixi/xixi/store/ConsumeQueueEntry" = some m.cls := findClass_of_methodNamed Bd.named
  have hnm := (name_of_methodNamed Bd.named Bd.method).1
  have hlk : meth.locks = false := Bd.notSynchronized
  have hret := Bd.returns
  have X0 : Stand p l e ({ frames := 0, cells := 0, slots := 0, locals := 0 } : Room) s m #[(.ref a), (.ref b)] below meth c s₁ [] 0 0 := Stand.of_body Bd
  have e0 : s₁.heap = h0 := by rw [← hh, Bd.state]; rfl
  have N0 := Fr.nil n0
  have K0 : Keep h0 h0 [] := Keep.refl _ _
  show Goes p e below s (Q_rmL Z a b h0 n0) ({ frames := 0, cells := 0, slots := 0, locals := 0 } : Room).cells ({ frames := 0, cells := 0, slots := 0, locals := 0 } : Room).slots _
  refine Goes.go (fun _ kk => castTop (ef_rmL m a b) kk) ?_
  have hno := own_noAs (hw _ (List.mem_of_getElem? (i := 49) rfl)) (hw _ (List.mem_of_getElem? (i := 7) rfl)) (NS.step (hw _ (List.mem_of_getElem? (i := 49) rfl)) (NS.step (hw _ (List.mem_of_getElem? (i := 50) rfl)) (own_root (hw _ (List.mem_of_getElem? (i := 51) rfl)) (hw _ (List.mem_of_getElem? (i := 7) rfl)) (by decide)) (by decide)) (by decide)) (by decide)
  show Goes _ _ _ _ _ _ _ (s₁.setTop (mkF m 0 #[.val (.ref a), .val (.ref b), .unset] []))
  refine Goes.go (fun _ kk => XS.aloadN X0.here hx rfl (hb hby d4_0) rfl rfl kk) ?_
  show Goes _ _ _ _ _ _ _ (s₁.setTop (mkF m 1 _ [(.ref b)]))
  obtain ⟨T1, X1, e1, st1⟩ := instNo X0 hx hZ hown (hw _ (List.mem_of_getElem? (i := 26) rfl)) e0 E2 hno (g := (mkF m 1 #[.val (.ref a), .val (.ref b), .unset] [(.ref b)])) rfl rfl (hb hby d4_1)
  refine Goes.go (st1) ?_
  show Goes _ _ _ _ _ _ _ (T1.setTop (mkF m 4 _ [(.int (0 : Int32))]))
  refine Goes.go (fun _ kk => XS.ifYes X1.here hx rfl (pc0 := 4) (pc' := 51) rfl (hb hby d4_4) rfl (XT.i0_eq_t (by decide)) (by decide) (by decide) kk) ?_
  show Goes _ _ _ _ _ _ _ (T1.setTop (mkF m 51 _ []))
  refine Goes.go (fun _ kk => XS.iconst X1.here hx rfl (hb hby d4_51) kk) ?_
  show Goes _ _ _ _ _ _ _ (T1.setTop (mkF m 52 _ [(.int (0 : Int32))]))
  exact Goes.outZ X1 hx hlk hret rfl (hb hby d4_52) e1 ⟨rfl, N0, rfl⟩ (by decide) (by decide)
theorem d7_0 : decode jdk_18_method_1_code 0 = .ok (.aload_n 0, 1) := by decide +kernel
theorem d7_1 : decode jdk_18_method_1_code 1 = .ok (.invokespecial 1, 3) := by decide +kernel
theorem d7_4 : decode jdk_18_method_1_code 4 = .ok (.return_, 1) := by decide +kernel
theorem pn1 : plainName "java/lang/Number" = true := by first | (simp [plainName, overriddenIn]; done) | decide +kernel
theorem ef_rmNu (m : MethodId) (a : Addr) : entryFrame m #[(.ref a)] 1 = mkF m 0 #[.val (.ref a)] [] := by first | (simp [entryFrame, mkF, argsToLocals, Value.category]; done) | rfl
def Q_rmNu (Z : State) (a : Addr) (h0 : Heap) (n0 : Nat) (v : Option Value) (h : Heap) (L : List Loc) : Prop := v = none ∧ Fr n0 L ∧ h = h0
set_option maxRecDepth 65536 in
set_option maxHeartbeats 40000000 in
theorem rmNu (l : Launch) (Z : State) (a0 : Array Value) (hw : ∀ d ∈ tables_1, d.before a0 Z = true) (ws : List Jvm.Cond) (a : Addr) (h0 : Heap) (n0 : Nat) (Z0 : n0 ≤ h0.size)  :
    MetFree l (⟨"java/lang/Number", "<init>", "()V"⟩ : MethodName) (head1 (Jvm.Cond.code (⟨"java/lang/Number", "<init>", "()V"⟩ : MethodName) jdk_18_method_1_code 1 none :: ws) ({ frames := 1, cells := 0, slots := 0, locals := 12 } : Room)) (fun aa U => aa = #[(.ref a)] ∧ Z.Warmed39 U.vm ∧ U.heap = h0) (fun _ _ _ _ _ => True) (fun _ U oo U' => ∃ v L, oo = .returned v ∧ Q_rmNu Z a h0 n0 v U'.heap L ∧ FrameEnd U oo U' L ({ frames := 1, cells := 0, slots := 0, locals := 12 } : Room).cells ({ frames := 1, cells := 0, slots := 0, locals := 12 } : Room).slots) := by
  refine MetFree.of_bodySF (plainFor_of_name pn1) hisR ?_
  intro p e s m args below meth c s₁ Bd hml0 hP hK
  obtain ⟨rfl, hZ, hh⟩ := hP
  have hx := Bd.exec
  have hby := Bd.bytes
  have hml : c.maxLocals = 1 := hml0
  have hown : s.vm.findClass "java/lang/Number" = some m.cls := findClass_of_methodNamed Bd.named
  have hnm := (name_of_methodNamed Bd.named Bd.method).1
  have hlk : meth.locks = false := Bd.notSynchronized
  have hret := Bd.returns
  have X0 : Stand p l e ({ frames := 1, cells := 0, slots := 0, locals := 12 } : Room) s m #[(.ref a)] below meth c s₁ [] 0 0 := Stand.of_body Bd
  have e0 : s₁.heap = h0 := by rw [← hh, Bd.state]; rfl
  have N0 := Fr.nil n0
  have K0 : Keep h0 h0 [] := Keep.refl _ _
  show Goes p e below s (Q_rmNu Z a h0 n0) ({ frames := 1, cells := 0, slots := 0, locals := 12 } : Room).cells ({ frames := 1, cells := 0, slots := 0, locals := 12 } : Room).slots _
  refine Goes.go (fun _ kk => castTop (ef_rmNu m a) kk) ?_
  show Goes _ _ _ _ _ _ _ (s₁.setTop (mkF m 0 #[.val (.ref a)] []))
  refine Goes.go (fun _ kk => XS.aloadN X0.here hx rfl (hb hby d7_0) rfl rfl kk) ?_
  show Goes _ _ _ _ _ _ _ (s₁.setTop (mkF m 1 _ [(.ref a)]))
  obtain ⟨T1, X1, e1, st1⟩ := initO X0 hx hZ hown (hw _ (List.mem_of_getElem? (i := 46) rfl)) (hw _ (List.mem_of_getElem? (i := 13) rfl)) (hw _ (List.mem_of_getElem? (i := 14) rfl)) e0 (g := (mkF m 1 #[.val (.ref a)] [(.ref a)])) rfl (by rw [hml]; rfl) rfl (hb hby d7_1) (by decide) (W := 0) (by show 2 * 0 + _ ≤ _; exact Nat.le_of_eq rfl) (by decide)
  refine Goes.go (st1) ?_
  show Goes _ _ _ _ _ _ _ (T1.setTop (mkF m 4 _ []))
  exact Goes.outV X1 hx hlk hret (hb hby d7_4) e1 ⟨rfl, N0, rfl⟩ (by decide) (by decide)
theorem d6_0 : decode jdk_35_method_26_code 0 = .ok (.aload_n 0, 1) := by decide +kernel
theorem d6_1 : decode jdk_35_method_26_code 1 = .ok (.invokespecial 270, 3) := by decide +kernel
theorem d6_4 : decode jdk_35_method_26_code 4 = .ok (.aload_n 0, 1) := by decide +kernel
theorem d6_5 : decode jdk_35_method_26_code 5 = .ok (.lload_n 1, 1) := by decide +kernel
theorem d6_6 : decode jdk_35_method_26_code 6 = .ok (.putfield 273, 3) := by decide +kernel
theorem d6_9 : decode jdk_35_method_26_code 9 = .ok (.return_, 1) := by decide +kernel
theorem pn2 : plainName "java/lang/Long" = true := by first | (simp [plainName, overriddenIn]; done) | decide +kernel
theorem ef_rmLi (m : MethodId) (a : Addr) (p0 : Int64) : entryFrame m #[(.ref a), (.long p0)] 3 = mkF m 0 #[.val (.ref a), .val (.long p0), .second] [] := by first | (simp [entryFrame, mkF, argsToLocals, Value.category]; done) | rfl
def Q_rmLi (Z : State) (a : Addr) (p0 : Int64) (h0 : Heap) (n0 : Nat) (v : Option Value) (h : Heap) (L : List Loc) : Prop := v = none ∧ Fr n0 L ∧ Keep h0 h [a] ∧ Exa Z h a "java/lang/Long" ∧ Fld Z h a "java/lang/Long" "value" "J" (.long p0)
set_option maxRecDepth 65536 in
set_option maxHeartbeats 40000000 in
theorem rmLi (l : Launch) (Z : State) (a0 : Array Value) (hw : ∀ d ∈ tables_1, d.before a0 Z = true) (ws : List Jvm.Cond) (a : Addr) (p0 : Int64) (h0 : Heap) (n0 : Nat) (Z0 : n0 ≤ h0.size) (E0 : Exa Z h0 a "java/lang/Long") (F_value : Fld Z h0 a "java/lang/Long" "value" "J" (.long (0 : Int64))) (ga : n0 ≤ a) :
    MetFree l (⟨"java/lang/Long", "<init>", "(J)V"⟩ : MethodName) (head1 (Jvm.Cond.code (⟨"java/lang/Long", "<init>", "(J)V"⟩ : MethodName) jdk_35_method_26_code 3 none :: ws) ({ frames := 2, cells := 0, slots := 0, locals := 24 } : Room)) (fun aa U => aa = #[(.ref a), (.long p0)] ∧ Z.Warmed39 U.vm ∧ U.heap = h0) (fun _ _ _ _ _ => True) (fun _ U oo U' => ∃ v L, oo = .returned v ∧ Q_rmLi Z a p0 h0 n0 v U'.heap L ∧ FrameEnd U oo U' L ({ frames := 2, cells := 0, slots := 0, locals := 24 } : Room).cells ({ frames := 2, cells := 0, slots := 0, locals := 24 } : Room).slots) := by
  refine MetFree.of_bodySF (plainFor_of_name pn2) hisR ?_
  intro p e s m args below meth c s₁ Bd hml0 hP hK
  obtain ⟨rfl, hZ, hh⟩ := hP
  have hx := Bd.exec
  have hby := Bd.bytes
  have hml : c.maxLocals = 3 := hml0
  have hown : s.vm.findClass "java/lang/Long" = some m.cls := findClass_of_methodNamed Bd.named
  have hnm := (name_of_methodNamed Bd.named Bd.method).1
  have hlk : meth.locks = false := Bd.notSynchronized
  have hret := Bd.returns
  have X0 : Stand p l e ({ frames := 2, cells := 0, slots := 0, locals := 24 } : Room) s m #[(.ref a), (.long p0)] below meth c s₁ [] 0 0 := Stand.of_body Bd
  have e0 : s₁.heap = h0 := by rw [← hh, Bd.state]; rfl
  have N0 := Fr.nil n0
  have K0 : Keep h0 h0 [a] := Keep.refl _ _
  show Goes p e below s (Q_rmLi Z a p0 h0 n0) ({ frames := 2, cells := 0, slots := 0, locals := 24 } : Room).cells ({ frames := 2, cells := 0, slots := 0, locals := 24 } : Room).slots _
  refine Goes.go (fun _ kk => castTop (ef_rmLi m a p0) kk) ?_
  show Goes _ _ _ _ _ _ _ (s₁.setTop (mkF m 0 #[.val (.ref a), .val (.long p0), .second] []))
  refine Goes.go (fun _ kk => XS.aloadN X0.here hx rfl (hb hby d6_0) rfl rfl kk) ?_
  show Goes _ _ _ _ _ _ _ (s₁.setTop (mkF m 1 _ [(.ref a)]))
  obtain ⟨_, _, ⟨T1, L1, k1, n1⟩, -, X1, ⟨Lc1, hQ1, l1, y1, z1⟩, st1⟩ := X0.specialBack hx (y := (⟨"java/lang/Number", "<init>", "()V"⟩ : MethodName)) rfl hown (mvT hZ (hw _ (List.mem_of_getElem? (i := 40) rfl))) (mvT hZ (hw _ (List.mem_of_getElem? (i := 41) rfl))) (mvT hZ (hw _ (List.mem_of_getElem? (i := 45) rfl))) (by decide) (backOf (W := 0) (rmNu l Z a0 hw [] a h0 n0 Z0) hZ (hw _ (List.mem_of_getElem? (i := 45) rfl)) (hw _ (List.mem_of_getElem? (i := 44) rfl)) (by decide) (by decide)) (g := (mkF m 1 #[.val (.ref a), .val (.long p0), .second] [(.ref a)])) rfl (by rw [hml]; rfl) (Steps.refl _) (a := a) (argsL := []) (rest := []) (lenOf pd2 rfl) rfl (by show 2 * 0 + _ ≤ _; exact Nat.le_of_eq rfl) (hb hby d6_1) (fun _ _ => ⟨rfl, e0, (by decide : 0 + 0 ≤ _), (by decide : 0 + 0 ≤ _)⟩)
  dsimp only [Pt.U, Pt.locs, Pt.cells, Pt.slots] at X1 l1 y1 z1 st1 hQ1
  subst l1 y1 z1
  obtain ⟨rfl, Nq1, hh1⟩ := hQ1
  have N1 := Fr.app N0 Nq1
  refine Goes.go (fun _ kk => st1.trans kk) ?_
  show Goes _ _ _ _ _ _ _ (T1.setTop (mkF m 4 _ []))
  refine Goes.go (fun _ kk => XS.aloadN X1.here hx rfl (hb hby d6_4) rfl rfl kk) ?_
  show Goes _ _ _ _ _ _ _ (T1.setTop (mkF m 5 _ [(.ref a)]))
  refine Goes.go (fun _ kk => XS.lloadN X1.here hx rfl (hb hby d6_5) rfl kk) ?_
  show Goes _ _ _ _ _ _ _ (T1.setTop (mkF m 6 _ [(.long p0), (.ref a)]))
  obtain ⟨T2, h2, X2, e2, W2, st2⟩ := putF X1 hx hZ hown (host := "") (Or.inl (hw _ (List.mem_of_getElem? (i := 47) rfl))) Via.refl hh1 F_value E0 (Or.inr ⟨(hw _ (List.mem_of_getElem? (i := 48) rfl)), rfl, hnm⟩) (hw _ (List.mem_of_getElem? (i := 35) rfl)) (ty := .long) (by decide) rfl rfl (g := (mkF m 6 #[.val (.ref a), .val (.long p0), .second] [(.long p0), (.ref a)])) rfl rfl (hb hby d6_6)
  have N2 := Fr.snoc X2 N1 ga
  have f := Exa.wr W2 E0
  have f_1 := Fld.same W2 F_value
  have Z2 : n0 ≤ h2.size := by rw [W2.size]; exact Z0
  have K2 := K0.wr W2 (Or.inl (List.mem_of_getElem? (i := 0) rfl))
  refine Goes.go (st2) ?_
  show Goes _ _ _ _ _ _ _ (T2.setTop (mkF m 9 _ []))
  exact Goes.outV X2 hx hlk hret (hb hby d6_9) e2 ⟨rfl, N2, K2, f, f_1⟩ (by decide) (by decide)
theorem d5_0 : decode jdk_35_method_24_code 0 = .ok (.sipush 128, 3) := by decide +kernel
theorem d5_3 : decode jdk_35_method_24_code 3 = .ok (.istore_n 2, 1) := by decide +kernel
theorem d5_4 : decode jdk_35_method_24_code 4 = .ok (.lload_n 0, 1) := by decide +kernel
theorem d5_5 : decode jdk_35_method_24_code 5 = .ok (.ldc2_w 230, 3) := by decide +kernel
theorem d5_8 : decode jdk_35_method_24_code 8 = .ok (.lcmp, 1) := by decide +kernel
theorem d5_9 : decode jdk_35_method_24_code 9 = .ok (.ifCond .lt 22, 3) := by decide +kernel
theorem d5_12 : decode jdk_35_method_24_code 12 = .ok (.lload_n 0, 1) := by decide +kernel
theorem d5_13 : decode jdk_35_method_24_code 13 = .ok (.ldc2_w 232, 3) := by decide +kernel
theorem d5_16 : decode jdk_35_method_24_code 16 = .ok (.lcmp, 1) := by decide +kernel
theorem d5_17 : decode jdk_35_method_24_code 17 = .ok (.ifCond .gt 14, 3) := by decide +kernel
theorem d5_20 : decode jdk_35_method_24_code 20 = .ok (.getstatic 234, 3) := by decide +kernel
theorem d5_23 : decode jdk_35_method_24_code 23 = .ok (.lload_n 0, 1) := by decide +kernel
theorem d5_24 : decode jdk_35_method_24_code 24 = .ok (.l2i, 1) := by decide +kernel
theorem d5_25 : decode jdk_35_method_24_code 25 = .ok (.sipush 128, 3) := by decide +kernel
theorem d5_28 : decode jdk_35_method_24_code 28 = .ok (.iadd, 1) := by decide +kernel
theorem d5_29 : decode jdk_35_method_24_code 29 = .ok (.aaload, 1) := by decide +kernel
theorem d5_30 : decode jdk_35_method_24_code 30 = .ok (.areturn, 1) := by decide +kernel
theorem d5_31 : decode jdk_35_method_24_code 31 = .ok (.new 1, 3) := by decide +kernel
theorem d5_34 : decode jdk_35_method_24_code 34 = .ok (.dup, 1) := by decide +kernel
theorem d5_35 : decode jdk_35_method_24_code 35 = .ok (.lload_n 0, 1) := by decide +kernel
theorem d5_36 : decode jdk_35_method_24_code 36 = .ok (.invokespecial 240, 3) := by decide +kernel
theorem d5_39 : decode jdk_35_method_24_code 39 = .ok (.areturn, 1) := by decide +kernel
theorem ef_rmV (m : MethodId) (p0 : Int64) : entryFrame m #[(.long p0)] 3 = mkF m 0 #[.val (.long p0), .second, .unset] [] := by first | (simp [entryFrame, mkF, argsToLocals, Value.category]; done) | rfl
def Q_rmV (Z : State) (p0 : Int64) (h0 : Heap) (n0 : Nat) (v : Option Value) (h : Heap) (L : List Loc) : Prop := ∃ x : Addr, v = some (.ref x) ∧ Fr n0 L ∧ Keep h0 h [] ∧ Exa Z h x "java/lang/Long"
set_option maxRecDepth 65536 in
set_option maxHeartbeats 40000000 in
theorem rmV (l : Launch) (Z : State) (a0 : Array Value) (hw : ∀ d ∈ tables_1, d.before a0 Z = true) (ws : List Jvm.Cond) (p0 : Int64) (h0 : Heap) (n0 : Nat) (Z0 : n0 ≤ h0.size) (hp : ¬ p0 < (0 : Int64)) (hC : LC Z h0) :
    MetFree l (⟨"java/lang/Long", "valueOf", "(J)Ljava/lang/Long;"⟩ : MethodName) (head1 (Jvm.Cond.code (⟨"java/lang/Long", "valueOf", "(J)Ljava/lang/Long;"⟩ : MethodName) jdk_35_method_24_code 3 (some (.object "java/lang/Long")) :: ws) ({ frames := 3, cells := 1, slots := 1, locals := 42 } : Room)) (fun aa U => aa = #[(.long p0)] ∧ Z.Warmed39 U.vm ∧ U.heap = h0) (fun _ _ _ _ _ => True) (fun _ U oo U' => ∃ v L, oo = .returned v ∧ Q_rmV Z p0 h0 n0 v U'.heap L ∧ FrameEnd U oo U' L ({ frames := 3, cells := 1, slots := 1, locals := 42 } : Room).cells ({ frames := 3, cells := 1, slots := 1, locals := 42 } : Room).slots) := by
  refine MetFree.of_bodySF (plainFor_of_name pn2) hisR ?_
  intro p e s m args below meth c s₁ Bd hml0 hP hK
  obtain ⟨rfl, hZ, hh⟩ := hP
  have hx := Bd.exec
  have hby := Bd.bytes
  have hml : c.maxLocals = 3 := hml0
  have hown : s.vm.findClass "java/lang/Long" = some m.cls := findClass_of_methodNamed Bd.named
  have hnm := (name_of_methodNamed Bd.named Bd.method).1
  have hlk : meth.locks = false := Bd.notSynchronized
  have hret := Bd.returns
  have X0 : Stand p l e ({ frames := 3, cells := 1, slots := 1, locals := 42 } : Room) s m #[(.long p0)] below meth c s₁ [] 0 0 := Stand.of_body Bd
  have e0 : s₁.heap = h0 := by rw [← hh, Bd.state]; rfl
  have N0 := Fr.nil n0
  have K0 : Keep h0 h0 [] := Keep.refl _ _
  show Goes p e below s (Q_rmV Z p0 h0 n0) ({ frames := 3, cells := 1, slots := 1, locals := 42 } : Room).cells ({ frames := 3, cells := 1, slots := 1, locals := 42 } : Room).slots _
  refine Goes.go (fun _ kk => castTop (ef_rmV m p0) kk) ?_
  obtain ⟨ca, cl, f1, f2, f3, f4⟩ := hC
  show Goes _ _ _ _ _ _ _ (s₁.setTop (mkF m 0 #[.val (.long p0), .second, .unset] []))
  refine Goes.go (fun _ kk => XS.sipush X0.here hx rfl (hb hby d5_0) kk) ?_
  show Goes _ _ _ _ _ _ _ (s₁.setTop (mkF m 3 _ [(.int (128 : Int32))]))
  refine Goes.go (fun _ kk => XS.istoreN X0.here hx rfl (hb hby d5_3) rfl (l' := #[.val (.long p0), .second, .val (.int (128 : Int32))]) rfl kk) ?_
  show Goes _ _ _ _ _ _ _ (s₁.setTop (mkF m 4 #[.val (.long p0), .second, .val (.int (128 : Int32))] []))
  refine Goes.go (fun _ kk => XS.lloadN X0.here hx rfl (hb hby d5_4) rfl kk) ?_
  show Goes _ _ _ _ _ _ _ (s₁.setTop (mkF m 5 _ [(.long p0)]))
  refine Goes.go (fun _ kk => X0.ldc2J hx (v := (-128 : Int64)) hown (mvT hZ (hw _ (List.mem_of_getElem? (i := 32) rfl))) rfl (hb hby d5_5) kk) ?_
  show Goes _ _ _ _ _ _ _ (s₁.setTop (mkF m 8 _ [(.long (-128 : Int64)), (.long p0)]))
  refine Goes.go (fun _ kk => XT.lcmp X0.here hx rfl (hb hby d5_8) rfl kk) ?_
  show Goes _ _ _ _ _ _ _ (s₁.setTop (mkF m 9 _ [(.int (XT.cmpL p0 (-128 : Int64)))]))
  refine Goes.go (fun _ kk => XS.ifNo X0.here hx rfl (hb hby d5_9) rfl (XT.ll_lt_f (own_128 hp)) kk) ?_
  show Goes _ _ _ _ _ _ _ (s₁.setTop (mkF m 12 _ []))
  refine Goes.go (fun _ kk => XS.lloadN X0.here hx rfl (hb hby d5_12) rfl kk) ?_
  show Goes _ _ _ _ _ _ _ (s₁.setTop (mkF m 13 _ [(.long p0)]))
  refine Goes.go (fun _ kk => X0.ldc2J hx (v := (127 : Int64)) hown (mvT hZ (hw _ (List.mem_of_getElem? (i := 33) rfl))) rfl (hb hby d5_13) kk) ?_
  show Goes _ _ _ _ _ _ _ (s₁.setTop (mkF m 16 _ [(.long (127 : Int64)), (.long p0)]))
  refine Goes.go (fun _ kk => XT.lcmp X0.here hx rfl (hb hby d5_16) rfl kk) ?_
  show Goes _ _ _ _ _ _ _ (s₁.setTop (mkF m 17 _ [(.int (XT.cmpL p0 (127 : Int64)))]))
  by_cases c17 : (127 : Int64) < p0
  · skip
    refine Goes.go (fun _ kk => XS.ifYes X0.here hx rfl (pc0 := 17) (pc' := 31) rfl (hb hby d5_17) rfl (XT.ll_gt_t c17) (by decide) (by decide) kk) ?_
    show Goes _ _ _ _ _ _ _ (s₁.setTop (mkF m 31 _ []))
    obtain ⟨T1, h1, X1, e1, E1, A1, D1, -, st1⟩ := newO X0 hx hZ hown (hw _ (List.mem_of_getElem? (i := 34) rfl)) (hw _ (List.mem_of_getElem? (i := 35) rfl)) (hw _ (List.mem_of_getElem? (i := 30) rfl)) e0 (g := (mkF m 31 #[.val (.long p0), .second, .val (.int (128 : Int32))] [])) rfl (hb hby d5_31) (by decide) (by decide)
    obtain ⟨ob31, gob31⟩ : ∃ z, z = h0.size := ⟨_, rfl⟩
    rw [← gob31] at A1 D1 st1
    have Z1 : n0 ≤ h1.size := Nat.le_trans Z0 E1.1
    have ge_ob31 : n0 ≤ ob31 := Nat.le_trans Z0 (Nat.le_of_eq gob31.symm)
    have kge_ob31 : h0.size ≤ ob31 := by rw [gob31]; exact K0.1
    have f : Fld Z h1 ob31 "java/lang/Long" "value" "J" (.long (0 : Int64)) := D1 (Or.inr (hw _ (List.mem_of_getElem? (i := 48) rfl))) (ty := .long) (by decide)
    have K1 := K0.ext E1
    refine Goes.go (st1) ?_
    show Goes _ _ _ _ _ _ _ (T1.setTop (mkF m 34 _ [(.ref ob31)]))
    refine Goes.go (fun _ kk => XS.dup X1.here hx rfl (hb hby d5_34) rfl rfl kk) ?_
    show Goes _ _ _ _ _ _ _ (T1.setTop (mkF m 35 _ [(.ref ob31), (.ref ob31)]))
    refine Goes.go (fun _ kk => XS.lloadN X1.here hx rfl (hb hby d5_35) rfl kk) ?_
    show Goes _ _ _ _ _ _ _ (T1.setTop (mkF m 36 _ [(.long p0), (.ref ob31), (.ref ob31)]))
    obtain ⟨_, _, ⟨T2, L2, k2, n2⟩, -, X2, ⟨Lc2, hQ2, l2, y2, z2⟩, st2⟩ := X1.specialBack hx (y := (⟨"java/lang/Long", "<init>", "(J)V"⟩ : MethodName)) rfl hown (mvT hZ (hw _ (List.mem_of_getElem? (i := 36) rfl))) (mvT hZ (hw _ (List.mem_of_getElem? (i := 37) rfl))) (mvT hZ (hw _ (List.mem_of_getElem? (i := 39) rfl))) (by decide) (backOf (W := 1) (rmLi l Z a0 hw [] ob31 p0 h1 n0 Z1 A1 f ge_ob31) hZ (hw _ (List.mem_of_getElem? (i := 39) rfl)) (hw _ (List.mem_of_getElem? (i := 30) rfl)) (by decide) (by decide)) (g := (mkF m 36 #[.val (.long p0), .second, .val (.int (128 : Int32))] [(.long p0), (.ref ob31), (.ref ob31)])) rfl (by rw [hml]; rfl) (Steps.refl _) (a := ob31) (argsL := [(.long p0)]) (rest := [(.ref ob31)]) (lenOf pd5 rfl) rfl (by show 2 * 0 + _ ≤ _; exact Nat.le_of_eq rfl) (hb hby d5_36) (fun _ _ => ⟨rfl, e1, (by decide : 1 + 0 ≤ _), (by decide : 1 + 0 ≤ _)⟩)
    dsimp only [Pt.U, Pt.locs, Pt.cells, Pt.slots] at X2 l2 y2 z2 st2 hQ2
    subst l2 y2 z2
    obtain ⟨rfl, Nq2, Kq2, Eq2, Fq2_0⟩ := hQ2
    have N2 := Fr.app N0 Nq2
    have Z2 : n0 ≤ T2.heap.size := Nat.le_trans Z1 Kq2.1
    have K2 := K1.trans Kq2 (allS (Or.inr kge_ob31) all0)
    refine Goes.go (fun _ kk => st2.trans kk) ?_
    show Goes _ _ _ _ _ _ _ (T2.setTop (mkF m 39 _ [(.ref ob31)]))
    exact Goes.outA X2 hx hlk hret rfl rfl (hb hby d5_39) rfl ⟨ob31, rfl, N2, K2, Eq2⟩ (by decide) (by decide)
  · skip
    refine Goes.go (fun _ kk => XS.ifNo X0.here hx rfl (hb hby d5_17) rfl (XT.ll_gt_f c17) kk) ?_
    show Goes _ _ _ _ _ _ _ (s₁.setTop (mkF m 20 _ []))
    obtain ⟨bx, g1, g2⟩ := f4 _ (own_idx hp c17).2
    obtain ⟨T1, X1, e1, st1⟩ := getS X0 hx hZ hown (host := "") (hw _ (List.mem_of_getElem? (i := 52) rfl)) Via.refl e0 f1 (g := (mkF m 20 #[.val (.long p0), .second, .val (.int (128 : Int32))] [])) rfl (hb hby d5_20)
    refine Goes.go (st1) ?_
    show Goes _ _ _ _ _ _ _ (T1.setTop (mkF m 23 _ [(.ref ca)]))
    refine Goes.go (fun _ kk => XS.lloadN X1.here hx rfl (hb hby d5_23) rfl kk) ?_
    show Goes _ _ _ _ _ _ _ (T1.setTop (mkF m 24 _ [(.long p0), (.ref ca)]))
    refine Goes.go (fun _ kk => XS.l2i X1.here hx rfl (hb hby d5_24) rfl kk) ?_
    show Goes _ _ _ _ _ _ _ (T1.setTop (mkF m 25 _ [(.int (p0).toInt32), (.ref ca)]))
    refine Goes.go (fun _ kk => XS.sipush X1.here hx rfl (hb hby d5_25) kk) ?_
    show Goes _ _ _ _ _ _ _ (T1.setTop (mkF m 28 _ [(.int (128 : Int32)), (.int (p0).toInt32), (.ref ca)]))
    refine Goes.go (fun _ kk => XS.iadd X1.here hx rfl (hb hby d5_28) rfl kk) ?_
    show Goes _ _ _ _ _ _ _ (T1.setTop (mkF m 29 _ [(.int ((p0).toInt32 + (128 : Int32))), (.ref ca)]))
    have hcl : T1.heap[ca]? = some cl := by rw [e1]; exact f2.1
    have hin : ¬ ((p0.toInt32 + (128 : Int32)) < 0 ∨ cl.slots.size ≤ (p0.toInt32 + (128 : Int32)).toNatClampNeg) := by rw [f3]; exact (own_idx hp c17).1
    refine Goes.go (X1.aaload hx (a := ca) (cell := cl) (j := (p0).toInt32 + (128 : Int32)) (v := .ref bx) (ty := .object "java/lang/Long") hcl (State.isArrayOf_alike hZ.alike f2.2.1) rfl f2.2.2 hin g1 rfl rfl (hb hby d5_29)) ?_
    show Goes _ _ _ _ _ _ _ (T1.setTop (mkF m 30 _ [(.ref bx)]))
    exact Goes.outA X1 hx hlk hret rfl rfl (hb hby d5_30) e1 ⟨bx, rfl, N0, K0, g2⟩ (by decide) (by decide)
set_option maxRecDepth 65536 in
set_option maxHeartbeats 40000000 in
theorem seg75 {p : Program} {l : Launch} {e : Env} {s : State} {m : MethodId} {args : Array Value} {below : List Frame} {meth : Method} {c : Code} {Q : Option Value → Heap → List Loc → Prop} {Z : State} {a0 : Array Value} (hw : ∀ d ∈ tables_1, d.before a0 Z = true) (hx : p.tables.exec = Jvm.exec) (hby : c.code = code) (hml : c.maxLocals = 23) (hown : s.vm.findClass "com/example/xixi/xixi/store/ConsumeQueueEntryEqualsPinLaw" = some m.cls) (hnm : meth.name = "law") (hlk : meth.locks = false) (hret : meth.sig.returnType = (some .boolean)) (hZ : Z.Warmed39 s.vm) (p0 : Int64) (p1 : Int32) (p2 : Int64) (p3 : Int64) (p4 : Int32) (p5 : Int32) (of1 : Int64) (sz1 : Int32) (of2 : Int64) (sz2 : Int32) (tg2 : Int64) (n0 : Nat) (hQ : ∀ h L, Fr n0 L → Q (some (.int 1)) h L)
    {T : State} {locs : List Loc} {h0 : Heap} (Z0 : n0 ≤ h0.size) (X0 : Stand p l e room_1 s m args below meth c T locs 0 0) (e0 : T.heap = h0) (N0 : Fr n0 locs) (hof1 : ¬ of1 < (0 : Int64)) (hsz1 : 0 < sz1) (hof2 : ¬ of2 < (0 : Int64)) (hsz2 : 0 < sz2) (hC : LC Z h0) :
    Goes p e below s Q room_1.cells room_1.slots (T.setTop (mkF m 75 #[.val (.long p0), .second, .val (.int p1), .val (.long p2), .second, .val (.long p3), .second, .val (.int p4), .val (.int p5), .val (.long of1), .second, .val (.int sz1), .val (.long of2), .second, .val (.int sz2), .val (.long tg2), .second, .unset, .unset, .unset, .unset, .unset, .unset] [])) := by
  have K0 : Keep h0 h0 [] := Keep.refl _ _
  show Goes _ _ _ _ _ _ _ (T.setTop (mkF m 75 #[.val (.long p0), .second, .val (.int p1), .val (.long p2), .second, .val (.long p3), .second, .val (.int p4), .val (.int p5), .val (.long of1), .second, .val (.int sz1), .val (.long of2), .second, .val (.int sz2), .val (.long tg2), .second, .unset, .unset, .unset, .unset, .unset, .unset] []))
  obtain ⟨T1, h1, X1, e1, E1, A1, D1, -, st1⟩ := newO X0 hx hZ hown (hw _ (List.mem_of_getElem? (i := 6) rfl)) (hw _ (List.mem_of_getElem? (i := 7) rfl)) (hw _ (List.mem_of_getElem? (i := 8) rfl)) e0 (g := (mkF m 75 #[.val (.long p0), .second, .val (.int p1), .val (.long p2), .second, .val (.long p3), .second, .val (.int p4), .val (.int p5), .val (.long of1), .second, .val (.int sz1), .val (.long of2), .second, .val (.int sz2), .val (.long tg2), .second, .unset, .unset, .unset, .unset, .unset, .unset] [])) rfl (hb hby at_75) (by decide) (by decide)
  obtain ⟨ob75, gob75⟩ : ∃ z, z = h0.size := ⟨_, rfl⟩
  rw [← gob75] at A1 D1 st1
  have Z1 : n0 ≤ h1.size := Nat.le_trans Z0 E1.1
  have ge_ob75 : n0 ≤ ob75 := Nat.le_trans Z0 (Nat.le_of_eq gob75.symm)
  have kge_ob75 : h0.size ≤ ob75 := by rw [gob75]; exact K0.1
  have f : Fld Z h1 ob75 "com/example/xixi/xixi/store/ConsumeQueueEntry" "commitLogOffset" "J" (.long (0 : Int64)) := D1 (Or.inr (hw _ (List.mem_of_getElem? (i := 16) rfl))) (ty := .long) (by decide)
  have f_1 : Fld Z h1 ob75 "com/example/xixi/xixi/store/ConsumeQueueEntry" "size" "I" (.int (0 : Int32)) := D1 (Or.inr (hw _ (List.mem_of_getElem? (i := 18) rfl))) (ty := .int) (by decide)
  have f_2 : Fld Z h1 ob75 "com/example/xixi/xixi/store/ConsumeQueueEntry" "tagHash" "J" (.long (0 : Int64)) := D1 (Or.inr (hw _ (List.mem_of_getElem? (i := 20) rfl))) (ty := .long) (by decide)
  have K1 := K0.ext E1
  refine Goes.go (st1) ?_
  show Goes _ _ _ _ _ _ _ (T1.setTop (mkF m 78 _ [(.ref ob75)]))
  refine Goes.go (fun _ kk => XS.dup X1.here hx rfl (hb hby at_78) rfl rfl kk) ?_
  show Goes _ _ _ _ _ _ _ (T1.setTop (mkF m 79 _ [(.ref ob75), (.ref ob75)]))
  refine Goes.go (fun _ kk => XS.lload X1.here hx rfl (hb hby at_79) rfl kk) ?_
  show Goes _ _ _ _ _ _ _ (T1.setTop (mkF m 81 _ [(.long of1), (.ref ob75), (.ref ob75)]))
  refine Goes.go (fun _ kk => XS.iload X1.here hx rfl (hb hby at_81) rfl kk) ?_
  show Goes _ _ _ _ _ _ _ (T1.setTop (mkF m 83 _ [(.int sz1), (.long of1), (.ref ob75), (.ref ob75)]))
  refine Goes.go (fun _ kk => XS.lloadN X1.here hx rfl (hb hby at_83) rfl kk) ?_
  show Goes _ _ _ _ _ _ _ (T1.setTop (mkF m 84 _ [(.long p2), (.int sz1), (.long of1), (.ref ob75), (.ref ob75)]))
  obtain ⟨_, _, ⟨T2, L2, k2, n2⟩, -, X2, ⟨Lc2, hQ2, l2, y2, z2⟩, st2⟩ := X1.specialBack hx (y := (⟨"com/example/xixi/xixi/store/ConsumeQueueEntry", "<init>", "(JIJ)V"⟩ : MethodName)) rfl hown (mvT hZ (hw _ (List.mem_of_getElem? (i := 9) rfl))) (mvT hZ (hw _ (List.mem_of_getElem? (i := 10) rfl))) (mvT hZ (hw _ (List.mem_of_getElem? (i := 11) rfl))) (by decide) (backOf (W := 1) (rm1 l Z a0 hw [] ob75 of1 sz1 p2 h1 n0 Z1 A1 f f_1 f_2 ge_ob75 hof1 hsz1) hZ (hw _ (List.mem_of_getElem? (i := 11) rfl)) (hw _ (List.mem_of_getElem? (i := 8) rfl)) (by decide) (by decide)) (g := (mkF m 84 #[.val (.long p0), .second, .val (.int p1), .val (.long p2), .second, .val (.long p3), .second, .val (.int p4), .val (.int p5), .val (.long of1), .second, .val (.int sz1), .val (.long of2), .second, .val (.int sz2), .val (.long tg2), .second, .unset, .unset, .unset, .unset, .unset, .unset] [(.long p2), (.int sz1), (.long of1), (.ref ob75), (.ref ob75)])) rfl (by rw [hml]; rfl) (Steps.refl _) (a := ob75) (argsL := [(.long of1), (.int sz1), (.long p2)]) (rest := [(.ref ob75)]) (lenOf pd1 rfl) rfl (by show 2 * 0 + _ ≤ _; exact Nat.le_of_eq rfl) (hb hby at_84) (fun _ _ => ⟨rfl, e1, (by decide : 1 + 0 ≤ _), (by decide : 3 + 0 ≤ _)⟩)
  dsimp only [Pt.U, Pt.locs, Pt.cells, Pt.slots] at X2 l2 y2 z2 st2 hQ2
  subst l2 y2 z2
  obtain ⟨rfl, Nq2, Kq2, Eq2, Fq2_0, Fq2_1, Fq2_2⟩ := hQ2
  have N2 := Fr.app N0 Nq2
  have Z2 : n0 ≤ T2.heap.size := Nat.le_trans Z1 Kq2.1
  have K2 := K1.trans Kq2 (allS (Or.inr kge_ob75) all0)
  refine Goes.go (fun _ kk => st2.trans kk) ?_
  show Goes _ _ _ _ _ _ _ (T2.setTop (mkF m 87 _ [(.ref ob75)]))
  refine Goes.go (fun _ kk => XS.astore X2.here hx rfl (hb hby at_87) rfl rfl (l' := #[.val (.long p0), .second, .val (.int p1), .val (.long p2), .second, .val (.long p3), .second, .val (.int p4), .val (.int p5), .val (.long of1), .second, .val (.int sz1), .val (.long of2), .second, .val (.int sz2), .val (.long tg2), .second, .val (.ref ob75), .unset, .unset, .unset, .unset, .unset]) rfl kk) ?_
  show Goes _ _ _ _ _ _ _ (T2.setTop (mkF m 89 #[.val (.long p0), .second, .val (.int p1), .val (.long p2), .second, .val (.long p3), .second, .val (.int p4), .val (.int p5), .val (.long of1), .second, .val (.int sz1), .val (.long of2), .second, .val (.int sz2), .val (.long tg2), .second, .val (.ref ob75), .unset, .unset, .unset, .unset, .unset] []))
  obtain ⟨T3, h3, X3, e3, E3, A3, D3, -, st3⟩ := newO X2 hx hZ hown (hw _ (List.mem_of_getElem? (i := 6) rfl)) (hw _ (List.mem_of_getElem? (i := 7) rfl)) (hw _ (List.mem_of_getElem? (i := 8) rfl)) rfl (g := (mkF m 89 #[.val (.long p0), .second, .val (.int p1), .val (.long p2), .second, .val (.long p3), .second, .val (.int p4), .val (.int p5), .val (.long of1), .second, .val (.int sz1), .val (.long of2), .second, .val (.int sz2), .val (.long tg2), .second, .val (.ref ob75), .unset, .unset, .unset, .unset, .unset] [])) rfl (hb hby at_89) (by decide) (by decide)
  obtain ⟨ob89, gob89⟩ : ∃ z, z = T2.heap.size := ⟨_, rfl⟩
  rw [← gob89] at A3 D3 st3
  have ne_ob75_ob89 : ob75 ≠ ob89 := by rw [gob89]; exact Nat.ne_of_lt Eq2.lt
  have f_3 := Exa.ext E3 Eq2
  have f_4 := Fld.ext E3 Fq2_0
  have f_5 := Fld.ext E3 Fq2_1
  have f_6 := Fld.ext E3 Fq2_2
  have Z3 : n0 ≤ h3.size := Nat.le_trans Z2 E3.1
  have ge_ob89 : n0 ≤ ob89 := Nat.le_trans Z2 (Nat.le_of_eq gob89.symm)
  have kge_ob89 : h0.size ≤ ob89 := by rw [gob89]; exact K2.1
  have f_7 : Fld Z h3 ob89 "com/example/xixi/xixi/store/ConsumeQueueEntry" "commitLogOffset" "J" (.long (0 : Int64)) := D3 (Or.inr (hw _ (List.mem_of_getElem? (i := 16) rfl))) (ty := .long) (by decide)
  have f_8 : Fld Z h3 ob89 "com/example/xixi/xixi/store/ConsumeQueueEntry" "size" "I" (.int (0 : Int32)) := D3 (Or.inr (hw _ (List.mem_of_getElem? (i := 18) rfl))) (ty := .int) (by decide)
  have f_9 : Fld Z h3 ob89 "com/example/xixi/xixi/store/ConsumeQueueEntry" "tagHash" "J" (.long (0 : Int64)) := D3 (Or.inr (hw _ (List.mem_of_getElem? (i := 20) rfl))) (ty := .long) (by decide)
  have K3 := K2.ext E3
  refine Goes.go (st3) ?_
  show Goes _ _ _ _ _ _ _ (T3.setTop (mkF m 92 _ [(.ref ob89)]))
  refine Goes.go (fun _ kk => XS.dup X3.here hx rfl (hb hby at_92) rfl rfl kk) ?_
  show Goes _ _ _ _ _ _ _ (T3.setTop (mkF m 93 _ [(.ref ob89), (.ref ob89)]))
  refine Goes.go (fun _ kk => XS.lload X3.here hx rfl (hb hby at_93) rfl kk) ?_
  show Goes _ _ _ _ _ _ _ (T3.setTop (mkF m 95 _ [(.long of2), (.ref ob89), (.ref ob89)]))
  refine Goes.go (fun _ kk => XS.iload X3.here hx rfl (hb hby at_95) rfl kk) ?_
  show Goes _ _ _ _ _ _ _ (T3.setTop (mkF m 97 _ [(.int sz2), (.long of2), (.ref ob89), (.ref ob89)]))
  refine Goes.go (fun _ kk => XS.lload X3.here hx rfl (hb hby at_97) rfl kk) ?_
  show Goes _ _ _ _ _ _ _ (T3.setTop (mkF m 99 _ [(.long tg2), (.int sz2), (.long of2), (.ref ob89), (.ref ob89)]))
  obtain ⟨_, _, ⟨T4, L4, k4, n4⟩, -, X4, ⟨Lc4, hQ4, l4, y4, z4⟩, st4⟩ := X3.specialBack hx (y := (⟨"com/example/xixi/xixi/store/ConsumeQueueEntry", "<init>", "(JIJ)V"⟩ : MethodName)) rfl hown (mvT hZ (hw _ (List.mem_of_getElem? (i := 9) rfl))) (mvT hZ (hw _ (List.mem_of_getElem? (i := 10) rfl))) (mvT hZ (hw _ (List.mem_of_getElem? (i := 11) rfl))) (by decide) (backOf (W := 1) (rm1 l Z a0 hw [] ob89 of2 sz2 tg2 h3 n0 Z3 A3 f_7 f_8 f_9 ge_ob89 hof2 hsz2) hZ (hw _ (List.mem_of_getElem? (i := 11) rfl)) (hw _ (List.mem_of_getElem? (i := 8) rfl)) (by decide) (by decide)) (g := (mkF m 99 #[.val (.long p0), .second, .val (.int p1), .val (.long p2), .second, .val (.long p3), .second, .val (.int p4), .val (.int p5), .val (.long of1), .second, .val (.int sz1), .val (.long of2), .second, .val (.int sz2), .val (.long tg2), .second, .val (.ref ob75), .unset, .unset, .unset, .unset, .unset] [(.long tg2), (.int sz2), (.long of2), (.ref ob89), (.ref ob89)])) rfl (by rw [hml]; rfl) (Steps.refl _) (a := ob89) (argsL := [(.long of2), (.int sz2), (.long tg2)]) (rest := [(.ref ob89)]) (lenOf pd1 rfl) rfl (by show 2 * 0 + _ ≤ _; exact Nat.le_of_eq rfl) (hb hby at_99) (fun _ _ => ⟨rfl, e3, (by decide : 2 + 0 ≤ _), (by decide : 6 + 0 ≤ _)⟩)
  dsimp only [Pt.U, Pt.locs, Pt.cells, Pt.slots] at X4 l4 y4 z4 st4 hQ4
  subst l4 y4 z4
  obtain ⟨rfl, Nq4, Kq4, Eq4, Fq4_0, Fq4_1, Fq4_2⟩ := hQ4
  have N4 := Fr.app N2 Nq4
  have Z4 : n0 ≤ T4.heap.size := Nat.le_trans Z3 Kq4.1
  have f_10 := Exa.keep f_3 Kq4
  have f_11 := Fld.keep f_4 Kq4 (ninS ne_ob75_ob89 nin0)
  have f_12 := Fld.keep f_5 Kq4 (ninS ne_ob75_ob89 nin0)
  have f_13 := Fld.keep f_6 Kq4 (ninS ne_ob75_ob89 nin0)
  have K4 := K3.trans Kq4 (allS (Or.inr kge_ob89) all0)
  refine Goes.go (fun _ kk => st4.trans kk) ?_
  show Goes _ _ _ _ _ _ _ (T4.setTop (mkF m 102 _ [(.ref ob89)]))
  refine Goes.go (fun _ kk => XS.astore X4.here hx rfl (hb hby at_102) rfl rfl (l' := #[.val (.long p0), .second, .val (.int p1), .val (.long p2), .second, .val (.long p3), .second, .val (.int p4), .val (.int p5), .val (.long of1), .second, .val (.int sz1), .val (.long of2), .second, .val (.int sz2), .val (.long tg2), .second, .val (.ref ob75), .val (.ref ob89), .unset, .unset, .unset, .unset]) rfl kk) ?_
  show Goes _ _ _ _ _ _ _ (T4.setTop (mkF m 104 #[.val (.long p0), .second, .val (.int p1), .val (.long p2), .second, .val (.long p3), .second, .val (.int p4), .val (.int p5), .val (.long of1), .second, .val (.int sz1), .val (.long of2), .second, .val (.int sz2), .val (.long tg2), .second, .val (.ref ob75), .val (.ref ob89), .unset, .unset, .unset, .unset] []))
  refine Goes.go (fun _ kk => XS.iload X4.here hx rfl (hb hby at_104) rfl kk) ?_
  show Goes _ _ _ _ _ _ _ (T4.setTop (mkF m 106 _ [(.int p5)]))
  refine Goes.go (fun _ kk => XS.iconst X4.here hx rfl (hb hby at_106) kk) ?_
  show Goes _ _ _ _ _ _ _ (T4.setTop (mkF m 107 _ [(.int (3 : Int32)), (.int p5)]))
  refine Goes.go (fun _ kk => XS.iushr X4.here hx rfl (hb hby at_107) rfl kk) ?_
  show Goes _ _ _ _ _ _ _ (T4.setTop (mkF m 108 _ [(.int ((p5).toUInt32 >>> ((3 : Int32) &&& 31).toUInt32).toInt32)]))
  refine Goes.go (fun _ kk => XS.iconst X4.here hx rfl (hb hby at_108) kk) ?_
  show Goes _ _ _ _ _ _ _ (T4.setTop (mkF m 109 _ [(.int (3 : Int32)), (.int ((p5).toUInt32 >>> ((3 : Int32) &&& 31).toUInt32).toInt32)]))
  refine Goes.go (fun _ kk => XS.iand X4.here hx rfl (hb hby at_109) rfl kk) ?_
  show Goes _ _ _ _ _ _ _ (T4.setTop (mkF m 110 _ [(.int (((p5).toUInt32 >>> ((3 : Int32) &&& 31).toUInt32).toInt32 &&& (3 : Int32)))]))
  generalize hv110 : (((p5).toUInt32 >>> ((3 : Int32) &&& 31).toUInt32).toInt32 &&& (3 : Int32)) = v110
  refine Goes.go (fun _ kk => XS.istore X4.here hx rfl (hb hby at_110) rfl (l' := #[.val (.long p0), .second, .val (.int p1), .val (.long p2), .second, .val (.long p3), .second, .val (.int p4), .val (.int p5), .val (.long of1), .second, .val (.int sz1), .val (.long of2), .second, .val (.int sz2), .val (.long tg2), .second, .val (.ref ob75), .val (.ref ob89), .val (.int v110), .unset, .unset, .unset]) rfl kk) ?_
  show Goes _ _ _ _ _ _ _ (T4.setTop (mkF m 112 #[.val (.long p0), .second, .val (.int p1), .val (.long p2), .second, .val (.long p3), .second, .val (.int p4), .val (.int p5), .val (.long of1), .second, .val (.int sz1), .val (.long of2), .second, .val (.int sz2), .val (.long tg2), .second, .val (.ref ob75), .val (.ref ob89), .val (.int v110), .unset, .unset, .unset] []))
  refine Goes.go (fun _ kk => XS.iload X4.here hx rfl (hb hby at_112) rfl kk) ?_
  show Goes _ _ _ _ _ _ _ (T4.setTop (mkF m 114 _ [(.int v110)]))
  by_cases c114 : v110 = 0
  · skip
    refine Goes.go (fun _ kk => XS.ifNo X4.here hx rfl (hb hby at_114) rfl (XT.i0_ne_f c114) kk) ?_
    show Goes _ _ _ _ _ _ _ (T4.setTop (mkF m 117 _ []))
    refine Goes.go (fun _ kk => XS.aload X4.here hx rfl (hb hby at_117) rfl rfl kk) ?_
    show Goes _ _ _ _ _ _ _ (T4.setTop (mkF m 119 _ [(.ref ob89)]))
    refine Goes.go (fun _ kk => XS.astore X4.here hx rfl (hb hby at_119) rfl rfl (l' := #[.val (.long p0), .second, .val (.int p1), .val (.long p2), .second, .val (.long p3), .second, .val (.int p4), .val (.int p5), .val (.long of1), .second, .val (.int sz1), .val (.long of2), .second, .val (.int sz2), .val (.long tg2), .second, .val (.ref ob75), .val (.ref ob89), .val (.int v110), .val (.ref ob89), .unset, .unset]) rfl kk) ?_
    show Goes _ _ _ _ _ _ _ (T4.setTop (mkF m 121 #[.val (.long p0), .second, .val (.int p1), .val (.long p2), .second, .val (.long p3), .second, .val (.int p4), .val (.int p5), .val (.long of1), .second, .val (.int sz1), .val (.long of2), .second, .val (.int sz2), .val (.long tg2), .second, .val (.ref ob75), .val (.ref ob89), .val (.int v110), .val (.ref ob89), .unset, .unset] []))
    refine Goes.go (fun _ kk => XS.lload X4.here hx rfl (hb hby at_121) rfl kk) ?_
    show Goes _ _ _ _ _ _ _ (T4.setTop (mkF m 123 _ [(.long of1)]))
    refine Goes.go (fun _ kk => XS.lload X4.here hx rfl (hb hby at_123) rfl kk) ?_
    show Goes _ _ _ _ _ _ _ (T4.setTop (mkF m 125 _ [(.long of2), (.long of1)]))
    refine Goes.go (fun _ kk => XT.lcmp X4.here hx rfl (hb hby at_125) rfl kk) ?_
    show Goes _ _ _ _ _ _ _ (T4.setTop (mkF m 126 _ [(.int (XT.cmpL of1 of2))]))
    by_cases c126 : of1 = of2
    · skip
      refine Goes.go (fun _ kk => XS.ifNo X4.here hx rfl (hb hby at_126) rfl (XT.ll_ne_f c126) kk) ?_
      show Goes _ _ _ _ _ _ _ (T4.setTop (mkF m 129 _ []))
      refine Goes.go (fun _ kk => XS.iload X4.here hx rfl (hb hby at_129) rfl kk) ?_
      show Goes _ _ _ _ _ _ _ (T4.setTop (mkF m 131 _ [(.int sz1)]))
      refine Goes.go (fun _ kk => XS.iload X4.here hx rfl (hb hby at_131) rfl kk) ?_
      show Goes _ _ _ _ _ _ _ (T4.setTop (mkF m 133 _ [(.int sz2), (.int sz1)]))
      by_cases c133 : sz1 = sz2
      · skip
        refine Goes.go (fun _ kk => XS.icmpNo X4.here hx rfl (hb hby at_133) rfl (XT.ii_ne_f c133) kk) ?_
        show Goes _ _ _ _ _ _ _ (T4.setTop (mkF m 136 _ []))
        refine Goes.go (fun _ kk => XS.lloadN X4.here hx rfl (hb hby at_136) rfl kk) ?_
        show Goes _ _ _ _ _ _ _ (T4.setTop (mkF m 137 _ [(.long p2)]))
        refine Goes.go (fun _ kk => XS.lload X4.here hx rfl (hb hby at_137) rfl kk) ?_
        show Goes _ _ _ _ _ _ _ (T4.setTop (mkF m 139 _ [(.long tg2), (.long p2)]))
        refine Goes.go (fun _ kk => XT.lcmp X4.here hx rfl (hb hby at_139) rfl kk) ?_
        show Goes _ _ _ _ _ _ _ (T4.setTop (mkF m 140 _ [(.int (XT.cmpL p2 tg2))]))
        by_cases c140 : p2 = tg2
        · skip
          refine Goes.go (fun _ kk => XS.ifNo X4.here hx rfl (hb hby at_140) rfl (XT.ll_ne_f c140) kk) ?_
          show Goes _ _ _ _ _ _ _ (T4.setTop (mkF m 143 _ []))
          refine Goes.go (fun _ kk => XS.iconst X4.here hx rfl (hb hby at_143) kk) ?_
          show Goes _ _ _ _ _ _ _ (T4.setTop (mkF m 144 _ [(.int (1 : Int32))]))
          refine Goes.go (fun _ kk => XS.goto X4.here hx rfl (pc0 := 144) (pc' := 148) rfl (hb hby at_144) (by decide) (by decide) kk) ?_
          show Goes _ _ _ _ _ _ _ (T4.setTop (mkF m 148 _ [(.int (1 : Int32))]))
          refine Goes.go (fun _ kk => XS.istore X4.here hx rfl (hb hby at_148) rfl (l' := #[.val (.long p0), .second, .val (.int p1), .val (.long p2), .second, .val (.long p3), .second, .val (.int p4), .val (.int p5), .val (.long of1), .second, .val (.int sz1), .val (.long of2), .second, .val (.int sz2), .val (.long tg2), .second, .val (.ref ob75), .val (.ref ob89), .val (.int v110), .val (.ref ob89), .val (.int (1 : Int32)), .unset]) rfl kk) ?_
          show Goes _ _ _ _ _ _ _ (T4.setTop (mkF m 150 #[.val (.long p0), .second, .val (.int p1), .val (.long p2), .second, .val (.long p3), .second, .val (.int p4), .val (.int p5), .val (.long of1), .second, .val (.int sz1), .val (.long of2), .second, .val (.int sz2), .val (.long tg2), .second, .val (.ref ob75), .val (.ref ob89), .val (.int v110), .val (.ref ob89), .val (.int (1 : Int32)), .unset] []))
          refine Goes.go (fun _ kk => XS.goto X4.here hx rfl (pc0 := 150) (pc' := 194) rfl (hb hby at_150) (by decide) (by decide) kk) ?_
          show Goes _ _ _ _ _ _ _ (T4.setTop (mkF m 194 _ []))
          refine Goes.go (fun _ kk => XS.aload X4.here hx rfl (hb hby at_194) rfl rfl kk) ?_
          show Goes _ _ _ _ _ _ _ (T4.setTop (mkF m 196 _ [(.ref ob75)]))
          refine Goes.go (fun _ kk => XS.aload X4.here hx rfl (hb hby at_196) rfl rfl kk) ?_
          show Goes _ _ _ _ _ _ _ (T4.setTop (mkF m 198 _ [(.ref ob89), (.ref ob75)]))
          obtain ⟨cq5, kq5, qa5, qb5, qc5⟩ := isOf hZ rfl f_10
          obtain ⟨_, _, ⟨T5, L5, k5, n5⟩, -, X5, ⟨Lc5, hQ5, l5, y5, z5⟩, st5⟩ := X4.virtualBack hx (y := (⟨"com/example/xixi/xixi/store/ConsumeQueueEntry", "equals", "(Ljava/lang/Object;)Z"⟩ : MethodName)) (z := (⟨"com/example/xixi/xixi/store/ConsumeQueueEntry", "equals", "(Ljava/lang/Object;)Z"⟩ : MethodName)) hown (mvT hZ (hw _ (List.mem_of_getElem? (i := 21) rfl))) (mvT hZ (hw _ (List.mem_of_getElem? (i := 22) rfl))) (notFace_of_selects (args := #[]) (mvT hZ (hw _ (List.mem_of_getElem? (i := 24) rfl)))) (mvT hZ (hw _ (List.mem_of_getElem? (i := 24) rfl))) (mvT hZ (hw _ (List.mem_of_getElem? (i := 23) rfl))) (by decide) (backOf (W := 0) (rmE l Z a0 hw [] ob75 ob89 of1 sz1 p2 of2 sz2 tg2 T4.heap n0 Z4 Eq4 f_11 f_12 f_13 Fq4_0 Fq4_1 Fq4_2) hZ (hw _ (List.mem_of_getElem? (i := 25) rfl)) (hw _ (List.mem_of_getElem? (i := 8) rfl)) (by decide) (by decide)) qa5 qc5 (g := (mkF m 198 #[.val (.long p0), .second, .val (.int p1), .val (.long p2), .second, .val (.long p3), .second, .val (.int p4), .val (.int p5), .val (.long of1), .second, .val (.int sz1), .val (.long of2), .second, .val (.int sz2), .val (.long tg2), .second, .val (.ref ob75), .val (.ref ob89), .val (.int v110), .val (.ref ob89), .val (.int (1 : Int32)), .unset] [(.ref ob89), (.ref ob75)])) rfl (by rw [hml]; rfl) (Steps.refl _) (argsL := [(.ref ob89)]) (rest := []) (lenOf pd3 rfl) rfl (by show 2 * 0 + _ ≤ _; exact Nat.le_of_eq rfl) (hb hby at_198) (fun _ _ => ⟨rfl, rfl, (by decide : 2 + 0 ≤ _), (by decide : 6 + 0 ≤ _)⟩)
          dsimp only [Pt.U, Pt.locs, Pt.cells, Pt.slots] at X5 l5 y5 z5 st5 hQ5
          subst l5 y5 z5
          obtain ⟨rfl, Nq5, hh5⟩ := hQ5
          have N5 := Fr.app N4 Nq5
          refine Goes.go (fun _ kk => st5.trans kk) ?_
          show Goes _ _ _ _ _ _ _ (T5.setTop (mkF m 201 _ [(.int (eqF of1 sz1 p2 of2 sz2 tg2))]))
          generalize hv201 : (eqF of1 sz1 p2 of2 sz2 tg2) = v201
          refine Goes.go (fun _ kk => XS.istore X5.here hx rfl (hb hby at_201) rfl (l' := #[.val (.long p0), .second, .val (.int p1), .val (.long p2), .second, .val (.long p3), .second, .val (.int p4), .val (.int p5), .val (.long of1), .second, .val (.int sz1), .val (.long of2), .second, .val (.int sz2), .val (.long tg2), .second, .val (.ref ob75), .val (.ref ob89), .val (.int v110), .val (.ref ob89), .val (.int (1 : Int32)), .val (.int v201)]) rfl kk) ?_
          show Goes _ _ _ _ _ _ _ (T5.setTop (mkF m 203 #[.val (.long p0), .second, .val (.int p1), .val (.long p2), .second, .val (.long p3), .second, .val (.int p4), .val (.int p5), .val (.long of1), .second, .val (.int sz1), .val (.long of2), .second, .val (.int sz2), .val (.long tg2), .second, .val (.ref ob75), .val (.ref ob89), .val (.int v110), .val (.ref ob89), .val (.int (1 : Int32)), .val (.int v201)] []))
          refine Goes.go (fun _ kk => XS.iload X5.here hx rfl (hb hby at_203) rfl kk) ?_
          show Goes _ _ _ _ _ _ _ (T5.setTop (mkF m 205 _ [(.int v201)]))
          refine Goes.go (fun _ kk => XS.iload X5.here hx rfl (hb hby at_205) rfl kk) ?_
          show Goes _ _ _ _ _ _ _ (T5.setTop (mkF m 207 _ [(.int (1 : Int32)), (.int v201)]))
          refine Goes.go (fun _ kk => XS.icmpYes X5.here hx rfl (pc0 := 207) (pc' := 212) rfl (hb hby at_207) rfl (XT.ii_eq_t (by rw [← hv201]; simp only [eqF, if_pos c126, if_pos c133, if_pos c140])) (by decide) (by decide) kk) ?_
          show Goes _ _ _ _ _ _ _ (T5.setTop (mkF m 212 _ []))
          refine Goes.go (fun _ kk => XS.iload X5.here hx rfl (hb hby at_212) rfl kk) ?_
          show Goes _ _ _ _ _ _ _ (T5.setTop (mkF m 214 _ [(.int v110)]))
          refine Goes.go (fun _ kk => XS.ifNo X5.here hx rfl (hb hby at_214) rfl (XT.i0_ne_f c114) kk) ?_
          show Goes _ _ _ _ _ _ _ (T5.setTop (mkF m 217 _ []))
          refine Goes.go (fun _ kk => XS.aload X5.here hx rfl (hb hby at_217) rfl rfl kk) ?_
          show Goes _ _ _ _ _ _ _ (T5.setTop (mkF m 219 _ [(.ref ob89)]))
          refine Goes.go (fun _ kk => XS.aload X5.here hx rfl (hb hby at_219) rfl rfl kk) ?_
          show Goes _ _ _ _ _ _ _ (T5.setTop (mkF m 221 _ [(.ref ob75), (.ref ob89)]))
          obtain ⟨cq6, kq6, qa6, qb6, qc6⟩ := isOf hZ hh5 Eq4
          obtain ⟨_, _, ⟨T6, L6, k6, n6⟩, -, X6, ⟨Lc6, hQ6, l6, y6, z6⟩, st6⟩ := X5.virtualBack hx (y := (⟨"com/example/xixi/xixi/store/ConsumeQueueEntry", "equals", "(Ljava/lang/Object;)Z"⟩ : MethodName)) (z := (⟨"com/example/xixi/xixi/store/ConsumeQueueEntry", "equals", "(Ljava/lang/Object;)Z"⟩ : MethodName)) hown (mvT hZ (hw _ (List.mem_of_getElem? (i := 21) rfl))) (mvT hZ (hw _ (List.mem_of_getElem? (i := 22) rfl))) (notFace_of_selects (args := #[]) (mvT hZ (hw _ (List.mem_of_getElem? (i := 24) rfl)))) (mvT hZ (hw _ (List.mem_of_getElem? (i := 24) rfl))) (mvT hZ (hw _ (List.mem_of_getElem? (i := 23) rfl))) (by decide) (backOf (W := 0) (rmE l Z a0 hw [] ob89 ob75 of2 sz2 tg2 of1 sz1 p2 T4.heap n0 Z4 f_10 Fq4_0 Fq4_1 Fq4_2 f_11 f_12 f_13) hZ (hw _ (List.mem_of_getElem? (i := 25) rfl)) (hw _ (List.mem_of_getElem? (i := 8) rfl)) (by decide) (by decide)) qa6 qc6 (g := (mkF m 221 #[.val (.long p0), .second, .val (.int p1), .val (.long p2), .second, .val (.long p3), .second, .val (.int p4), .val (.int p5), .val (.long of1), .second, .val (.int sz1), .val (.long of2), .second, .val (.int sz2), .val (.long tg2), .second, .val (.ref ob75), .val (.ref ob89), .val (.int v110), .val (.ref ob89), .val (.int (1 : Int32)), .val (.int v201)] [(.ref ob75), (.ref ob89)])) rfl (by rw [hml]; rfl) (Steps.refl _) (argsL := [(.ref ob75)]) (rest := []) (lenOf pd3 rfl) rfl (by show 2 * 0 + _ ≤ _; exact Nat.le_of_eq rfl) (hb hby at_221) (fun _ _ => ⟨rfl, hh5, (by decide : 2 + 0 ≤ _), (by decide : 6 + 0 ≤ _)⟩)
          dsimp only [Pt.U, Pt.locs, Pt.cells, Pt.slots] at X6 l6 y6 z6 st6 hQ6
          subst l6 y6 z6
          obtain ⟨rfl, Nq6, hh6⟩ := hQ6
          have N6 := Fr.app N5 Nq6
          refine Goes.go (fun _ kk => st6.trans kk) ?_
          show Goes _ _ _ _ _ _ _ (T6.setTop (mkF m 224 _ [(.int (eqF of2 sz2 tg2 of1 sz1 p2))]))
          refine Goes.go (fun _ kk => XS.iload X6.here hx rfl (hb hby at_224) rfl kk) ?_
          show Goes _ _ _ _ _ _ _ (T6.setTop (mkF m 226 _ [(.int (1 : Int32)), (.int (eqF of2 sz2 tg2 of1 sz1 p2))]))
          refine Goes.go (fun _ kk => XS.icmpNo X6.here hx rfl (hb hby at_226) rfl (XT.ii_ne_f (by rw [eqF_comm]; simp only [eqF, if_pos c126, if_pos c133, if_pos c140])) kk) ?_
          show Goes _ _ _ _ _ _ _ (T6.setTop (mkF m 229 _ []))
          refine Goes.go (fun _ kk => XS.iconst X6.here hx rfl (hb hby at_229) kk) ?_
          show Goes _ _ _ _ _ _ _ (T6.setTop (mkF m 230 _ [(.int (1 : Int32))]))
          refine Goes.go (fun _ kk => XS.goto X6.here hx rfl (pc0 := 230) (pc' := 234) rfl (hb hby at_230) (by decide) (by decide) kk) ?_
          show Goes _ _ _ _ _ _ _ (T6.setTop (mkF m 234 _ [(.int (1 : Int32))]))
          exact Goes.outZ X6 hx hlk hret rfl (hb hby at_234) hh6 (hQ _ _ N6) (by decide) (by decide)
        · skip
          refine Goes.go (fun _ kk => XS.ifYes X4.here hx rfl (pc0 := 140) (pc' := 147) rfl (hb hby at_140) rfl (XT.ll_ne_t c140) (by decide) (by decide) kk) ?_
          show Goes _ _ _ _ _ _ _ (T4.setTop (mkF m 147 _ []))
          refine Goes.go (fun _ kk => XS.iconst X4.here hx rfl (hb hby at_147) kk) ?_
          show Goes _ _ _ _ _ _ _ (T4.setTop (mkF m 148 _ [(.int (0 : Int32))]))
          refine Goes.go (fun _ kk => XS.istore X4.here hx rfl (hb hby at_148) rfl (l' := #[.val (.long p0), .second, .val (.int p1), .val (.long p2), .second, .val (.long p3), .second, .val (.int p4), .val (.int p5), .val (.long of1), .second, .val (.int sz1), .val (.long of2), .second, .val (.int sz2), .val (.long tg2), .second, .val (.ref ob75), .val (.ref ob89), .val (.int v110), .val (.ref ob89), .val (.int (0 : Int32)), .unset]) rfl kk) ?_
          show Goes _ _ _ _ _ _ _ (T4.setTop (mkF m 150 #[.val (.long p0), .second, .val (.int p1), .val (.long p2), .second, .val (.long p3), .second, .val (.int p4), .val (.int p5), .val (.long of1), .second, .val (.int sz1), .val (.long of2), .second, .val (.int sz2), .val (.long tg2), .second, .val (.ref ob75), .val (.ref ob89), .val (.int v110), .val (.ref ob89), .val (.int (0 : Int32)), .unset] []))
          refine Goes.go (fun _ kk => XS.goto X4.here hx rfl (pc0 := 150) (pc' := 194) rfl (hb hby at_150) (by decide) (by decide) kk) ?_
          show Goes _ _ _ _ _ _ _ (T4.setTop (mkF m 194 _ []))
          refine Goes.go (fun _ kk => XS.aload X4.here hx rfl (hb hby at_194) rfl rfl kk) ?_
          show Goes _ _ _ _ _ _ _ (T4.setTop (mkF m 196 _ [(.ref ob75)]))
          refine Goes.go (fun _ kk => XS.aload X4.here hx rfl (hb hby at_196) rfl rfl kk) ?_
          show Goes _ _ _ _ _ _ _ (T4.setTop (mkF m 198 _ [(.ref ob89), (.ref ob75)]))
          obtain ⟨cq5, kq5, qa5, qb5, qc5⟩ := isOf hZ rfl f_10
          obtain ⟨_, _, ⟨T5, L5, k5, n5⟩, -, X5, ⟨Lc5, hQ5, l5, y5, z5⟩, st5⟩ := X4.virtualBack hx (y := (⟨"com/example/xixi/xixi/store/ConsumeQueueEntry", "equals", "(Ljava/lang/Object;)Z"⟩ : MethodName)) (z := (⟨"com/example/xixi/xixi/store/ConsumeQueueEntry", "equals", "(Ljava/lang/Object;)Z"⟩ : MethodName)) hown (mvT hZ (hw _ (List.mem_of_getElem? (i := 21) rfl))) (mvT hZ (hw _ (List.mem_of_getElem? (i := 22) rfl))) (notFace_of_selects (args := #[]) (mvT hZ (hw _ (List.mem_of_getElem? (i := 24) rfl)))) (mvT hZ (hw _ (List.mem_of_getElem? (i := 24) rfl))) (mvT hZ (hw _ (List.mem_of_getElem? (i := 23) rfl))) (by decide) (backOf (W := 0) (rmE l Z a0 hw [] ob75 ob89 of1 sz1 p2 of2 sz2 tg2 T4.heap n0 Z4 Eq4 f_11 f_12 f_13 Fq4_0 Fq4_1 Fq4_2) hZ (hw _ (List.mem_of_getElem? (i := 25) rfl)) (hw _ (List.mem_of_getElem? (i := 8) rfl)) (by decide) (by decide)) qa5 qc5 (g := (mkF m 198 #[.val (.long p0), .second, .val (.int p1), .val (.long p2), .second, .val (.long p3), .second, .val (.int p4), .val (.int p5), .val (.long of1), .second, .val (.int sz1), .val (.long of2), .second, .val (.int sz2), .val (.long tg2), .second, .val (.ref ob75), .val (.ref ob89), .val (.int v110), .val (.ref ob89), .val (.int (0 : Int32)), .unset] [(.ref ob89), (.ref ob75)])) rfl (by rw [hml]; rfl) (Steps.refl _) (argsL := [(.ref ob89)]) (rest := []) (lenOf pd3 rfl) rfl (by show 2 * 0 + _ ≤ _; exact Nat.le_of_eq rfl) (hb hby at_198) (fun _ _ => ⟨rfl, rfl, (by decide : 2 + 0 ≤ _), (by decide : 6 + 0 ≤ _)⟩)
          dsimp only [Pt.U, Pt.locs, Pt.cells, Pt.slots] at X5 l5 y5 z5 st5 hQ5
          subst l5 y5 z5
          obtain ⟨rfl, Nq5, hh5⟩ := hQ5
          have N5 := Fr.app N4 Nq5
          refine Goes.go (fun _ kk => st5.trans kk) ?_
          show Goes _ _ _ _ _ _ _ (T5.setTop (mkF m 201 _ [(.int (eqF of1 sz1 p2 of2 sz2 tg2))]))
          generalize hv201 : (eqF of1 sz1 p2 of2 sz2 tg2) = v201
          refine Goes.go (fun _ kk => XS.istore X5.here hx rfl (hb hby at_201) rfl (l' := #[.val (.long p0), .second, .val (.int p1), .val (.long p2), .second, .val (.long p3), .second, .val (.int p4), .val (.int p5), .val (.long of1), .second, .val (.int sz1), .val (.long of2), .second, .val (.int sz2), .val (.long tg2), .second, .val (.ref ob75), .val (.ref ob89), .val (.int v110), .val (.ref ob89), .val (.int (0 : Int32)), .val (.int v201)]) rfl kk) ?_
          show Goes _ _ _ _ _ _ _ (T5.setTop (mkF m 203 #[.val (.long p0), .second, .val (.int p1), .val (.long p2), .second, .val (.long p3), .second, .val (.int p4), .val (.int p5), .val (.long of1), .second, .val (.int sz1), .val (.long of2), .second, .val (.int sz2), .val (.long tg2), .second, .val (.ref ob75), .val (.ref ob89), .val (.int v110), .val (.ref ob89), .val (.int (0 : Int32)), .val (.int v201)] []))
          refine Goes.go (fun _ kk => XS.iload X5.here hx rfl (hb hby at_203) rfl kk) ?_
          show Goes _ _ _ _ _ _ _ (T5.setTop (mkF m 205 _ [(.int v201)]))
          refine Goes.go (fun _ kk => XS.iload X5.here hx rfl (hb hby at_205) rfl kk) ?_
          show Goes _ _ _ _ _ _ _ (T5.setTop (mkF m 207 _ [(.int (0 : Int32)), (.int v201)]))
          refine Goes.go (fun _ kk => XS.icmpYes X5.here hx rfl (pc0 := 207) (pc' := 212) rfl (hb hby at_207) rfl (XT.ii_eq_t (by rw [← hv201]; simp only [eqF, if_pos c126, if_pos c133, if_neg c140])) (by decide) (by decide) kk) ?_
          show Goes _ _ _ _ _ _ _ (T5.setTop (mkF m 212 _ []))
          refine Goes.go (fun _ kk => XS.iload X5.here hx rfl (hb hby at_212) rfl kk) ?_
          show Goes _ _ _ _ _ _ _ (T5.setTop (mkF m 214 _ [(.int v110)]))
          refine Goes.go (fun _ kk => XS.ifNo X5.here hx rfl (hb hby at_214) rfl (XT.i0_ne_f c114) kk) ?_
          show Goes _ _ _ _ _ _ _ (T5.setTop (mkF m 217 _ []))
          refine Goes.go (fun _ kk => XS.aload X5.here hx rfl (hb hby at_217) rfl rfl kk) ?_
          show Goes _ _ _ _ _ _ _ (T5.setTop (mkF m 219 _ [(.ref ob89)]))
          refine Goes.go (fun _ kk => XS.aload X5.here hx rfl (hb hby at_219) rfl rfl kk) ?_
          show Goes _ _ _ _ _ _ _ (T5.setTop (mkF m 221 _ [(.ref ob75), (.ref ob89)]))
          obtain ⟨cq6, kq6, qa6, qb6, qc6⟩ := isOf hZ hh5 Eq4
          obtain ⟨_, _, ⟨T6, L6, k6, n6⟩, -, X6, ⟨Lc6, hQ6, l6, y6, z6⟩, st6⟩ := X5.virtualBack hx (y := (⟨"com/example/xixi/xixi/store/ConsumeQueueEntry", "equals", "(Ljava/lang/Object;)Z"⟩ : MethodName)) (z := (⟨"com/example/xixi/xixi/store/ConsumeQueueEntry", "equals", "(Ljava/lang/Object;)Z"⟩ : MethodName)) hown (mvT hZ (hw _ (List.mem_of_getElem? (i := 21) rfl))) (mvT hZ (hw _ (List.mem_of_getElem? (i := 22) rfl))) (notFace_of_selects (args := #[]) (mvT hZ (hw _ (List.mem_of_getElem? (i := 24) rfl)))) (mvT hZ (hw _ (List.mem_of_getElem? (i := 24) rfl))) (mvT hZ (hw _ (List.mem_of_getElem? (i := 23) rfl))) (by decide) (backOf (W := 0) (rmE l Z a0 hw [] ob89 ob75 of2 sz2 tg2 of1 sz1 p2 T4.heap n0 Z4 f_10 Fq4_0 Fq4_1 Fq4_2 f_11 f_12 f_13) hZ (hw _ (List.mem_of_getElem? (i := 25) rfl)) (hw _ (List.mem_of_getElem? (i := 8) rfl)) (by decide) (by decide)) qa6 qc6 (g := (mkF m 221 #[.val (.long p0), .second, .val (.int p1), .val (.long p2), .second, .val (.long p3), .second, .val (.int p4), .val (.int p5), .val (.long of1), .second, .val (.int sz1), .val (.long of2), .second, .val (.int sz2), .val (.long tg2), .second, .val (.ref ob75), .val (.ref ob89), .val (.int v110), .val (.ref ob89), .val (.int (0 : Int32)), .val (.int v201)] [(.ref ob75), (.ref ob89)])) rfl (by rw [hml]; rfl) (Steps.refl _) (argsL := [(.ref ob75)]) (rest := []) (lenOf pd3 rfl) rfl (by show 2 * 0 + _ ≤ _; exact Nat.le_of_eq rfl) (hb hby at_221) (fun _ _ => ⟨rfl, hh5, (by decide : 2 + 0 ≤ _), (by decide : 6 + 0 ≤ _)⟩)
          dsimp only [Pt.U, Pt.locs, Pt.cells, Pt.slots] at X6 l6 y6 z6 st6 hQ6
          subst l6 y6 z6
          obtain ⟨rfl, Nq6, hh6⟩ := hQ6
          have N6 := Fr.app N5 Nq6
          refine Goes.go (fun _ kk => st6.trans kk) ?_
          show Goes _ _ _ _ _ _ _ (T6.setTop (mkF m 224 _ [(.int (eqF of2 sz2 tg2 of1 sz1 p2))]))
          refine Goes.go (fun _ kk => XS.iload X6.here hx rfl (hb hby at_224) rfl kk) ?_
          show Goes _ _ _ _ _ _ _ (T6.setTop (mkF m 226 _ [(.int (0 : Int32)), (.int (eqF of2 sz2 tg2 of1 sz1 p2))]))
          refine Goes.go (fun _ kk => XS.icmpNo X6.here hx rfl (hb hby at_226) rfl (XT.ii_ne_f (by rw [eqF_comm]; simp only [eqF, if_pos c126, if_pos c133, if_neg c140])) kk) ?_
          show Goes _ _ _ _ _ _ _ (T6.setTop (mkF m 229 _ []))
          refine Goes.go (fun _ kk => XS.iconst X6.here hx rfl (hb hby at_229) kk) ?_
          show Goes _ _ _ _ _ _ _ (T6.setTop (mkF m 230 _ [(.int (1 : Int32))]))
          refine Goes.go (fun _ kk => XS.goto X6.here hx rfl (pc0 := 230) (pc' := 234) rfl (hb hby at_230) (by decide) (by decide) kk) ?_
          show Goes _ _ _ _ _ _ _ (T6.setTop (mkF m 234 _ [(.int (1 : Int32))]))
          exact Goes.outZ X6 hx hlk hret rfl (hb hby at_234) hh6 (hQ _ _ N6) (by decide) (by decide)
      · skip
        refine Goes.go (fun _ kk => XS.icmpYes X4.here hx rfl (pc0 := 133) (pc' := 147) rfl (hb hby at_133) rfl (XT.ii_ne_t c133) (by decide) (by decide) kk) ?_
        show Goes _ _ _ _ _ _ _ (T4.setTop (mkF m 147 _ []))
        refine Goes.go (fun _ kk => XS.iconst X4.here hx rfl (hb hby at_147) kk) ?_
        show Goes _ _ _ _ _ _ _ (T4.setTop (mkF m 148 _ [(.int (0 : Int32))]))
        refine Goes.go (fun _ kk => XS.istore X4.here hx rfl (hb hby at_148) rfl (l' := #[.val (.long p0), .second, .val (.int p1), .val (.long p2), .second, .val (.long p3), .second, .val (.int p4), .val (.int p5), .val (.long of1), .second, .val (.int sz1), .val (.long of2), .second, .val (.int sz2), .val (.long tg2), .second, .val (.ref ob75), .val (.ref ob89), .val (.int v110), .val (.ref ob89), .val (.int (0 : Int32)), .unset]) rfl kk) ?_
        show Goes _ _ _ _ _ _ _ (T4.setTop (mkF m 150 #[.val (.long p0), .second, .val (.int p1), .val (.long p2), .second, .val (.long p3), .second, .val (.int p4), .val (.int p5), .val (.long of1), .second, .val (.int sz1), .val (.long of2), .second, .val (.int sz2), .val (.long tg2), .second, .val (.ref ob75), .val (.ref ob89), .val (.int v110), .val (.ref ob89), .val (.int (0 : Int32)), .unset] []))
        refine Goes.go (fun _ kk => XS.goto X4.here hx rfl (pc0 := 150) (pc' := 194) rfl (hb hby at_150) (by decide) (by decide) kk) ?_
        show Goes _ _ _ _ _ _ _ (T4.setTop (mkF m 194 _ []))
        refine Goes.go (fun _ kk => XS.aload X4.here hx rfl (hb hby at_194) rfl rfl kk) ?_
        show Goes _ _ _ _ _ _ _ (T4.setTop (mkF m 196 _ [(.ref ob75)]))
        refine Goes.go (fun _ kk => XS.aload X4.here hx rfl (hb hby at_196) rfl rfl kk) ?_
        show Goes _ _ _ _ _ _ _ (T4.setTop (mkF m 198 _ [(.ref ob89), (.ref ob75)]))
        obtain ⟨cq5, kq5, qa5, qb5, qc5⟩ := isOf hZ rfl f_10
        obtain ⟨_, _, ⟨T5, L5, k5, n5⟩, -, X5, ⟨Lc5, hQ5, l5, y5, z5⟩, st5⟩ := X4.virtualBack hx (y := (⟨"com/example/xixi/xixi/store/ConsumeQueueEntry", "equals", "(Ljava/lang/Object;)Z"⟩ : MethodName)) (z := (⟨"com/example/xixi/xixi/store/ConsumeQueueEntry", "equals", "(Ljava/lang/Object;)Z"⟩ : MethodName)) hown (mvT hZ (hw _ (List.mem_of_getElem? (i := 21) rfl))) (mvT hZ (hw _ (List.mem_of_getElem? (i := 22) rfl))) (notFace_of_selects (args := #[]) (mvT hZ (hw _ (List.mem_of_getElem? (i := 24) rfl)))) (mvT hZ (hw _ (List.mem_of_getElem? (i := 24) rfl))) (mvT hZ (hw _ (List.mem_of_getElem? (i := 23) rfl))) (by decide) (backOf (W := 0) (rmE l Z a0 hw [] ob75 ob89 of1 sz1 p2 of2 sz2 tg2 T4.heap n0 Z4 Eq4 f_11 f_12 f_13 Fq4_0 Fq4_1 Fq4_2) hZ (hw _ (List.mem_of_getElem? (i := 25) rfl)) (hw _ (List.mem_of_getElem? (i := 8) rfl)) (by decide) (by decide)) qa5 qc5 (g := (mkF m 198 #[.val (.long p0), .second, .val (.int p1), .val (.long p2), .second, .val (.long p3), .second, .val (.int p4), .val (.int p5), .val (.long of1), .second, .val (.int sz1), .val (.long of2), .second, .val (.int sz2), .val (.long tg2), .second, .val (.ref ob75), .val (.ref ob89), .val (.int v110), .val (.ref ob89), .val (.int (0 : Int32)), .unset] [(.ref ob89), (.ref ob75)])) rfl (by rw [hml]; rfl) (Steps.refl _) (argsL := [(.ref ob89)]) (rest := []) (lenOf pd3 rfl) rfl (by show 2 * 0 + _ ≤ _; exact Nat.le_of_eq rfl) (hb hby at_198) (fun _ _ => ⟨rfl, rfl, (by decide : 2 + 0 ≤ _), (by decide : 6 + 0 ≤ _)⟩)
        dsimp only [Pt.U, Pt.locs, Pt.cells, Pt.slots] at X5 l5 y5 z5 st5 hQ5
        subst l5 y5 z5
        obtain ⟨rfl, Nq5, hh5⟩ := hQ5
        have N5 := Fr.app N4 Nq5
        refine Goes.go (fun _ kk => st5.trans kk) ?_
        show Goes _ _ _ _ _ _ _ (T5.setTop (mkF m 201 _ [(.int (eqF of1 sz1 p2 of2 sz2 tg2))]))
        generalize hv201 : (eqF of1 sz1 p2 of2 sz2 tg2) = v201
        refine Goes.go (fun _ kk => XS.istore X5.here hx rfl (hb hby at_201) rfl (l' := #[.val (.long p0), .second, .val (.int p1), .val (.long p2), .second, .val (.long p3), .second, .val (.int p4), .val (.int p5), .val (.long of1), .second, .val (.int sz1), .val (.long of2), .second, .val (.int sz2), .val (.long tg2), .second, .val (.ref ob75), .val (.ref ob89), .val (.int v110), .val (.ref ob89), .val (.int (0 : Int32)), .val (.int v201)]) rfl kk) ?_
        show Goes _ _ _ _ _ _ _ (T5.setTop (mkF m 203 #[.val (.long p0), .second, .val (.int p1), .val (.long p2), .second, .val (.long p3), .second, .val (.int p4), .val (.int p5), .val (.long of1), .second, .val (.int sz1), .val (.long of2), .second, .val (.int sz2), .val (.long tg2), .second, .val (.ref ob75), .val (.ref ob89), .val (.int v110), .val (.ref ob89), .val (.int (0 : Int32)), .val (.int v201)] []))
        refine Goes.go (fun _ kk => XS.iload X5.here hx rfl (hb hby at_203) rfl kk) ?_
        show Goes _ _ _ _ _ _ _ (T5.setTop (mkF m 205 _ [(.int v201)]))
        refine Goes.go (fun _ kk => XS.iload X5.here hx rfl (hb hby at_205) rfl kk) ?_
        show Goes _ _ _ _ _ _ _ (T5.setTop (mkF m 207 _ [(.int (0 : Int32)), (.int v201)]))
        refine Goes.go (fun _ kk => XS.icmpYes X5.here hx rfl (pc0 := 207) (pc' := 212) rfl (hb hby at_207) rfl (XT.ii_eq_t (by rw [← hv201]; simp only [eqF, if_pos c126, if_neg c133])) (by decide) (by decide) kk) ?_
        show Goes _ _ _ _ _ _ _ (T5.setTop (mkF m 212 _ []))
        refine Goes.go (fun _ kk => XS.iload X5.here hx rfl (hb hby at_212) rfl kk) ?_
        show Goes _ _ _ _ _ _ _ (T5.setTop (mkF m 214 _ [(.int v110)]))
        refine Goes.go (fun _ kk => XS.ifNo X5.here hx rfl (hb hby at_214) rfl (XT.i0_ne_f c114) kk) ?_
        show Goes _ _ _ _ _ _ _ (T5.setTop (mkF m 217 _ []))
        refine Goes.go (fun _ kk => XS.aload X5.here hx rfl (hb hby at_217) rfl rfl kk) ?_
        show Goes _ _ _ _ _ _ _ (T5.setTop (mkF m 219 _ [(.ref ob89)]))
        refine Goes.go (fun _ kk => XS.aload X5.here hx rfl (hb hby at_219) rfl rfl kk) ?_
        show Goes _ _ _ _ _ _ _ (T5.setTop (mkF m 221 _ [(.ref ob75), (.ref ob89)]))
        obtain ⟨cq6, kq6, qa6, qb6, qc6⟩ := isOf hZ hh5 Eq4
        obtain ⟨_, _, ⟨T6, L6, k6, n6⟩, -, X6, ⟨Lc6, hQ6, l6, y6, z6⟩, st6⟩ := X5.virtualBack hx (y := (⟨"com/example/xixi/xixi/store/ConsumeQueueEntry", "equals", "(Ljava/lang/Object;)Z"⟩ : MethodName)) (z := (⟨"com/example/xixi/xixi/store/ConsumeQueueEntry", "equals", "(Ljava/lang/Object;)Z"⟩ : MethodName)) hown (mvT hZ (hw _ (List.mem_of_getElem? (i := 21) rfl))) (mvT hZ (hw _ (List.mem_of_getElem? (i := 22) rfl))) (notFace_of_selects (args := #[]) (mvT hZ (hw _ (List.mem_of_getElem? (i := 24) rfl)))) (mvT hZ (hw _ (List.mem_of_getElem? (i := 24) rfl))) (mvT hZ (hw _ (List.mem_of_getElem? (i := 23) rfl))) (by decide) (backOf (W := 0) (rmE l Z a0 hw [] ob89 ob75 of2 sz2 tg2 of1 sz1 p2 T4.heap n0 Z4 f_10 Fq4_0 Fq4_1 Fq4_2 f_11 f_12 f_13) hZ (hw _ (List.mem_of_getElem? (i := 25) rfl)) (hw _ (List.mem_of_getElem? (i := 8) rfl)) (by decide) (by decide)) qa6 qc6 (g := (mkF m 221 #[.val (.long p0), .second, .val (.int p1), .val (.long p2), .second, .val (.long p3), .second, .val (.int p4), .val (.int p5), .val (.long of1), .second, .val (.int sz1), .val (.long of2), .second, .val (.int sz2), .val (.long tg2), .second, .val (.ref ob75), .val (.ref ob89), .val (.int v110), .val (.ref ob89), .val (.int (0 : Int32)), .val (.int v201)] [(.ref ob75), (.ref ob89)])) rfl (by rw [hml]; rfl) (Steps.refl _) (argsL := [(.ref ob75)]) (rest := []) (lenOf pd3 rfl) rfl (by show 2 * 0 + _ ≤ _; exact Nat.le_of_eq rfl) (hb hby at_221) (fun _ _ => ⟨rfl, hh5, (by decide : 2 + 0 ≤ _), (by decide : 6 + 0 ≤ _)⟩)
        dsimp only [Pt.U, Pt.locs, Pt.cells, Pt.slots] at X6 l6 y6 z6 st6 hQ6
        subst l6 y6 z6
        obtain ⟨rfl, Nq6, hh6⟩ := hQ6
        have N6 := Fr.app N5 Nq6
        refine Goes.go (fun _ kk => st6.trans kk) ?_
        show Goes _ _ _ _ _ _ _ (T6.setTop (mkF m 224 _ [(.int (eqF of2 sz2 tg2 of1 sz1 p2))]))
        refine Goes.go (fun _ kk => XS.iload X6.here hx rfl (hb hby at_224) rfl kk) ?_
        show Goes _ _ _ _ _ _ _ (T6.setTop (mkF m 226 _ [(.int (0 : Int32)), (.int (eqF of2 sz2 tg2 of1 sz1 p2))]))
        refine Goes.go (fun _ kk => XS.icmpNo X6.here hx rfl (hb hby at_226) rfl (XT.ii_ne_f (by rw [eqF_comm]; simp only [eqF, if_pos c126, if_neg c133])) kk) ?_
        show Goes _ _ _ _ _ _ _ (T6.setTop (mkF m 229 _ []))
        refine Goes.go (fun _ kk => XS.iconst X6.here hx rfl (hb hby at_229) kk) ?_
        show Goes _ _ _ _ _ _ _ (T6.setTop (mkF m 230 _ [(.int (1 : Int32))]))
        refine Goes.go (fun _ kk => XS.goto X6.here hx rfl (pc0 := 230) (pc' := 234) rfl (hb hby at_230) (by decide) (by decide) kk) ?_
        show Goes _ _ _ _ _ _ _ (T6.setTop (mkF m 234 _ [(.int (1 : Int32))]))
        exact Goes.outZ X6 hx hlk hret rfl (hb hby at_234) hh6 (hQ _ _ N6) (by decide) (by decide)
    · skip
      refine Goes.go (fun _ kk => XS.ifYes X4.here hx rfl (pc0 := 126) (pc' := 147) rfl (hb hby at_126) rfl (XT.ll_ne_t c126) (by decide) (by decide) kk) ?_
      show Goes _ _ _ _ _ _ _ (T4.setTop (mkF m 147 _ []))
      refine Goes.go (fun _ kk => XS.iconst X4.here hx rfl (hb hby at_147) kk) ?_
      show Goes _ _ _ _ _ _ _ (T4.setTop (mkF m 148 _ [(.int (0 : Int32))]))
      refine Goes.go (fun _ kk => XS.istore X4.here hx rfl (hb hby at_148) rfl (l' := #[.val (.long p0), .second, .val (.int p1), .val (.long p2), .second, .val (.long p3), .second, .val (.int p4), .val (.int p5), .val (.long of1), .second, .val (.int sz1), .val (.long of2), .second, .val (.int sz2), .val (.long tg2), .second, .val (.ref ob75), .val (.ref ob89), .val (.int v110), .val (.ref ob89), .val (.int (0 : Int32)), .unset]) rfl kk) ?_
      show Goes _ _ _ _ _ _ _ (T4.setTop (mkF m 150 #[.val (.long p0), .second, .val (.int p1), .val (.long p2), .second, .val (.long p3), .second, .val (.int p4), .val (.int p5), .val (.long of1), .second, .val (.int sz1), .val (.long of2), .second, .val (.int sz2), .val (.long tg2), .second, .val (.ref ob75), .val (.ref ob89), .val (.int v110), .val (.ref ob89), .val (.int (0 : Int32)), .unset] []))
      refine Goes.go (fun _ kk => XS.goto X4.here hx rfl (pc0 := 150) (pc' := 194) rfl (hb hby at_150) (by decide) (by decide) kk) ?_
      show Goes _ _ _ _ _ _ _ (T4.setTop (mkF m 194 _ []))
      refine Goes.go (fun _ kk => XS.aload X4.here hx rfl (hb hby at_194) rfl rfl kk) ?_
      show Goes _ _ _ _ _ _ _ (T4.setTop (mkF m 196 _ [(.ref ob75)]))
      refine Goes.go (fun _ kk => XS.aload X4.here hx rfl (hb hby at_196) rfl rfl kk) ?_
      show Goes _ _ _ _ _ _ _ (T4.setTop (mkF m 198 _ [(.ref ob89), (.ref ob75)]))
      obtain ⟨cq5, kq5, qa5, qb5, qc5⟩ := isOf hZ rfl f_10
      obtain ⟨_, _, ⟨T5, L5, k5, n5⟩, -, X5, ⟨Lc5, hQ5, l5, y5, z5⟩, st5⟩ := X4.virtualBack hx (y := (⟨"com/example/xixi/xixi/store/ConsumeQueueEntry", "equals", "(Ljava/lang/Object;)Z"⟩ : MethodName)) (z := (⟨"com/example/xixi/xixi/store/ConsumeQueueEntry", "equals", "(Ljava/lang/Object;)Z"⟩ : MethodName)) hown (mvT hZ (hw _ (List.mem_of_getElem? (i := 21) rfl))) (mvT hZ (hw _ (List.mem_of_getElem? (i := 22) rfl))) (notFace_of_selects (args := #[]) (mvT hZ (hw _ (List.mem_of_getElem? (i := 24) rfl)))) (mvT hZ (hw _ (List.mem_of_getElem? (i := 24) rfl))) (mvT hZ (hw _ (List.mem_of_getElem? (i := 23) rfl))) (by decide) (backOf (W := 0) (rmE l Z a0 hw [] ob75 ob89 of1 sz1 p2 of2 sz2 tg2 T4.heap n0 Z4 Eq4 f_11 f_12 f_13 Fq4_0 Fq4_1 Fq4_2) hZ (hw _ (List.mem_of_getElem? (i := 25) rfl)) (hw _ (List.mem_of_getElem? (i := 8) rfl)) (by decide) (by decide)) qa5 qc5 (g := (mkF m 198 #[.val (.long p0), .second, .val (.int p1), .val (.long p2), .second, .val (.long p3), .second, .val (.int p4), .val (.int p5), .val (.long of1), .second, .val (.int sz1), .val (.long of2), .second, .val (.int sz2), .val (.long tg2), .second, .val (.ref ob75), .val (.ref ob89), .val (.int v110), .val (.ref ob89), .val (.int (0 : Int32)), .unset] [(.ref ob89), (.ref ob75)])) rfl (by rw [hml]; rfl) (Steps.refl _) (argsL := [(.ref ob89)]) (rest := []) (lenOf pd3 rfl) rfl (by show 2 * 0 + _ ≤ _; exact Nat.le_of_eq rfl) (hb hby at_198) (fun _ _ => ⟨rfl, rfl, (by decide : 2 + 0 ≤ _), (by decide : 6 + 0 ≤ _)⟩)
      dsimp only [Pt.U, Pt.locs, Pt.cells, Pt.slots] at X5 l5 y5 z5 st5 hQ5
      subst l5 y5 z5
      obtain ⟨rfl, Nq5, hh5⟩ := hQ5
      have N5 := Fr.app N4 Nq5
      refine Goes.go (fun _ kk => st5.trans kk) ?_
      show Goes _ _ _ _ _ _ _ (T5.setTop (mkF m 201 _ [(.int (eqF of1 sz1 p2 of2 sz2 tg2))]))
      generalize hv201 : (eqF of1 sz1 p2 of2 sz2 tg2) = v201
      refine Goes.go (fun _ kk => XS.istore X5.here hx rfl (hb hby at_201) rfl (l' := #[.val (.long p0), .second, .val (.int p1), .val (.long p2), .second, .val (.long p3), .second, .val (.int p4), .val (.int p5), .val (.long of1), .second, .val (.int sz1), .val (.long of2), .second, .val (.int sz2), .val (.long tg2), .second, .val (.ref ob75), .val (.ref ob89), .val (.int v110), .val (.ref ob89), .val (.int (0 : Int32)), .val (.int v201)]) rfl kk) ?_
      show Goes _ _ _ _ _ _ _ (T5.setTop (mkF m 203 #[.val (.long p0), .second, .val (.int p1), .val (.long p2), .second, .val (.long p3), .second, .val (.int p4), .val (.int p5), .val (.long of1), .second, .val (.int sz1), .val (.long of2), .second, .val (.int sz2), .val (.long tg2), .second, .val (.ref ob75), .val (.ref ob89), .val (.int v110), .val (.ref ob89), .val (.int (0 : Int32)), .val (.int v201)] []))
      refine Goes.go (fun _ kk => XS.iload X5.here hx rfl (hb hby at_203) rfl kk) ?_
      show Goes _ _ _ _ _ _ _ (T5.setTop (mkF m 205 _ [(.int v201)]))
      refine Goes.go (fun _ kk => XS.iload X5.here hx rfl (hb hby at_205) rfl kk) ?_
      show Goes _ _ _ _ _ _ _ (T5.setTop (mkF m 207 _ [(.int (0 : Int32)), (.int v201)]))
      refine Goes.go (fun _ kk => XS.icmpYes X5.here hx rfl (pc0 := 207) (pc' := 212) rfl (hb hby at_207) rfl (XT.ii_eq_t (by rw [← hv201]; simp only [eqF, if_neg c126])) (by decide) (by decide) kk) ?_
      show Goes _ _ _ _ _ _ _ (T5.setTop (mkF m 212 _ []))
      refine Goes.go (fun _ kk => XS.iload X5.here hx rfl (hb hby at_212) rfl kk) ?_
      show Goes _ _ _ _ _ _ _ (T5.setTop (mkF m 214 _ [(.int v110)]))
      refine Goes.go (fun _ kk => XS.ifNo X5.here hx rfl (hb hby at_214) rfl (XT.i0_ne_f c114) kk) ?_
      show Goes _ _ _ _ _ _ _ (T5.setTop (mkF m 217 _ []))
      refine Goes.go (fun _ kk => XS.aload X5.here hx rfl (hb hby at_217) rfl rfl kk) ?_
      show Goes _ _ _ _ _ _ _ (T5.setTop (mkF m 219 _ [(.ref ob89)]))
      refine Goes.go (fun _ kk => XS.aload X5.here hx rfl (hb hby at_219) rfl rfl kk) ?_
      show Goes _ _ _ _ _ _ _ (T5.setTop (mkF m 221 _ [(.ref ob75), (.ref ob89)]))
      obtain ⟨cq6, kq6, qa6, qb6, qc6⟩ := isOf hZ hh5 Eq4
      obtain ⟨_, _, ⟨T6, L6, k6, n6⟩, -, X6, ⟨Lc6, hQ6, l6, y6, z6⟩, st6⟩ := X5.virtualBack hx (y := (⟨"com/example/xixi/xixi/store/ConsumeQueueEntry", "equals", "(Ljava/lang/Object;)Z"⟩ : MethodName)) (z := (⟨"com/example/xixi/xixi/store/ConsumeQueueEntry", "equals", "(Ljava/lang/Object;)Z"⟩ : MethodName)) hown (mvT hZ (hw _ (List.mem_of_getElem? (i := 21) rfl))) (mvT hZ (hw _ (List.mem_of_getElem? (i := 22) rfl))) (notFace_of_selects (args := #[]) (mvT hZ (hw _ (List.mem_of_getElem? (i := 24) rfl)))) (mvT hZ (hw _ (List.mem_of_getElem? (i := 24) rfl))) (mvT hZ (hw _ (List.mem_of_getElem? (i := 23) rfl))) (by decide) (backOf (W := 0) (rmE l Z a0 hw [] ob89 ob75 of2 sz2 tg2 of1 sz1 p2 T4.heap n0 Z4 f_10 Fq4_0 Fq4_1 Fq4_2 f_11 f_12 f_13) hZ (hw _ (List.mem_of_getElem? (i := 25) rfl)) (hw _ (List.mem_of_getElem? (i := 8) rfl)) (by decide) (by decide)) qa6 qc6 (g := (mkF m 221 #[.val (.long p0), .second, .val (.int p1), .val (.long p2), .second, .val (.long p3), .second, .val (.int p4), .val (.int p5), .val (.long of1), .second, .val (.int sz1), .val (.long of2), .second, .val (.int sz2), .val (.long tg2), .second, .val (.ref ob75), .val (.ref ob89), .val (.int v110), .val (.ref ob89), .val (.int (0 : Int32)), .val (.int v201)] [(.ref ob75), (.ref ob89)])) rfl (by rw [hml]; rfl) (Steps.refl _) (argsL := [(.ref ob75)]) (rest := []) (lenOf pd3 rfl) rfl (by show 2 * 0 + _ ≤ _; exact Nat.le_of_eq rfl) (hb hby at_221) (fun _ _ => ⟨rfl, hh5, (by decide : 2 + 0 ≤ _), (by decide : 6 + 0 ≤ _)⟩)
      dsimp only [Pt.U, Pt.locs, Pt.cells, Pt.slots] at X6 l6 y6 z6 st6 hQ6
      subst l6 y6 z6
      obtain ⟨rfl, Nq6, hh6⟩ := hQ6
      have N6 := Fr.app N5 Nq6
      refine Goes.go (fun _ kk => st6.trans kk) ?_
      show Goes _ _ _ _ _ _ _ (T6.setTop (mkF m 224 _ [(.int (eqF of2 sz2 tg2 of1 sz1 p2))]))
      refine Goes.go (fun _ kk => XS.iload X6.here hx rfl (hb hby at_224) rfl kk) ?_
      show Goes _ _ _ _ _ _ _ (T6.setTop (mkF m 226 _ [(.int (0 : Int32)), (.int (eqF of2 sz2 tg2 of1 sz1 p2))]))
      refine Goes.go (fun _ kk => XS.icmpNo X6.here hx rfl (hb hby at_226) rfl (XT.ii_ne_f (by rw [eqF_comm]; simp only [eqF, if_neg c126])) kk) ?_
      show Goes _ _ _ _ _ _ _ (T6.setTop (mkF m 229 _ []))
      refine Goes.go (fun _ kk => XS.iconst X6.here hx rfl (hb hby at_229) kk) ?_
      show Goes _ _ _ _ _ _ _ (T6.setTop (mkF m 230 _ [(.int (1 : Int32))]))
      refine Goes.go (fun _ kk => XS.goto X6.here hx rfl (pc0 := 230) (pc' := 234) rfl (hb hby at_230) (by decide) (by decide) kk) ?_
      show Goes _ _ _ _ _ _ _ (T6.setTop (mkF m 234 _ [(.int (1 : Int32))]))
      exact Goes.outZ X6 hx hlk hret rfl (hb hby at_234) hh6 (hQ _ _ N6) (by decide) (by decide)
  · skip
    refine Goes.go (fun _ kk => XS.ifYes X4.here hx rfl (pc0 := 114) (pc' := 153) rfl (hb hby at_114) rfl (XT.i0_ne_t c114) (by decide) (by decide) kk) ?_
    show Goes _ _ _ _ _ _ _ (T4.setTop (mkF m 153 _ []))
    refine Goes.go (fun _ kk => XS.iload X4.here hx rfl (hb hby at_153) rfl kk) ?_
    show Goes _ _ _ _ _ _ _ (T4.setTop (mkF m 155 _ [(.int v110)]))
    refine Goes.go (fun _ kk => XS.iconst X4.here hx rfl (hb hby at_155) kk) ?_
    show Goes _ _ _ _ _ _ _ (T4.setTop (mkF m 156 _ [(.int (1 : Int32)), (.int v110)]))
    by_cases c156 : v110 = (1 : Int32)
    · skip
      refine Goes.go (fun _ kk => XS.icmpNo X4.here hx rfl (hb hby at_156) rfl (XT.ii_ne_f c156) kk) ?_
      show Goes _ _ _ _ _ _ _ (T4.setTop (mkF m 159 _ []))
      refine Goes.go (fun _ kk => XS.aconstNull X4.here hx rfl (hb hby at_159) kk) ?_
      show Goes _ _ _ _ _ _ _ (T4.setTop (mkF m 160 _ [.null]))
      refine Goes.go (fun _ kk => XS.astore X4.here hx rfl (hb hby at_160) rfl rfl (l' := #[.val (.long p0), .second, .val (.int p1), .val (.long p2), .second, .val (.long p3), .second, .val (.int p4), .val (.int p5), .val (.long of1), .second, .val (.int sz1), .val (.long of2), .second, .val (.int sz2), .val (.long tg2), .second, .val (.ref ob75), .val (.ref ob89), .val (.int v110), .val .null, .unset, .unset]) rfl kk) ?_
      show Goes _ _ _ _ _ _ _ (T4.setTop (mkF m 162 #[.val (.long p0), .second, .val (.int p1), .val (.long p2), .second, .val (.long p3), .second, .val (.int p4), .val (.int p5), .val (.long of1), .second, .val (.int sz1), .val (.long of2), .second, .val (.int sz2), .val (.long tg2), .second, .val (.ref ob75), .val (.ref ob89), .val (.int v110), .val .null, .unset, .unset] []))
      refine Goes.go (fun _ kk => XS.iconst X4.here hx rfl (hb hby at_162) kk) ?_
      show Goes _ _ _ _ _ _ _ (T4.setTop (mkF m 163 _ [(.int (0 : Int32))]))
      refine Goes.go (fun _ kk => XS.istore X4.here hx rfl (hb hby at_163) rfl (l' := #[.val (.long p0), .second, .val (.int p1), .val (.long p2), .second, .val (.long p3), .second, .val (.int p4), .val (.int p5), .val (.long of1), .second, .val (.int sz1), .val (.long of2), .second, .val (.int sz2), .val (.long tg2), .second, .val (.ref ob75), .val (.ref ob89), .val (.int v110), .val .null, .val (.int (0 : Int32)), .unset]) rfl kk) ?_
      show Goes _ _ _ _ _ _ _ (T4.setTop (mkF m 165 #[.val (.long p0), .second, .val (.int p1), .val (.long p2), .second, .val (.long p3), .second, .val (.int p4), .val (.int p5), .val (.long of1), .second, .val (.int sz1), .val (.long of2), .second, .val (.int sz2), .val (.long tg2), .second, .val (.ref ob75), .val (.ref ob89), .val (.int v110), .val .null, .val (.int (0 : Int32)), .unset] []))
      refine Goes.go (fun _ kk => XS.goto X4.here hx rfl (pc0 := 165) (pc' := 194) rfl (hb hby at_165) (by decide) (by decide) kk) ?_
      show Goes _ _ _ _ _ _ _ (T4.setTop (mkF m 194 _ []))
      refine Goes.go (fun _ kk => XS.aload X4.here hx rfl (hb hby at_194) rfl rfl kk) ?_
      show Goes _ _ _ _ _ _ _ (T4.setTop (mkF m 196 _ [(.ref ob75)]))
      refine Goes.go (fun _ kk => XS.aload X4.here hx rfl (hb hby at_196) rfl rfl kk) ?_
      show Goes _ _ _ _ _ _ _ (T4.setTop (mkF m 198 _ [.null, (.ref ob75)]))
      obtain ⟨cq5, kq5, qa5, qb5, qc5⟩ := isOf hZ rfl f_10
      obtain ⟨_, _, ⟨T5, L5, k5, n5⟩, -, X5, ⟨Lc5, hQ5, l5, y5, z5⟩, st5⟩ := X4.virtualBack hx (y := (⟨"com/example/xixi/xixi/store/ConsumeQueueEntry", "equals", "(Ljava/lang/Object;)Z"⟩ : MethodName)) (z := (⟨"com/example/xixi/xixi/store/ConsumeQueueEntry", "equals", "(Ljava/lang/Object;)Z"⟩ : MethodName)) hown (mvT hZ (hw _ (List.mem_of_getElem? (i := 21) rfl))) (mvT hZ (hw _ (List.mem_of_getElem? (i := 22) rfl))) (notFace_of_selects (args := #[]) (mvT hZ (hw _ (List.mem_of_getElem? (i := 24) rfl)))) (mvT hZ (hw _ (List.mem_of_getElem? (i := 24) rfl))) (mvT hZ (hw _ (List.mem_of_getElem? (i := 23) rfl))) (by decide) (backOf (W := 0) (rmN l Z a0 hw [] ob75 T4.heap n0 Z4) hZ (hw _ (List.mem_of_getElem? (i := 25) rfl)) (hw _ (List.mem_of_getElem? (i := 8) rfl)) (by decide) (by decide)) qa5 qc5 (g := (mkF m 198 #[.val (.long p0), .second, .val (.int p1), .val (.long p2), .second, .val (.long p3), .second, .val (.int p4), .val (.int p5), .val (.long of1), .second, .val (.int sz1), .val (.long of2), .second, .val (.int sz2), .val (.long tg2), .second, .val (.ref ob75), .val (.ref ob89), .val (.int v110), .val .null, .val (.int (0 : Int32)), .unset] [.null, (.ref ob75)])) rfl (by rw [hml]; rfl) (Steps.refl _) (argsL := [.null]) (rest := []) (lenOf pd3 rfl) rfl (by show 2 * 0 + _ ≤ _; exact Nat.le_of_eq rfl) (hb hby at_198) (fun _ _ => ⟨rfl, rfl, (by decide : 2 + 0 ≤ _), (by decide : 6 + 0 ≤ _)⟩)
      dsimp only [Pt.U, Pt.locs, Pt.cells, Pt.slots] at X5 l5 y5 z5 st5 hQ5
      subst l5 y5 z5
      obtain ⟨rfl, Nq5, hh5⟩ := hQ5
      have N5 := Fr.app N4 Nq5
      refine Goes.go (fun _ kk => st5.trans kk) ?_
      show Goes _ _ _ _ _ _ _ (T5.setTop (mkF m 201 _ [(.int (0 : Int32))]))
      refine Goes.go (fun _ kk => XS.istore X5.here hx rfl (hb hby at_201) rfl (l' := #[.val (.long p0), .second, .val (.int p1), .val (.long p2), .second, .val (.long p3), .second, .val (.int p4), .val (.int p5), .val (.long of1), .second, .val (.int sz1), .val (.long of2), .second, .val (.int sz2), .val (.long tg2), .second, .val (.ref ob75), .val (.ref ob89), .val (.int v110), .val .null, .val (.int (0 : Int32)), .val (.int (0 : Int32))]) rfl kk) ?_
      show Goes _ _ _ _ _ _ _ (T5.setTop (mkF m 203 #[.val (.long p0), .second, .val (.int p1), .val (.long p2), .second, .val (.long p3), .second, .val (.int p4), .val (.int p5), .val (.long of1), .second, .val (.int sz1), .val (.long of2), .second, .val (.int sz2), .val (.long tg2), .second, .val (.ref ob75), .val (.ref ob89), .val (.int v110), .val .null, .val (.int (0 : Int32)), .val (.int (0 : Int32))] []))
      refine Goes.go (fun _ kk => XS.iload X5.here hx rfl (hb hby at_203) rfl kk) ?_
      show Goes _ _ _ _ _ _ _ (T5.setTop (mkF m 205 _ [(.int (0 : Int32))]))
      refine Goes.go (fun _ kk => XS.iload X5.here hx rfl (hb hby at_205) rfl kk) ?_
      show Goes _ _ _ _ _ _ _ (T5.setTop (mkF m 207 _ [(.int (0 : Int32)), (.int (0 : Int32))]))
      refine Goes.go (fun _ kk => XS.icmpYes X5.here hx rfl (pc0 := 207) (pc' := 212) rfl (hb hby at_207) rfl (XT.ii_eq_t (by decide)) (by decide) (by decide) kk) ?_
      show Goes _ _ _ _ _ _ _ (T5.setTop (mkF m 212 _ []))
      refine Goes.go (fun _ kk => XS.iload X5.here hx rfl (hb hby at_212) rfl kk) ?_
      show Goes _ _ _ _ _ _ _ (T5.setTop (mkF m 214 _ [(.int v110)]))
      refine Goes.go (fun _ kk => XS.ifYes X5.here hx rfl (pc0 := 214) (pc' := 235) rfl (hb hby at_214) rfl (XT.i0_ne_t c114) (by decide) (by decide) kk) ?_
      show Goes _ _ _ _ _ _ _ (T5.setTop (mkF m 235 _ []))
      refine Goes.go (fun _ kk => XS.iconst X5.here hx rfl (hb hby at_235) kk) ?_
      show Goes _ _ _ _ _ _ _ (T5.setTop (mkF m 236 _ [(.int (1 : Int32))]))
      exact Goes.outZ X5 hx hlk hret rfl (hb hby at_236) hh5 (hQ _ _ N5) (by decide) (by decide)
    · skip
      refine Goes.go (fun _ kk => XS.icmpYes X4.here hx rfl (pc0 := 156) (pc' := 168) rfl (hb hby at_156) rfl (XT.ii_ne_t c156) (by decide) (by decide) kk) ?_
      show Goes _ _ _ _ _ _ _ (T4.setTop (mkF m 168 _ []))
      refine Goes.go (fun _ kk => XS.iload X4.here hx rfl (hb hby at_168) rfl kk) ?_
      show Goes _ _ _ _ _ _ _ (T4.setTop (mkF m 170 _ [(.int v110)]))
      refine Goes.go (fun _ kk => XS.iconst X4.here hx rfl (hb hby at_170) kk) ?_
      show Goes _ _ _ _ _ _ _ (T4.setTop (mkF m 171 _ [(.int (2 : Int32)), (.int v110)]))
      by_cases c171 : v110 = (2 : Int32)
      · skip
        refine Goes.go (fun _ kk => XS.icmpNo X4.here hx rfl (hb hby at_171) rfl (XT.ii_ne_f c171) kk) ?_
        show Goes _ _ _ _ _ _ _ (T4.setTop (mkF m 174 _ []))
        refine Goes.go (fun _ kk => XS.lload X4.here hx rfl (hb hby at_174) rfl kk) ?_
        show Goes _ _ _ _ _ _ _ (T4.setTop (mkF m 176 _ [(.long of1)]))
        obtain ⟨_, _, ⟨T5, L5, k5, n5⟩, -, X5, ⟨Lc5, hQ5, l5, y5, z5⟩, st5⟩ := Jvm.LawKit.callS X4 hx (y := (⟨"java/lang/Long", "valueOf", "(J)Ljava/lang/Long;"⟩ : MethodName)) hown (mvT hZ (hw _ (List.mem_of_getElem? (i := 28) rfl))) (mvT hZ (hw _ (List.mem_of_getElem? (i := 29) rfl))) (mvT hZ (hw _ (List.mem_of_getElem? (i := 30) rfl))) (mvT hZ (hw _ (List.mem_of_getElem? (i := 31) rfl))) (by decide) (backOf (W := 0) (rmV l Z a0 hw [] of1 T4.heap n0 Z4 hof1 (hC.ext (own_ext K4))) hZ (hw _ (List.mem_of_getElem? (i := 31) rfl)) (hw _ (List.mem_of_getElem? (i := 30) rfl)) (by decide) (by decide)) (g := (mkF m 176 #[.val (.long p0), .second, .val (.int p1), .val (.long p2), .second, .val (.long p3), .second, .val (.int p4), .val (.int p5), .val (.long of1), .second, .val (.int sz1), .val (.long of2), .second, .val (.int sz2), .val (.long tg2), .second, .val (.ref ob75), .val (.ref ob89), .val (.int v110), .unset, .unset, .unset] [(.long of1)])) rfl (by rw [hml]; rfl) (argsL := [(.long of1)]) (rest := []) (lenOf pd4 rfl) rfl (by show 2 * 0 + _ ≤ _; exact Nat.le_of_eq rfl) (hb hby at_176) (fun _ _ => ⟨rfl, rfl, (by decide : 2 + 1 ≤ _), (by decide : 6 + 1 ≤ _)⟩)
        dsimp only [Pt.U, Pt.locs, Pt.cells, Pt.slots] at X5 l5 y5 z5 st5 hQ5
        subst l5 y5 z5
        obtain ⟨xr5, rfl, Nq5, Kq5, Eq5⟩ := hQ5
        have N5 := Fr.app N4 Nq5
        have Z5 : n0 ≤ T5.heap.size := Nat.le_trans Z4 Kq5.1
        have f_14 := Exa.keep f_10 Kq5
        have f_15 := Fld.keep f_11 Kq5 nin0
        have f_16 := Fld.keep f_12 Kq5 nin0
        have f_17 := Fld.keep f_13 Kq5 nin0
        have f_18 := Exa.keep Eq4 Kq5
        have f_19 := Fld.keep Fq4_0 Kq5 nin0
        have f_20 := Fld.keep Fq4_1 Kq5 nin0
        have f_21 := Fld.keep Fq4_2 Kq5 nin0
        have K5 := K4.trans Kq5 all0
        refine Goes.go (st5) ?_
        show Goes _ _ _ _ _ _ _ (T5.setTop (mkF m 179 _ [(.ref xr5)]))
        refine Goes.go (fun _ kk => XS.astore X5.here hx rfl (hb hby at_179) rfl rfl (l' := #[.val (.long p0), .second, .val (.int p1), .val (.long p2), .second, .val (.long p3), .second, .val (.int p4), .val (.int p5), .val (.long of1), .second, .val (.int sz1), .val (.long of2), .second, .val (.int sz2), .val (.long tg2), .second, .val (.ref ob75), .val (.ref ob89), .val (.int v110), .val (.ref xr5), .unset, .unset]) rfl kk) ?_
        show Goes _ _ _ _ _ _ _ (T5.setTop (mkF m 181 #[.val (.long p0), .second, .val (.int p1), .val (.long p2), .second, .val (.long p3), .second, .val (.int p4), .val (.int p5), .val (.long of1), .second, .val (.int sz1), .val (.long of2), .second, .val (.int sz2), .val (.long tg2), .second, .val (.ref ob75), .val (.ref ob89), .val (.int v110), .val (.ref xr5), .unset, .unset] []))
        refine Goes.go (fun _ kk => XS.iconst X5.here hx rfl (hb hby at_181) kk) ?_
        show Goes _ _ _ _ _ _ _ (T5.setTop (mkF m 182 _ [(.int (0 : Int32))]))
        refine Goes.go (fun _ kk => XS.istore X5.here hx rfl (hb hby at_182) rfl (l' := #[.val (.long p0), .second, .val (.int p1), .val (.long p2), .second, .val (.long p3), .second, .val (.int p4), .val (.int p5), .val (.long of1), .second, .val (.int sz1), .val (.long of2), .second, .val (.int sz2), .val (.long tg2), .second, .val (.ref ob75), .val (.ref ob89), .val (.int v110), .val (.ref xr5), .val (.int (0 : Int32)), .unset]) rfl kk) ?_
        show Goes _ _ _ _ _ _ _ (T5.setTop (mkF m 184 #[.val (.long p0), .second, .val (.int p1), .val (.long p2), .second, .val (.long p3), .second, .val (.int p4), .val (.int p5), .val (.long of1), .second, .val (.int sz1), .val (.long of2), .second, .val (.int sz2), .val (.long tg2), .second, .val (.ref ob75), .val (.ref ob89), .val (.int v110), .val (.ref xr5), .val (.int (0 : Int32)), .unset] []))
        refine Goes.go (fun _ kk => XS.goto X5.here hx rfl (pc0 := 184) (pc' := 194) rfl (hb hby at_184) (by decide) (by decide) kk) ?_
        show Goes _ _ _ _ _ _ _ (T5.setTop (mkF m 194 _ []))
        refine Goes.go (fun _ kk => XS.aload X5.here hx rfl (hb hby at_194) rfl rfl kk) ?_
        show Goes _ _ _ _ _ _ _ (T5.setTop (mkF m 196 _ [(.ref ob75)]))
        refine Goes.go (fun _ kk => XS.aload X5.here hx rfl (hb hby at_196) rfl rfl kk) ?_
        show Goes _ _ _ _ _ _ _ (T5.setTop (mkF m 198 _ [(.ref xr5), (.ref ob75)]))
        obtain ⟨cq6, kq6, qa6, qb6, qc6⟩ := isOf hZ rfl f_14
        obtain ⟨_, _, ⟨T6, L6, k6, n6⟩, -, X6, ⟨Lc6, hQ6, l6, y6, z6⟩, st6⟩ := X5.virtualBack hx (y := (⟨"com/example/xixi/xixi/store/ConsumeQueueEntry", "equals", "(Ljava/lang/Object;)Z"⟩ : MethodName)) (z := (⟨"com/example/xixi/xixi/store/ConsumeQueueEntry", "equals", "(Ljava/lang/Object;)Z"⟩ : MethodName)) hown (mvT hZ (hw _ (List.mem_of_getElem? (i := 21) rfl))) (mvT hZ (hw _ (List.mem_of_getElem? (i := 22) rfl))) (notFace_of_selects (args := #[]) (mvT hZ (hw _ (List.mem_of_getElem? (i := 24) rfl)))) (mvT hZ (hw _ (List.mem_of_getElem? (i := 24) rfl))) (mvT hZ (hw _ (List.mem_of_getElem? (i := 23) rfl))) (by decide) (backOf (W := 0) (rmL l Z a0 hw [] ob75 xr5 T5.heap n0 Z5 Eq5) hZ (hw _ (List.mem_of_getElem? (i := 25) rfl)) (hw _ (List.mem_of_getElem? (i := 8) rfl)) (by decide) (by decide)) qa6 qc6 (g := (mkF m 198 #[.val (.long p0), .second, .val (.int p1), .val (.long p2), .second, .val (.long p3), .second, .val (.int p4), .val (.int p5), .val (.long of1), .second, .val (.int sz1), .val (.long of2), .second, .val (.int sz2), .val (.long tg2), .second, .val (.ref ob75), .val (.ref ob89), .val (.int v110), .val (.ref xr5), .val (.int (0 : Int32)), .unset] [(.ref xr5), (.ref ob75)])) rfl (by rw [hml]; rfl) (Steps.refl _) (argsL := [(.ref xr5)]) (rest := []) (lenOf pd3 rfl) rfl (by show 2 * 0 + _ ≤ _; exact Nat.le_of_eq rfl) (hb hby at_198) (fun _ _ => ⟨rfl, rfl, (by decide : 3 + 0 ≤ _), (by decide : 7 + 0 ≤ _)⟩)
        dsimp only [Pt.U, Pt.locs, Pt.cells, Pt.slots] at X6 l6 y6 z6 st6 hQ6
        subst l6 y6 z6
        obtain ⟨rfl, Nq6, hh6⟩ := hQ6
        have N6 := Fr.app N5 Nq6
        refine Goes.go (fun _ kk => st6.trans kk) ?_
        show Goes _ _ _ _ _ _ _ (T6.setTop (mkF m 201 _ [(.int (0 : Int32))]))
        refine Goes.go (fun _ kk => XS.istore X6.here hx rfl (hb hby at_201) rfl (l' := #[.val (.long p0), .second, .val (.int p1), .val (.long p2), .second, .val (.long p3), .second, .val (.int p4), .val (.int p5), .val (.long of1), .second, .val (.int sz1), .val (.long of2), .second, .val (.int sz2), .val (.long tg2), .second, .val (.ref ob75), .val (.ref ob89), .val (.int v110), .val (.ref xr5), .val (.int (0 : Int32)), .val (.int (0 : Int32))]) rfl kk) ?_
        show Goes _ _ _ _ _ _ _ (T6.setTop (mkF m 203 #[.val (.long p0), .second, .val (.int p1), .val (.long p2), .second, .val (.long p3), .second, .val (.int p4), .val (.int p5), .val (.long of1), .second, .val (.int sz1), .val (.long of2), .second, .val (.int sz2), .val (.long tg2), .second, .val (.ref ob75), .val (.ref ob89), .val (.int v110), .val (.ref xr5), .val (.int (0 : Int32)), .val (.int (0 : Int32))] []))
        refine Goes.go (fun _ kk => XS.iload X6.here hx rfl (hb hby at_203) rfl kk) ?_
        show Goes _ _ _ _ _ _ _ (T6.setTop (mkF m 205 _ [(.int (0 : Int32))]))
        refine Goes.go (fun _ kk => XS.iload X6.here hx rfl (hb hby at_205) rfl kk) ?_
        show Goes _ _ _ _ _ _ _ (T6.setTop (mkF m 207 _ [(.int (0 : Int32)), (.int (0 : Int32))]))
        refine Goes.go (fun _ kk => XS.icmpYes X6.here hx rfl (pc0 := 207) (pc' := 212) rfl (hb hby at_207) rfl (XT.ii_eq_t (by decide)) (by decide) (by decide) kk) ?_
        show Goes _ _ _ _ _ _ _ (T6.setTop (mkF m 212 _ []))
        refine Goes.go (fun _ kk => XS.iload X6.here hx rfl (hb hby at_212) rfl kk) ?_
        show Goes _ _ _ _ _ _ _ (T6.setTop (mkF m 214 _ [(.int v110)]))
        refine Goes.go (fun _ kk => XS.ifYes X6.here hx rfl (pc0 := 214) (pc' := 235) rfl (hb hby at_214) rfl (XT.i0_ne_t c114) (by decide) (by decide) kk) ?_
        show Goes _ _ _ _ _ _ _ (T6.setTop (mkF m 235 _ []))
        refine Goes.go (fun _ kk => XS.iconst X6.here hx rfl (hb hby at_235) kk) ?_
        show Goes _ _ _ _ _ _ _ (T6.setTop (mkF m 236 _ [(.int (1 : Int32))]))
        exact Goes.outZ X6 hx hlk hret rfl (hb hby at_236) hh6 (hQ _ _ N6) (by decide) (by decide)
      · skip
        refine Goes.go (fun _ kk => XS.icmpYes X4.here hx rfl (pc0 := 171) (pc' := 187) rfl (hb hby at_171) rfl (XT.ii_ne_t c171) (by decide) (by decide) kk) ?_
        show Goes _ _ _ _ _ _ _ (T4.setTop (mkF m 187 _ []))
        refine Goes.go (fun _ kk => XS.aload X4.here hx rfl (hb hby at_187) rfl rfl kk) ?_
        show Goes _ _ _ _ _ _ _ (T4.setTop (mkF m 189 _ [(.ref ob75)]))
        refine Goes.go (fun _ kk => XS.astore X4.here hx rfl (hb hby at_189) rfl rfl (l' := #[.val (.long p0), .second, .val (.int p1), .val (.long p2), .second, .val (.long p3), .second, .val (.int p4), .val (.int p5), .val (.long of1), .second, .val (.int sz1), .val (.long of2), .second, .val (.int sz2), .val (.long tg2), .second, .val (.ref ob75), .val (.ref ob89), .val (.int v110), .val (.ref ob75), .unset, .unset]) rfl kk) ?_
        show Goes _ _ _ _ _ _ _ (T4.setTop (mkF m 191 #[.val (.long p0), .second, .val (.int p1), .val (.long p2), .second, .val (.long p3), .second, .val (.int p4), .val (.int p5), .val (.long of1), .second, .val (.int sz1), .val (.long of2), .second, .val (.int sz2), .val (.long tg2), .second, .val (.ref ob75), .val (.ref ob89), .val (.int v110), .val (.ref ob75), .unset, .unset] []))
        refine Goes.go (fun _ kk => XS.iconst X4.here hx rfl (hb hby at_191) kk) ?_
        show Goes _ _ _ _ _ _ _ (T4.setTop (mkF m 192 _ [(.int (1 : Int32))]))
        refine Goes.go (fun _ kk => XS.istore X4.here hx rfl (hb hby at_192) rfl (l' := #[.val (.long p0), .second, .val (.int p1), .val (.long p2), .second, .val (.long p3), .second, .val (.int p4), .val (.int p5), .val (.long of1), .second, .val (.int sz1), .val (.long of2), .second, .val (.int sz2), .val (.long tg2), .second, .val (.ref ob75), .val (.ref ob89), .val (.int v110), .val (.ref ob75), .val (.int (1 : Int32)), .unset]) rfl kk) ?_
        show Goes _ _ _ _ _ _ _ (T4.setTop (mkF m 194 #[.val (.long p0), .second, .val (.int p1), .val (.long p2), .second, .val (.long p3), .second, .val (.int p4), .val (.int p5), .val (.long of1), .second, .val (.int sz1), .val (.long of2), .second, .val (.int sz2), .val (.long tg2), .second, .val (.ref ob75), .val (.ref ob89), .val (.int v110), .val (.ref ob75), .val (.int (1 : Int32)), .unset] []))
        refine Goes.go (fun _ kk => XS.aload X4.here hx rfl (hb hby at_194) rfl rfl kk) ?_
        show Goes _ _ _ _ _ _ _ (T4.setTop (mkF m 196 _ [(.ref ob75)]))
        refine Goes.go (fun _ kk => XS.aload X4.here hx rfl (hb hby at_196) rfl rfl kk) ?_
        show Goes _ _ _ _ _ _ _ (T4.setTop (mkF m 198 _ [(.ref ob75), (.ref ob75)]))
        obtain ⟨cq5, kq5, qa5, qb5, qc5⟩ := isOf hZ rfl f_10
        obtain ⟨_, _, ⟨T5, L5, k5, n5⟩, -, X5, ⟨Lc5, hQ5, l5, y5, z5⟩, st5⟩ := X4.virtualBack hx (y := (⟨"com/example/xixi/xixi/store/ConsumeQueueEntry", "equals", "(Ljava/lang/Object;)Z"⟩ : MethodName)) (z := (⟨"com/example/xixi/xixi/store/ConsumeQueueEntry", "equals", "(Ljava/lang/Object;)Z"⟩ : MethodName)) hown (mvT hZ (hw _ (List.mem_of_getElem? (i := 21) rfl))) (mvT hZ (hw _ (List.mem_of_getElem? (i := 22) rfl))) (notFace_of_selects (args := #[]) (mvT hZ (hw _ (List.mem_of_getElem? (i := 24) rfl)))) (mvT hZ (hw _ (List.mem_of_getElem? (i := 24) rfl))) (mvT hZ (hw _ (List.mem_of_getElem? (i := 23) rfl))) (by decide) (backOf (W := 0) (rmE l Z a0 hw [] ob75 ob75 of1 sz1 p2 of1 sz1 p2 T4.heap n0 Z4 f_10 f_11 f_12 f_13 f_11 f_12 f_13) hZ (hw _ (List.mem_of_getElem? (i := 25) rfl)) (hw _ (List.mem_of_getElem? (i := 8) rfl)) (by decide) (by decide)) qa5 qc5 (g := (mkF m 198 #[.val (.long p0), .second, .val (.int p1), .val (.long p2), .second, .val (.long p3), .second, .val (.int p4), .val (.int p5), .val (.long of1), .second, .val (.int sz1), .val (.long of2), .second, .val (.int sz2), .val (.long tg2), .second, .val (.ref ob75), .val (.ref ob89), .val (.int v110), .val (.ref ob75), .val (.int (1 : Int32)), .unset] [(.ref ob75), (.ref ob75)])) rfl (by rw [hml]; rfl) (Steps.refl _) (argsL := [(.ref ob75)]) (rest := []) (lenOf pd3 rfl) rfl (by show 2 * 0 + _ ≤ _; exact Nat.le_of_eq rfl) (hb hby at_198) (fun _ _ => ⟨rfl, rfl, (by decide : 2 + 0 ≤ _), (by decide : 6 + 0 ≤ _)⟩)
        dsimp only [Pt.U, Pt.locs, Pt.cells, Pt.slots] at X5 l5 y5 z5 st5 hQ5
        subst l5 y5 z5
        obtain ⟨rfl, Nq5, hh5⟩ := hQ5
        have N5 := Fr.app N4 Nq5
        refine Goes.go (fun _ kk => st5.trans kk) ?_
        show Goes _ _ _ _ _ _ _ (T5.setTop (mkF m 201 _ [(.int (eqF of1 sz1 p2 of1 sz1 p2))]))
        generalize hv201 : (eqF of1 sz1 p2 of1 sz1 p2) = v201
        refine Goes.go (fun _ kk => XS.istore X5.here hx rfl (hb hby at_201) rfl (l' := #[.val (.long p0), .second, .val (.int p1), .val (.long p2), .second, .val (.long p3), .second, .val (.int p4), .val (.int p5), .val (.long of1), .second, .val (.int sz1), .val (.long of2), .second, .val (.int sz2), .val (.long tg2), .second, .val (.ref ob75), .val (.ref ob89), .val (.int v110), .val (.ref ob75), .val (.int (1 : Int32)), .val (.int v201)]) rfl kk) ?_
        show Goes _ _ _ _ _ _ _ (T5.setTop (mkF m 203 #[.val (.long p0), .second, .val (.int p1), .val (.long p2), .second, .val (.long p3), .second, .val (.int p4), .val (.int p5), .val (.long of1), .second, .val (.int sz1), .val (.long of2), .second, .val (.int sz2), .val (.long tg2), .second, .val (.ref ob75), .val (.ref ob89), .val (.int v110), .val (.ref ob75), .val (.int (1 : Int32)), .val (.int v201)] []))
        refine Goes.go (fun _ kk => XS.iload X5.here hx rfl (hb hby at_203) rfl kk) ?_
        show Goes _ _ _ _ _ _ _ (T5.setTop (mkF m 205 _ [(.int v201)]))
        refine Goes.go (fun _ kk => XS.iload X5.here hx rfl (hb hby at_205) rfl kk) ?_
        show Goes _ _ _ _ _ _ _ (T5.setTop (mkF m 207 _ [(.int (1 : Int32)), (.int v201)]))
        refine Goes.go (fun _ kk => XS.icmpYes X5.here hx rfl (pc0 := 207) (pc' := 212) rfl (hb hby at_207) rfl (XT.ii_eq_t (hv201.symm.trans (eqF_self _ _ _))) (by decide) (by decide) kk) ?_
        show Goes _ _ _ _ _ _ _ (T5.setTop (mkF m 212 _ []))
        refine Goes.go (fun _ kk => XS.iload X5.here hx rfl (hb hby at_212) rfl kk) ?_
        show Goes _ _ _ _ _ _ _ (T5.setTop (mkF m 214 _ [(.int v110)]))
        refine Goes.go (fun _ kk => XS.ifYes X5.here hx rfl (pc0 := 214) (pc' := 235) rfl (hb hby at_214) rfl (XT.i0_ne_t c114) (by decide) (by decide) kk) ?_
        show Goes _ _ _ _ _ _ _ (T5.setTop (mkF m 235 _ []))
        refine Goes.go (fun _ kk => XS.iconst X5.here hx rfl (hb hby at_235) kk) ?_
        show Goes _ _ _ _ _ _ _ (T5.setTop (mkF m 236 _ [(.int (1 : Int32))]))
        exact Goes.outZ X5 hx hlk hret rfl (hb hby at_236) hh5 (hQ _ _ N5) (by decide) (by decide)
theorem pn3 : plainName "com/example/xixi/xixi/store/ConsumeQueueEntryEqualsPinLaw" = true := by first | (simp [plainName, overriddenIn]; done) | decide +kernel
theorem ef_rm0 (m : MethodId) (p0 : Int64) (p1 : Int32) (p2 : Int64) (p3 : Int64) (p4 : Int32) (p5 : Int32) : entryFrame m #[(.long p0), (.int p1), (.long p2), (.long p3), (.int p4), (.int p5)] maxLocals = mkF m 0 #[.val (.long p0), .second, .val (.int p1), .val (.long p2), .second, .val (.long p3), .second, .val (.int p4), .val (.int p5), .unset, .unset, .unset, .unset, .unset, .unset, .unset, .unset, .unset, .unset, .unset, .unset, .unset, .unset] [] := by first | (simp [entryFrame, mkF, argsToLocals, Value.category, maxLocals]; done) | rfl
def Q_rm0 (Z : State) (p0 : Int64) (p1 : Int32) (p2 : Int64) (p3 : Int64) (p4 : Int32) (p5 : Int32) (h0 : Heap) (n0 : Nat) (v : Option Value) (h : Heap) (L : List Loc) : Prop := v = some (.int 1) ∧ Fr n0 L
set_option maxRecDepth 65536 in
set_option maxHeartbeats 40000000 in
theorem rm0 (l : Launch) (Z : State) (a0 : Array Value) (hw : ∀ d ∈ tables_1, d.before a0 Z = true) (ws : List Jvm.Cond) (p0 : Int64) (p1 : Int32) (p2 : Int64) (p3 : Int64) (p4 : Int32) (p5 : Int32) (h0 : Heap) (n0 : Nat) (Z0 : n0 ≤ h0.size) (hC : LC Z h0) :
    MetFree l x (head1 (Jvm.Cond.code x code maxLocals ret :: ws) room_1) (fun aa U => aa = #[(.long p0), (.int p1), (.long p2), (.long p3), (.int p4), (.int p5)] ∧ Z.Warmed39 U.vm ∧ U.heap = h0) (fun _ _ _ _ _ => True) (fun _ U oo U' => ∃ v L, oo = .returned v ∧ Q_rm0 Z p0 p1 p2 p3 p4 p5 h0 n0 v U'.heap L ∧ FrameEnd U oo U' L room_1.cells room_1.slots) := by
  refine MetFree.of_bodySF (plainFor_of_name pn3) hisR ?_
  intro p e s m args below meth c s₁ Bd hml0 hP hK
  obtain ⟨rfl, hZ, hh⟩ := hP
  have hx := Bd.exec
  have hby := Bd.bytes
  have hml : c.maxLocals = 23 := hml0
  have hown : s.vm.findClass "com/example/xixi/xixi/store/ConsumeQueueEntryEqualsPinLaw" = some m.cls := findClass_of_methodNamed Bd.named
  have hnm := (name_of_methodNamed Bd.named Bd.method).1
  have hlk : meth.locks = false := Bd.notSynchronized
  have hret := Bd.returns
  have X0 : Stand p l e room_1 s m #[(.long p0), (.int p1), (.long p2), (.long p3), (.int p4), (.int p5)] below meth c s₁ [] 0 0 := Stand.of_body Bd
  have e0 : s₁.heap = h0 := by rw [← hh, Bd.state]; rfl
  have N0 := Fr.nil n0
  have K0 : Keep h0 h0 [] := Keep.refl _ _
  show Goes p e below s (Q_rm0 Z p0 p1 p2 p3 p4 p5 h0 n0) room_1.cells room_1.slots _
  refine Goes.go (fun _ kk => castTop (ef_rm0 m p0 p1 p2 p3 p4 p5) kk) ?_
  show Goes _ _ _ _ _ _ _ (s₁.setTop (mkF m 0 #[.val (.long p0), .second, .val (.int p1), .val (.long p2), .second, .val (.long p3), .second, .val (.int p4), .val (.int p5), .unset, .unset, .unset, .unset, .unset, .unset, .unset, .unset, .unset, .unset, .unset, .unset, .unset, .unset] []))
  refine Goes.go (fun _ kk => XS.lloadN X0.here hx rfl (hb hby at_0) rfl kk) ?_
  show Goes _ _ _ _ _ _ _ (s₁.setTop (mkF m 1 _ [(.long p0)]))
  refine Goes.go (fun _ kk => X0.ldc2J hx (v := (9223372036854775807 : Int64)) hown (mvT hZ (hw _ (List.mem_of_getElem? (i := 0) rfl))) rfl (hb hby at_1) kk) ?_
  show Goes _ _ _ _ _ _ _ (s₁.setTop (mkF m 4 _ [(.long (9223372036854775807 : Int64)), (.long p0)]))
  refine Goes.go (fun _ kk => XS.land X0.here hx rfl (hb hby at_4) rfl kk) ?_
  show Goes _ _ _ _ _ _ _ (s₁.setTop (mkF m 5 _ [(.long (p0 &&& (9223372036854775807 : Int64)))]))
  refine Goes.go (fun _ kk => XS.lstore X0.here hx rfl (hb hby at_5) rfl (l' := #[.val (.long p0), .second, .val (.int p1), .val (.long p2), .second, .val (.long p3), .second, .val (.int p4), .val (.int p5), .val (.long (p0 &&& (9223372036854775807 : Int64))), .second, .unset, .unset, .unset, .unset, .unset, .unset, .unset, .unset, .unset, .unset, .unset, .unset]) rfl kk) ?_
  show Goes _ _ _ _ _ _ _ (s₁.setTop (mkF m 7 #[.val (.long p0), .second, .val (.int p1), .val (.long p2), .second, .val (.long p3), .second, .val (.int p4), .val (.int p5), .val (.long (p0 &&& (9223372036854775807 : Int64))), .second, .unset, .unset, .unset, .unset, .unset, .unset, .unset, .unset, .unset, .unset, .unset, .unset] []))
  refine Goes.go (fun _ kk => XS.iconst X0.here hx rfl (hb hby at_7) kk) ?_
  show Goes _ _ _ _ _ _ _ (s₁.setTop (mkF m 8 _ [(.int (1 : Int32))]))
  refine Goes.go (fun _ kk => XS.iloadN X0.here hx rfl (hb hby at_8) rfl kk) ?_
  show Goes _ _ _ _ _ _ _ (s₁.setTop (mkF m 9 _ [(.int p1), (.int (1 : Int32))]))
  refine Goes.go (fun _ kk => X0.ldcI hx (v := (2147483647 : Int32)) hown (mvT hZ (hw _ (List.mem_of_getElem? (i := 1) rfl))) rfl (hb hby at_9) kk) ?_
  show Goes _ _ _ _ _ _ _ (s₁.setTop (mkF m 11 _ [(.int (2147483647 : Int32)), (.int p1), (.int (1 : Int32))]))
  refine Goes.go (fun _ kk => XS.iand X0.here hx rfl (hb hby at_11) rfl kk) ?_
  show Goes _ _ _ _ _ _ _ (s₁.setTop (mkF m 12 _ [(.int (p1 &&& (2147483647 : Int32))), (.int (1 : Int32))]))
  obtain ⟨_, _, ⟨T1, L1, k1, n1⟩, -, X1, ⟨Lc1, hQ1, l1, y1, z1⟩, st1⟩ := Jvm.LawKit.callS X0 hx (y := (⟨"java/lang/Math", "max", "(II)I"⟩ : MethodName)) hown (mvT hZ (hw _ (List.mem_of_getElem? (i := 2) rfl))) (mvT hZ (hw _ (List.mem_of_getElem? (i := 3) rfl))) (mvT hZ (hw _ (List.mem_of_getElem? (i := 4) rfl))) (mvT hZ (hw _ (List.mem_of_getElem? (i := 5) rfl))) (by decide) (backOf (W := 0) (rmM l Z a0 hw [] (1 : Int32) (p1 &&& (2147483647 : Int32)) h0 n0 Z0) hZ (hw _ (List.mem_of_getElem? (i := 5) rfl)) (hw _ (List.mem_of_getElem? (i := 4) rfl)) (by decide) (by decide)) (g := (mkF m 12 #[.val (.long p0), .second, .val (.int p1), .val (.long p2), .second, .val (.long p3), .second, .val (.int p4), .val (.int p5), .val (.long (p0 &&& (9223372036854775807 : Int64))), .second, .unset, .unset, .unset, .unset, .unset, .unset, .unset, .unset, .unset, .unset, .unset, .unset] [(.int (p1 &&& (2147483647 : Int32))), (.int (1 : Int32))])) rfl (by rw [hml]; rfl) (argsL := [(.int (1 : Int32)), (.int (p1 &&& (2147483647 : Int32)))]) (rest := []) (lenOf pd0 rfl) rfl (by show 2 * 0 + _ ≤ _; exact Nat.le_of_eq rfl) (hb hby at_12) (fun _ _ => ⟨rfl, e0, (by decide : 0 + 0 ≤ _), (by decide : 0 + 0 ≤ _)⟩)
  dsimp only [Pt.U, Pt.locs, Pt.cells, Pt.slots] at X1 l1 y1 z1 st1 hQ1
  subst l1 y1 z1
  obtain ⟨rfl, Nq1, hh1⟩ := hQ1
  have N1 := Fr.app N0 Nq1
  refine Goes.go (st1) ?_
  show Goes _ _ _ _ _ _ _ (T1.setTop (mkF m 15 _ [(.int (mxI (1 : Int32) (p1 &&& (2147483647 : Int32))))]))
  refine Goes.go (fun _ kk => XS.istore X1.here hx rfl (hb hby at_15) rfl (l' := #[.val (.long p0), .second, .val (.int p1), .val (.long p2), .second, .val (.long p3), .second, .val (.int p4), .val (.int p5), .val (.long (p0 &&& (9223372036854775807 : Int64))), .second, .val (.int (mxI (1 : Int32) (p1 &&& (2147483647 : Int32)))), .unset, .unset, .unset, .unset, .unset, .unset, .unset, .unset, .unset, .unset, .unset]) rfl kk) ?_
  show Goes _ _ _ _ _ _ _ (T1.setTop (mkF m 17 #[.val (.long p0), .second, .val (.int p1), .val (.long p2), .second, .val (.long p3), .second, .val (.int p4), .val (.int p5), .val (.long (p0 &&& (9223372036854775807 : Int64))), .second, .val (.int (mxI (1 : Int32) (p1 &&& (2147483647 : Int32)))), .unset, .unset, .unset, .unset, .unset, .unset, .unset, .unset, .unset, .unset, .unset] []))
  refine Goes.go (fun _ kk => XS.iload X1.here hx rfl (hb hby at_17) rfl kk) ?_
  show Goes _ _ _ _ _ _ _ (T1.setTop (mkF m 19 _ [(.int p5)]))
  refine Goes.go (fun _ kk => XS.iconst X1.here hx rfl (hb hby at_19) kk) ?_
  show Goes _ _ _ _ _ _ _ (T1.setTop (mkF m 20 _ [(.int (1 : Int32)), (.int p5)]))
  refine Goes.go (fun _ kk => XS.iand X1.here hx rfl (hb hby at_20) rfl kk) ?_
  show Goes _ _ _ _ _ _ _ (T1.setTop (mkF m 21 _ [(.int (p5 &&& (1 : Int32)))]))
  by_cases c21 : (p5 &&& (1 : Int32)) = 0
  · skip
    refine Goes.go (fun _ kk => XS.ifYes X1.here hx rfl (pc0 := 21) (pc' := 29) rfl (hb hby at_21) rfl (XT.i0_eq_t c21) (by decide) (by decide) kk) ?_
    show Goes _ _ _ _ _ _ _ (T1.setTop (mkF m 29 _ []))
    refine Goes.go (fun _ kk => XS.lload X1.here hx rfl (hb hby at_29) rfl kk) ?_
    show Goes _ _ _ _ _ _ _ (T1.setTop (mkF m 31 _ [(.long p3)]))
    refine Goes.go (fun _ kk => X1.ldc2J hx (v := (9223372036854775807 : Int64)) hown (mvT hZ (hw _ (List.mem_of_getElem? (i := 0) rfl))) rfl (hb hby at_31) kk) ?_
    show Goes _ _ _ _ _ _ _ (T1.setTop (mkF m 34 _ [(.long (9223372036854775807 : Int64)), (.long p3)]))
    refine Goes.go (fun _ kk => XS.land X1.here hx rfl (hb hby at_34) rfl kk) ?_
    show Goes _ _ _ _ _ _ _ (T1.setTop (mkF m 35 _ [(.long (p3 &&& (9223372036854775807 : Int64)))]))
    refine Goes.go (fun _ kk => XS.lstore X1.here hx rfl (hb hby at_35) rfl (l' := #[.val (.long p0), .second, .val (.int p1), .val (.long p2), .second, .val (.long p3), .second, .val (.int p4), .val (.int p5), .val (.long (p0 &&& (9223372036854775807 : Int64))), .second, .val (.int (mxI (1 : Int32) (p1 &&& (2147483647 : Int32)))), .val (.long (p3 &&& (9223372036854775807 : Int64))), .second, .unset, .unset, .unset, .unset, .unset, .unset, .unset, .unset, .unset]) rfl kk) ?_
    show Goes _ _ _ _ _ _ _ (T1.setTop (mkF m 37 #[.val (.long p0), .second, .val (.int p1), .val (.long p2), .second, .val (.long p3), .second, .val (.int p4), .val (.int p5), .val (.long (p0 &&& (9223372036854775807 : Int64))), .second, .val (.int (mxI (1 : Int32) (p1 &&& (2147483647 : Int32)))), .val (.long (p3 &&& (9223372036854775807 : Int64))), .second, .unset, .unset, .unset, .unset, .unset, .unset, .unset, .unset, .unset] []))
    refine Goes.go (fun _ kk => XS.iload X1.here hx rfl (hb hby at_37) rfl kk) ?_
    show Goes _ _ _ _ _ _ _ (T1.setTop (mkF m 39 _ [(.int p5)]))
    refine Goes.go (fun _ kk => XS.iconst X1.here hx rfl (hb hby at_39) kk) ?_
    show Goes _ _ _ _ _ _ _ (T1.setTop (mkF m 40 _ [(.int (2 : Int32)), (.int p5)]))
    refine Goes.go (fun _ kk => XS.iand X1.here hx rfl (hb hby at_40) rfl kk) ?_
    show Goes _ _ _ _ _ _ _ (T1.setTop (mkF m 41 _ [(.int (p5 &&& (2 : Int32)))]))
    by_cases c41 : (p5 &&& (2 : Int32)) = 0
    · skip
      refine Goes.go (fun _ kk => XS.ifYes X1.here hx rfl (pc0 := 41) (pc' := 49) rfl (hb hby at_41) rfl (XT.i0_eq_t c41) (by decide) (by decide) kk) ?_
      show Goes _ _ _ _ _ _ _ (T1.setTop (mkF m 49 _ []))
      refine Goes.go (fun _ kk => XS.iconst X1.here hx rfl (hb hby at_49) kk) ?_
      show Goes _ _ _ _ _ _ _ (T1.setTop (mkF m 50 _ [(.int (1 : Int32))]))
      refine Goes.go (fun _ kk => XS.iload X1.here hx rfl (hb hby at_50) rfl kk) ?_
      show Goes _ _ _ _ _ _ _ (T1.setTop (mkF m 52 _ [(.int p4), (.int (1 : Int32))]))
      refine Goes.go (fun _ kk => X1.ldcI hx (v := (2147483647 : Int32)) hown (mvT hZ (hw _ (List.mem_of_getElem? (i := 1) rfl))) rfl (hb hby at_52) kk) ?_
      show Goes _ _ _ _ _ _ _ (T1.setTop (mkF m 54 _ [(.int (2147483647 : Int32)), (.int p4), (.int (1 : Int32))]))
      refine Goes.go (fun _ kk => XS.iand X1.here hx rfl (hb hby at_54) rfl kk) ?_
      show Goes _ _ _ _ _ _ _ (T1.setTop (mkF m 55 _ [(.int (p4 &&& (2147483647 : Int32))), (.int (1 : Int32))]))
      obtain ⟨_, _, ⟨T2, L2, k2, n2⟩, -, X2, ⟨Lc2, hQ2, l2, y2, z2⟩, st2⟩ := Jvm.LawKit.callS X1 hx (y := (⟨"java/lang/Math", "max", "(II)I"⟩ : MethodName)) hown (mvT hZ (hw _ (List.mem_of_getElem? (i := 2) rfl))) (mvT hZ (hw _ (List.mem_of_getElem? (i := 3) rfl))) (mvT hZ (hw _ (List.mem_of_getElem? (i := 4) rfl))) (mvT hZ (hw _ (List.mem_of_getElem? (i := 5) rfl))) (by decide) (backOf (W := 0) (rmM l Z a0 hw [] (1 : Int32) (p4 &&& (2147483647 : Int32)) h0 n0 Z0) hZ (hw _ (List.mem_of_getElem? (i := 5) rfl)) (hw _ (List.mem_of_getElem? (i := 4) rfl)) (by decide) (by decide)) (g := (mkF m 55 #[.val (.long p0), .second, .val (.int p1), .val (.long p2), .second, .val (.long p3), .second, .val (.int p4), .val (.int p5), .val (.long (p0 &&& (9223372036854775807 : Int64))), .second, .val (.int (mxI (1 : Int32) (p1 &&& (2147483647 : Int32)))), .val (.long (p3 &&& (9223372036854775807 : Int64))), .second, .unset, .unset, .unset, .unset, .unset, .unset, .unset, .unset, .unset] [(.int (p4 &&& (2147483647 : Int32))), (.int (1 : Int32))])) rfl (by rw [hml]; rfl) (argsL := [(.int (1 : Int32)), (.int (p4 &&& (2147483647 : Int32)))]) (rest := []) (lenOf pd0 rfl) rfl (by show 2 * 0 + _ ≤ _; exact Nat.le_of_eq rfl) (hb hby at_55) (fun _ _ => ⟨rfl, hh1, (by decide : 0 + 0 ≤ _), (by decide : 0 + 0 ≤ _)⟩)
      dsimp only [Pt.U, Pt.locs, Pt.cells, Pt.slots] at X2 l2 y2 z2 st2 hQ2
      subst l2 y2 z2
      obtain ⟨rfl, Nq2, hh2⟩ := hQ2
      have N2 := Fr.app N1 Nq2
      refine Goes.go (st2) ?_
      show Goes _ _ _ _ _ _ _ (T2.setTop (mkF m 58 _ [(.int (mxI (1 : Int32) (p4 &&& (2147483647 : Int32))))]))
      refine Goes.go (fun _ kk => XS.istore X2.here hx rfl (hb hby at_58) rfl (l' := #[.val (.long p0), .second, .val (.int p1), .val (.long p2), .second, .val (.long p3), .second, .val (.int p4), .val (.int p5), .val (.long (p0 &&& (9223372036854775807 : Int64))), .second, .val (.int (mxI (1 : Int32) (p1 &&& (2147483647 : Int32)))), .val (.long (p3 &&& (9223372036854775807 : Int64))), .second, .val (.int (mxI (1 : Int32) (p4 &&& (2147483647 : Int32)))), .unset, .unset, .unset, .unset, .unset, .unset, .unset, .unset]) rfl kk) ?_
      show Goes _ _ _ _ _ _ _ (T2.setTop (mkF m 60 #[.val (.long p0), .second, .val (.int p1), .val (.long p2), .second, .val (.long p3), .second, .val (.int p4), .val (.int p5), .val (.long (p0 &&& (9223372036854775807 : Int64))), .second, .val (.int (mxI (1 : Int32) (p1 &&& (2147483647 : Int32)))), .val (.long (p3 &&& (9223372036854775807 : Int64))), .second, .val (.int (mxI (1 : Int32) (p4 &&& (2147483647 : Int32)))), .unset, .unset, .unset, .unset, .unset, .unset, .unset, .unset] []))
      refine Goes.go (fun _ kk => XS.iload X2.here hx rfl (hb hby at_60) rfl kk) ?_
      show Goes _ _ _ _ _ _ _ (T2.setTop (mkF m 62 _ [(.int p5)]))
      refine Goes.go (fun _ kk => XS.iconst X2.here hx rfl (hb hby at_62) kk) ?_
      show Goes _ _ _ _ _ _ _ (T2.setTop (mkF m 63 _ [(.int (4 : Int32)), (.int p5)]))
      refine Goes.go (fun _ kk => XS.iand X2.here hx rfl (hb hby at_63) rfl kk) ?_
      show Goes _ _ _ _ _ _ _ (T2.setTop (mkF m 64 _ [(.int (p5 &&& (4 : Int32)))]))
      by_cases c64 : (p5 &&& (4 : Int32)) = 0
      · skip
        refine Goes.go (fun _ kk => XS.ifYes X2.here hx rfl (pc0 := 64) (pc' := 71) rfl (hb hby at_64) rfl (XT.i0_eq_t c64) (by decide) (by decide) kk) ?_
        show Goes _ _ _ _ _ _ _ (T2.setTop (mkF m 71 _ []))
        refine Goes.go (fun _ kk => XS.lload X2.here hx rfl (hb hby at_71) rfl kk) ?_
        show Goes _ _ _ _ _ _ _ (T2.setTop (mkF m 73 _ [(.long p3)]))
        refine Goes.go (fun _ kk => XS.lstore X2.here hx rfl (hb hby at_73) rfl (l' := #[.val (.long p0), .second, .val (.int p1), .val (.long p2), .second, .val (.long p3), .second, .val (.int p4), .val (.int p5), .val (.long (p0 &&& (9223372036854775807 : Int64))), .second, .val (.int (mxI (1 : Int32) (p1 &&& (2147483647 : Int32)))), .val (.long (p3 &&& (9223372036854775807 : Int64))), .second, .val (.int (mxI (1 : Int32) (p4 &&& (2147483647 : Int32)))), .val (.long p3), .second, .unset, .unset, .unset, .unset, .unset, .unset]) rfl kk) ?_
        show Goes _ _ _ _ _ _ _ (T2.setTop (mkF m 75 #[.val (.long p0), .second, .val (.int p1), .val (.long p2), .second, .val (.long p3), .second, .val (.int p4), .val (.int p5), .val (.long (p0 &&& (9223372036854775807 : Int64))), .second, .val (.int (mxI (1 : Int32) (p1 &&& (2147483647 : Int32)))), .val (.long (p3 &&& (9223372036854775807 : Int64))), .second, .val (.int (mxI (1 : Int32) (p4 &&& (2147483647 : Int32)))), .val (.long p3), .second, .unset, .unset, .unset, .unset, .unset, .unset] []))
        exact seg75 hw hx hby hml hown hnm hlk hret hZ p0 p1 p2 p3 p4 p5 (p0 &&& (9223372036854775807 : Int64)) (mxI (1 : Int32) (p1 &&& (2147483647 : Int32))) (p3 &&& (9223372036854775807 : Int64)) (mxI (1 : Int32) (p4 &&& (2147483647 : Int32))) p3 n0 (fun _ _ N => ⟨rfl, N⟩) Z0 X2 hh2 N2 (own_off _) (own_max1 _) (own_off _) (own_max1 _) hC
      · skip
        refine Goes.go (fun _ kk => XS.ifNo X2.here hx rfl (hb hby at_64) rfl (XT.i0_eq_f c64) kk) ?_
        show Goes _ _ _ _ _ _ _ (T2.setTop (mkF m 67 _ []))
        refine Goes.go (fun _ kk => XS.lloadN X2.here hx rfl (hb hby at_67) rfl kk) ?_
        show Goes _ _ _ _ _ _ _ (T2.setTop (mkF m 68 _ [(.long p2)]))
        refine Goes.go (fun _ kk => XS.goto X2.here hx rfl (pc0 := 68) (pc' := 73) rfl (hb hby at_68) (by decide) (by decide) kk) ?_
        show Goes _ _ _ _ _ _ _ (T2.setTop (mkF m 73 _ [(.long p2)]))
        refine Goes.go (fun _ kk => XS.lstore X2.here hx rfl (hb hby at_73) rfl (l' := #[.val (.long p0), .second, .val (.int p1), .val (.long p2), .second, .val (.long p3), .second, .val (.int p4), .val (.int p5), .val (.long (p0 &&& (9223372036854775807 : Int64))), .second, .val (.int (mxI (1 : Int32) (p1 &&& (2147483647 : Int32)))), .val (.long (p3 &&& (9223372036854775807 : Int64))), .second, .val (.int (mxI (1 : Int32) (p4 &&& (2147483647 : Int32)))), .val (.long p2), .second, .unset, .unset, .unset, .unset, .unset, .unset]) rfl kk) ?_
        show Goes _ _ _ _ _ _ _ (T2.setTop (mkF m 75 #[.val (.long p0), .second, .val (.int p1), .val (.long p2), .second, .val (.long p3), .second, .val (.int p4), .val (.int p5), .val (.long (p0 &&& (9223372036854775807 : Int64))), .second, .val (.int (mxI (1 : Int32) (p1 &&& (2147483647 : Int32)))), .val (.long (p3 &&& (9223372036854775807 : Int64))), .second, .val (.int (mxI (1 : Int32) (p4 &&& (2147483647 : Int32)))), .val (.long p2), .second, .unset, .unset, .unset, .unset, .unset, .unset] []))
        exact seg75 hw hx hby hml hown hnm hlk hret hZ p0 p1 p2 p3 p4 p5 (p0 &&& (9223372036854775807 : Int64)) (mxI (1 : Int32) (p1 &&& (2147483647 : Int32))) (p3 &&& (9223372036854775807 : Int64)) (mxI (1 : Int32) (p4 &&& (2147483647 : Int32))) p2 n0 (fun _ _ N => ⟨rfl, N⟩) Z0 X2 hh2 N2 (own_off _) (own_max1 _) (own_off _) (own_max1 _) hC
    · skip
      refine Goes.go (fun _ kk => XS.ifNo X1.here hx rfl (hb hby at_41) rfl (XT.i0_eq_f c41) kk) ?_
      show Goes _ _ _ _ _ _ _ (T1.setTop (mkF m 44 _ []))
      refine Goes.go (fun _ kk => XS.iload X1.here hx rfl (hb hby at_44) rfl kk) ?_
      show Goes _ _ _ _ _ _ _ (T1.setTop (mkF m 46 _ [(.int (mxI (1 : Int32) (p1 &&& (2147483647 : Int32))))]))
      refine Goes.go (fun _ kk => XS.goto X1.here hx rfl (pc0 := 46) (pc' := 58) rfl (hb hby at_46) (by decide) (by decide) kk) ?_
      show Goes _ _ _ _ _ _ _ (T1.setTop (mkF m 58 _ [(.int (mxI (1 : Int32) (p1 &&& (2147483647 : Int32))))]))
      refine Goes.go (fun _ kk => XS.istore X1.here hx rfl (hb hby at_58) rfl (l' := #[.val (.long p0), .second, .val (.int p1), .val (.long p2), .second, .val (.long p3), .second, .val (.int p4), .val (.int p5), .val (.long (p0 &&& (9223372036854775807 : Int64))), .second, .val (.int (mxI (1 : Int32) (p1 &&& (2147483647 : Int32)))), .val (.long (p3 &&& (9223372036854775807 : Int64))), .second, .val (.int (mxI (1 : Int32) (p1 &&& (2147483647 : Int32)))), .unset, .unset, .unset, .unset, .unset, .unset, .unset, .unset]) rfl kk) ?_
      show Goes _ _ _ _ _ _ _ (T1.setTop (mkF m 60 #[.val (.long p0), .second, .val (.int p1), .val (.long p2), .second, .val (.long p3), .second, .val (.int p4), .val (.int p5), .val (.long (p0 &&& (9223372036854775807 : Int64))), .second, .val (.int (mxI (1 : Int32) (p1 &&& (2147483647 : Int32)))), .val (.long (p3 &&& (9223372036854775807 : Int64))), .second, .val (.int (mxI (1 : Int32) (p1 &&& (2147483647 : Int32)))), .unset, .unset, .unset, .unset, .unset, .unset, .unset, .unset] []))
      refine Goes.go (fun _ kk => XS.iload X1.here hx rfl (hb hby at_60) rfl kk) ?_
      show Goes _ _ _ _ _ _ _ (T1.setTop (mkF m 62 _ [(.int p5)]))
      refine Goes.go (fun _ kk => XS.iconst X1.here hx rfl (hb hby at_62) kk) ?_
      show Goes _ _ _ _ _ _ _ (T1.setTop (mkF m 63 _ [(.int (4 : Int32)), (.int p5)]))
      refine Goes.go (fun _ kk => XS.iand X1.here hx rfl (hb hby at_63) rfl kk) ?_
      show Goes _ _ _ _ _ _ _ (T1.setTop (mkF m 64 _ [(.int (p5 &&& (4 : Int32)))]))
      by_cases c64 : (p5 &&& (4 : Int32)) = 0
      · skip
        refine Goes.go (fun _ kk => XS.ifYes X1.here hx rfl (pc0 := 64) (pc' := 71) rfl (hb hby at_64) rfl (XT.i0_eq_t c64) (by decide) (by decide) kk) ?_
        show Goes _ _ _ _ _ _ _ (T1.setTop (mkF m 71 _ []))
        refine Goes.go (fun _ kk => XS.lload X1.here hx rfl (hb hby at_71) rfl kk) ?_
        show Goes _ _ _ _ _ _ _ (T1.setTop (mkF m 73 _ [(.long p3)]))
        refine Goes.go (fun _ kk => XS.lstore X1.here hx rfl (hb hby at_73) rfl (l' := #[.val (.long p0), .second, .val (.int p1), .val (.long p2), .second, .val (.long p3), .second, .val (.int p4), .val (.int p5), .val (.long (p0 &&& (9223372036854775807 : Int64))), .second, .val (.int (mxI (1 : Int32) (p1 &&& (2147483647 : Int32)))), .val (.long (p3 &&& (9223372036854775807 : Int64))), .second, .val (.int (mxI (1 : Int32) (p1 &&& (2147483647 : Int32)))), .val (.long p3), .second, .unset, .unset, .unset, .unset, .unset, .unset]) rfl kk) ?_
        show Goes _ _ _ _ _ _ _ (T1.setTop (mkF m 75 #[.val (.long p0), .second, .val (.int p1), .val (.long p2), .second, .val (.long p3), .second, .val (.int p4), .val (.int p5), .val (.long (p0 &&& (9223372036854775807 : Int64))), .second, .val (.int (mxI (1 : Int32) (p1 &&& (2147483647 : Int32)))), .val (.long (p3 &&& (9223372036854775807 : Int64))), .second, .val (.int (mxI (1 : Int32) (p1 &&& (2147483647 : Int32)))), .val (.long p3), .second, .unset, .unset, .unset, .unset, .unset, .unset] []))
        exact seg75 hw hx hby hml hown hnm hlk hret hZ p0 p1 p2 p3 p4 p5 (p0 &&& (9223372036854775807 : Int64)) (mxI (1 : Int32) (p1 &&& (2147483647 : Int32))) (p3 &&& (9223372036854775807 : Int64)) (mxI (1 : Int32) (p1 &&& (2147483647 : Int32))) p3 n0 (fun _ _ N => ⟨rfl, N⟩) Z0 X1 hh1 N1 (own_off _) (own_max1 _) (own_off _) (own_max1 _) hC
      · skip
        refine Goes.go (fun _ kk => XS.ifNo X1.here hx rfl (hb hby at_64) rfl (XT.i0_eq_f c64) kk) ?_
        show Goes _ _ _ _ _ _ _ (T1.setTop (mkF m 67 _ []))
        refine Goes.go (fun _ kk => XS.lloadN X1.here hx rfl (hb hby at_67) rfl kk) ?_
        show Goes _ _ _ _ _ _ _ (T1.setTop (mkF m 68 _ [(.long p2)]))
        refine Goes.go (fun _ kk => XS.goto X1.here hx rfl (pc0 := 68) (pc' := 73) rfl (hb hby at_68) (by decide) (by decide) kk) ?_
        show Goes _ _ _ _ _ _ _ (T1.setTop (mkF m 73 _ [(.long p2)]))
        refine Goes.go (fun _ kk => XS.lstore X1.here hx rfl (hb hby at_73) rfl (l' := #[.val (.long p0), .second, .val (.int p1), .val (.long p2), .second, .val (.long p3), .second, .val (.int p4), .val (.int p5), .val (.long (p0 &&& (9223372036854775807 : Int64))), .second, .val (.int (mxI (1 : Int32) (p1 &&& (2147483647 : Int32)))), .val (.long (p3 &&& (9223372036854775807 : Int64))), .second, .val (.int (mxI (1 : Int32) (p1 &&& (2147483647 : Int32)))), .val (.long p2), .second, .unset, .unset, .unset, .unset, .unset, .unset]) rfl kk) ?_
        show Goes _ _ _ _ _ _ _ (T1.setTop (mkF m 75 #[.val (.long p0), .second, .val (.int p1), .val (.long p2), .second, .val (.long p3), .second, .val (.int p4), .val (.int p5), .val (.long (p0 &&& (9223372036854775807 : Int64))), .second, .val (.int (mxI (1 : Int32) (p1 &&& (2147483647 : Int32)))), .val (.long (p3 &&& (9223372036854775807 : Int64))), .second, .val (.int (mxI (1 : Int32) (p1 &&& (2147483647 : Int32)))), .val (.long p2), .second, .unset, .unset, .unset, .unset, .unset, .unset] []))
        exact seg75 hw hx hby hml hown hnm hlk hret hZ p0 p1 p2 p3 p4 p5 (p0 &&& (9223372036854775807 : Int64)) (mxI (1 : Int32) (p1 &&& (2147483647 : Int32))) (p3 &&& (9223372036854775807 : Int64)) (mxI (1 : Int32) (p1 &&& (2147483647 : Int32))) p2 n0 (fun _ _ N => ⟨rfl, N⟩) Z0 X1 hh1 N1 (own_off _) (own_max1 _) (own_off _) (own_max1 _) hC
  · skip
    refine Goes.go (fun _ kk => XS.ifNo X1.here hx rfl (hb hby at_21) rfl (XT.i0_eq_f c21) kk) ?_
    show Goes _ _ _ _ _ _ _ (T1.setTop (mkF m 24 _ []))
    refine Goes.go (fun _ kk => XS.lload X1.here hx rfl (hb hby at_24) rfl kk) ?_
    show Goes _ _ _ _ _ _ _ (T1.setTop (mkF m 26 _ [(.long (p0 &&& (9223372036854775807 : Int64)))]))
    refine Goes.go (fun _ kk => XS.goto X1.here hx rfl (pc0 := 26) (pc' := 35) rfl (hb hby at_26) (by decide) (by decide) kk) ?_
    show Goes _ _ _ _ _ _ _ (T1.setTop (mkF m 35 _ [(.long (p0 &&& (9223372036854775807 : Int64)))]))
    refine Goes.go (fun _ kk => XS.lstore X1.here hx rfl (hb hby at_35) rfl (l' := #[.val (.long p0), .second, .val (.int p1), .val (.long p2), .second, .val (.long p3), .second, .val (.int p4), .val (.int p5), .val (.long (p0 &&& (9223372036854775807 : Int64))), .second, .val (.int (mxI (1 : Int32) (p1 &&& (2147483647 : Int32)))), .val (.long (p0 &&& (9223372036854775807 : Int64))), .second, .unset, .unset, .unset, .unset, .unset, .unset, .unset, .unset, .unset]) rfl kk) ?_
    show Goes _ _ _ _ _ _ _ (T1.setTop (mkF m 37 #[.val (.long p0), .second, .val (.int p1), .val (.long p2), .second, .val (.long p3), .second, .val (.int p4), .val (.int p5), .val (.long (p0 &&& (9223372036854775807 : Int64))), .second, .val (.int (mxI (1 : Int32) (p1 &&& (2147483647 : Int32)))), .val (.long (p0 &&& (9223372036854775807 : Int64))), .second, .unset, .unset, .unset, .unset, .unset, .unset, .unset, .unset, .unset] []))
    refine Goes.go (fun _ kk => XS.iload X1.here hx rfl (hb hby at_37) rfl kk) ?_
    show Goes _ _ _ _ _ _ _ (T1.setTop (mkF m 39 _ [(.int p5)]))
    refine Goes.go (fun _ kk => XS.iconst X1.here hx rfl (hb hby at_39) kk) ?_
    show Goes _ _ _ _ _ _ _ (T1.setTop (mkF m 40 _ [(.int (2 : Int32)), (.int p5)]))
    refine Goes.go (fun _ kk => XS.iand X1.here hx rfl (hb hby at_40) rfl kk) ?_
    show Goes _ _ _ _ _ _ _ (T1.setTop (mkF m 41 _ [(.int (p5 &&& (2 : Int32)))]))
    by_cases c41 : (p5 &&& (2 : Int32)) = 0
    · skip
      refine Goes.go (fun _ kk => XS.ifYes X1.here hx rfl (pc0 := 41) (pc' := 49) rfl (hb hby at_41) rfl (XT.i0_eq_t c41) (by decide) (by decide) kk) ?_
      show Goes _ _ _ _ _ _ _ (T1.setTop (mkF m 49 _ []))
      refine Goes.go (fun _ kk => XS.iconst X1.here hx rfl (hb hby at_49) kk) ?_
      show Goes _ _ _ _ _ _ _ (T1.setTop (mkF m 50 _ [(.int (1 : Int32))]))
      refine Goes.go (fun _ kk => XS.iload X1.here hx rfl (hb hby at_50) rfl kk) ?_
      show Goes _ _ _ _ _ _ _ (T1.setTop (mkF m 52 _ [(.int p4), (.int (1 : Int32))]))
      refine Goes.go (fun _ kk => X1.ldcI hx (v := (2147483647 : Int32)) hown (mvT hZ (hw _ (List.mem_of_getElem? (i := 1) rfl))) rfl (hb hby at_52) kk) ?_
      show Goes _ _ _ _ _ _ _ (T1.setTop (mkF m 54 _ [(.int (2147483647 : Int32)), (.int p4), (.int (1 : Int32))]))
      refine Goes.go (fun _ kk => XS.iand X1.here hx rfl (hb hby at_54) rfl kk) ?_
      show Goes _ _ _ _ _ _ _ (T1.setTop (mkF m 55 _ [(.int (p4 &&& (2147483647 : Int32))), (.int (1 : Int32))]))
      obtain ⟨_, _, ⟨T2, L2, k2, n2⟩, -, X2, ⟨Lc2, hQ2, l2, y2, z2⟩, st2⟩ := Jvm.LawKit.callS X1 hx (y := (⟨"java/lang/Math", "max", "(II)I"⟩ : MethodName)) hown (mvT hZ (hw _ (List.mem_of_getElem? (i := 2) rfl))) (mvT hZ (hw _ (List.mem_of_getElem? (i := 3) rfl))) (mvT hZ (hw _ (List.mem_of_getElem? (i := 4) rfl))) (mvT hZ (hw _ (List.mem_of_getElem? (i := 5) rfl))) (by decide) (backOf (W := 0) (rmM l Z a0 hw [] (1 : Int32) (p4 &&& (2147483647 : Int32)) h0 n0 Z0) hZ (hw _ (List.mem_of_getElem? (i := 5) rfl)) (hw _ (List.mem_of_getElem? (i := 4) rfl)) (by decide) (by decide)) (g := (mkF m 55 #[.val (.long p0), .second, .val (.int p1), .val (.long p2), .second, .val (.long p3), .second, .val (.int p4), .val (.int p5), .val (.long (p0 &&& (9223372036854775807 : Int64))), .second, .val (.int (mxI (1 : Int32) (p1 &&& (2147483647 : Int32)))), .val (.long (p0 &&& (9223372036854775807 : Int64))), .second, .unset, .unset, .unset, .unset, .unset, .unset, .unset, .unset, .unset] [(.int (p4 &&& (2147483647 : Int32))), (.int (1 : Int32))])) rfl (by rw [hml]; rfl) (argsL := [(.int (1 : Int32)), (.int (p4 &&& (2147483647 : Int32)))]) (rest := []) (lenOf pd0 rfl) rfl (by show 2 * 0 + _ ≤ _; exact Nat.le_of_eq rfl) (hb hby at_55) (fun _ _ => ⟨rfl, hh1, (by decide : 0 + 0 ≤ _), (by decide : 0 + 0 ≤ _)⟩)
      dsimp only [Pt.U, Pt.locs, Pt.cells, Pt.slots] at X2 l2 y2 z2 st2 hQ2
      subst l2 y2 z2
      obtain ⟨rfl, Nq2, hh2⟩ := hQ2
      have N2 := Fr.app N1 Nq2
      refine Goes.go (st2) ?_
      show Goes _ _ _ _ _ _ _ (T2.setTop (mkF m 58 _ [(.int (mxI (1 : Int32) (p4 &&& (2147483647 : Int32))))]))
      refine Goes.go (fun _ kk => XS.istore X2.here hx rfl (hb hby at_58) rfl (l' := #[.val (.long p0), .second, .val (.int p1), .val (.long p2), .second, .val (.long p3), .second, .val (.int p4), .val (.int p5), .val (.long (p0 &&& (9223372036854775807 : Int64))), .second, .val (.int (mxI (1 : Int32) (p1 &&& (2147483647 : Int32)))), .val (.long (p0 &&& (9223372036854775807 : Int64))), .second, .val (.int (mxI (1 : Int32) (p4 &&& (2147483647 : Int32)))), .unset, .unset, .unset, .unset, .unset, .unset, .unset, .unset]) rfl kk) ?_
      show Goes _ _ _ _ _ _ _ (T2.setTop (mkF m 60 #[.val (.long p0), .second, .val (.int p1), .val (.long p2), .second, .val (.long p3), .second, .val (.int p4), .val (.int p5), .val (.long (p0 &&& (9223372036854775807 : Int64))), .second, .val (.int (mxI (1 : Int32) (p1 &&& (2147483647 : Int32)))), .val (.long (p0 &&& (9223372036854775807 : Int64))), .second, .val (.int (mxI (1 : Int32) (p4 &&& (2147483647 : Int32)))), .unset, .unset, .unset, .unset, .unset, .unset, .unset, .unset] []))
      refine Goes.go (fun _ kk => XS.iload X2.here hx rfl (hb hby at_60) rfl kk) ?_
      show Goes _ _ _ _ _ _ _ (T2.setTop (mkF m 62 _ [(.int p5)]))
      refine Goes.go (fun _ kk => XS.iconst X2.here hx rfl (hb hby at_62) kk) ?_
      show Goes _ _ _ _ _ _ _ (T2.setTop (mkF m 63 _ [(.int (4 : Int32)), (.int p5)]))
      refine Goes.go (fun _ kk => XS.iand X2.here hx rfl (hb hby at_63) rfl kk) ?_
      show Goes _ _ _ _ _ _ _ (T2.setTop (mkF m 64 _ [(.int (p5 &&& (4 : Int32)))]))
      by_cases c64 : (p5 &&& (4 : Int32)) = 0
      · skip
        refine Goes.go (fun _ kk => XS.ifYes X2.here hx rfl (pc0 := 64) (pc' := 71) rfl (hb hby at_64) rfl (XT.i0_eq_t c64) (by decide) (by decide) kk) ?_
        show Goes _ _ _ _ _ _ _ (T2.setTop (mkF m 71 _ []))
        refine Goes.go (fun _ kk => XS.lload X2.here hx rfl (hb hby at_71) rfl kk) ?_
        show Goes _ _ _ _ _ _ _ (T2.setTop (mkF m 73 _ [(.long p3)]))
        refine Goes.go (fun _ kk => XS.lstore X2.here hx rfl (hb hby at_73) rfl (l' := #[.val (.long p0), .second, .val (.int p1), .val (.long p2), .second, .val (.long p3), .second, .val (.int p4), .val (.int p5), .val (.long (p0 &&& (9223372036854775807 : Int64))), .second, .val (.int (mxI (1 : Int32) (p1 &&& (2147483647 : Int32)))), .val (.long (p0 &&& (9223372036854775807 : Int64))), .second, .val (.int (mxI (1 : Int32) (p4 &&& (2147483647 : Int32)))), .val (.long p3), .second, .unset, .unset, .unset, .unset, .unset, .unset]) rfl kk) ?_
        show Goes _ _ _ _ _ _ _ (T2.setTop (mkF m 75 #[.val (.long p0), .second, .val (.int p1), .val (.long p2), .second, .val (.long p3), .second, .val (.int p4), .val (.int p5), .val (.long (p0 &&& (9223372036854775807 : Int64))), .second, .val (.int (mxI (1 : Int32) (p1 &&& (2147483647 : Int32)))), .val (.long (p0 &&& (9223372036854775807 : Int64))), .second, .val (.int (mxI (1 : Int32) (p4 &&& (2147483647 : Int32)))), .val (.long p3), .second, .unset, .unset, .unset, .unset, .unset, .unset] []))
        exact seg75 hw hx hby hml hown hnm hlk hret hZ p0 p1 p2 p3 p4 p5 (p0 &&& (9223372036854775807 : Int64)) (mxI (1 : Int32) (p1 &&& (2147483647 : Int32))) (p0 &&& (9223372036854775807 : Int64)) (mxI (1 : Int32) (p4 &&& (2147483647 : Int32))) p3 n0 (fun _ _ N => ⟨rfl, N⟩) Z0 X2 hh2 N2 (own_off _) (own_max1 _) (own_off _) (own_max1 _) hC
      · skip
        refine Goes.go (fun _ kk => XS.ifNo X2.here hx rfl (hb hby at_64) rfl (XT.i0_eq_f c64) kk) ?_
        show Goes _ _ _ _ _ _ _ (T2.setTop (mkF m 67 _ []))
        refine Goes.go (fun _ kk => XS.lloadN X2.here hx rfl (hb hby at_67) rfl kk) ?_
        show Goes _ _ _ _ _ _ _ (T2.setTop (mkF m 68 _ [(.long p2)]))
        refine Goes.go (fun _ kk => XS.goto X2.here hx rfl (pc0 := 68) (pc' := 73) rfl (hb hby at_68) (by decide) (by decide) kk) ?_
        show Goes _ _ _ _ _ _ _ (T2.setTop (mkF m 73 _ [(.long p2)]))
        refine Goes.go (fun _ kk => XS.lstore X2.here hx rfl (hb hby at_73) rfl (l' := #[.val (.long p0), .second, .val (.int p1), .val (.long p2), .second, .val (.long p3), .second, .val (.int p4), .val (.int p5), .val (.long (p0 &&& (9223372036854775807 : Int64))), .second, .val (.int (mxI (1 : Int32) (p1 &&& (2147483647 : Int32)))), .val (.long (p0 &&& (9223372036854775807 : Int64))), .second, .val (.int (mxI (1 : Int32) (p4 &&& (2147483647 : Int32)))), .val (.long p2), .second, .unset, .unset, .unset, .unset, .unset, .unset]) rfl kk) ?_
        show Goes _ _ _ _ _ _ _ (T2.setTop (mkF m 75 #[.val (.long p0), .second, .val (.int p1), .val (.long p2), .second, .val (.long p3), .second, .val (.int p4), .val (.int p5), .val (.long (p0 &&& (9223372036854775807 : Int64))), .second, .val (.int (mxI (1 : Int32) (p1 &&& (2147483647 : Int32)))), .val (.long (p0 &&& (9223372036854775807 : Int64))), .second, .val (.int (mxI (1 : Int32) (p4 &&& (2147483647 : Int32)))), .val (.long p2), .second, .unset, .unset, .unset, .unset, .unset, .unset] []))
        exact seg75 hw hx hby hml hown hnm hlk hret hZ p0 p1 p2 p3 p4 p5 (p0 &&& (9223372036854775807 : Int64)) (mxI (1 : Int32) (p1 &&& (2147483647 : Int32))) (p0 &&& (9223372036854775807 : Int64)) (mxI (1 : Int32) (p4 &&& (2147483647 : Int32))) p2 n0 (fun _ _ N => ⟨rfl, N⟩) Z0 X2 hh2 N2 (own_off _) (own_max1 _) (own_off _) (own_max1 _) hC
    · skip
      refine Goes.go (fun _ kk => XS.ifNo X1.here hx rfl (hb hby at_41) rfl (XT.i0_eq_f c41) kk) ?_
      show Goes _ _ _ _ _ _ _ (T1.setTop (mkF m 44 _ []))
      refine Goes.go (fun _ kk => XS.iload X1.here hx rfl (hb hby at_44) rfl kk) ?_
      show Goes _ _ _ _ _ _ _ (T1.setTop (mkF m 46 _ [(.int (mxI (1 : Int32) (p1 &&& (2147483647 : Int32))))]))
      refine Goes.go (fun _ kk => XS.goto X1.here hx rfl (pc0 := 46) (pc' := 58) rfl (hb hby at_46) (by decide) (by decide) kk) ?_
      show Goes _ _ _ _ _ _ _ (T1.setTop (mkF m 58 _ [(.int (mxI (1 : Int32) (p1 &&& (2147483647 : Int32))))]))
      refine Goes.go (fun _ kk => XS.istore X1.here hx rfl (hb hby at_58) rfl (l' := #[.val (.long p0), .second, .val (.int p1), .val (.long p2), .second, .val (.long p3), .second, .val (.int p4), .val (.int p5), .val (.long (p0 &&& (9223372036854775807 : Int64))), .second, .val (.int (mxI (1 : Int32) (p1 &&& (2147483647 : Int32)))), .val (.long (p0 &&& (9223372036854775807 : Int64))), .second, .val (.int (mxI (1 : Int32) (p1 &&& (2147483647 : Int32)))), .unset, .unset, .unset, .unset, .unset, .unset, .unset, .unset]) rfl kk) ?_
      show Goes _ _ _ _ _ _ _ (T1.setTop (mkF m 60 #[.val (.long p0), .second, .val (.int p1), .val (.long p2), .second, .val (.long p3), .second, .val (.int p4), .val (.int p5), .val (.long (p0 &&& (9223372036854775807 : Int64))), .second, .val (.int (mxI (1 : Int32) (p1 &&& (2147483647 : Int32)))), .val (.long (p0 &&& (9223372036854775807 : Int64))), .second, .val (.int (mxI (1 : Int32) (p1 &&& (2147483647 : Int32)))), .unset, .unset, .unset, .unset, .unset, .unset, .unset, .unset] []))
      refine Goes.go (fun _ kk => XS.iload X1.here hx rfl (hb hby at_60) rfl kk) ?_
      show Goes _ _ _ _ _ _ _ (T1.setTop (mkF m 62 _ [(.int p5)]))
      refine Goes.go (fun _ kk => XS.iconst X1.here hx rfl (hb hby at_62) kk) ?_
      show Goes _ _ _ _ _ _ _ (T1.setTop (mkF m 63 _ [(.int (4 : Int32)), (.int p5)]))
      refine Goes.go (fun _ kk => XS.iand X1.here hx rfl (hb hby at_63) rfl kk) ?_
      show Goes _ _ _ _ _ _ _ (T1.setTop (mkF m 64 _ [(.int (p5 &&& (4 : Int32)))]))
      by_cases c64 : (p5 &&& (4 : Int32)) = 0
      · skip
        refine Goes.go (fun _ kk => XS.ifYes X1.here hx rfl (pc0 := 64) (pc' := 71) rfl (hb hby at_64) rfl (XT.i0_eq_t c64) (by decide) (by decide) kk) ?_
        show Goes _ _ _ _ _ _ _ (T1.setTop (mkF m 71 _ []))
        refine Goes.go (fun _ kk => XS.lload X1.here hx rfl (hb hby at_71) rfl kk) ?_
        show Goes _ _ _ _ _ _ _ (T1.setTop (mkF m 73 _ [(.long p3)]))
        refine Goes.go (fun _ kk => XS.lstore X1.here hx rfl (hb hby at_73) rfl (l' := #[.val (.long p0), .second, .val (.int p1), .val (.long p2), .second, .val (.long p3), .second, .val (.int p4), .val (.int p5), .val (.long (p0 &&& (9223372036854775807 : Int64))), .second, .val (.int (mxI (1 : Int32) (p1 &&& (2147483647 : Int32)))), .val (.long (p0 &&& (9223372036854775807 : Int64))), .second, .val (.int (mxI (1 : Int32) (p1 &&& (2147483647 : Int32)))), .val (.long p3), .second, .unset, .unset, .unset, .unset, .unset, .unset]) rfl kk) ?_
        show Goes _ _ _ _ _ _ _ (T1.setTop (mkF m 75 #[.val (.long p0), .second, .val (.int p1), .val (.long p2), .second, .val (.long p3), .second, .val (.int p4), .val (.int p5), .val (.long (p0 &&& (9223372036854775807 : Int64))), .second, .val (.int (mxI (1 : Int32) (p1 &&& (2147483647 : Int32)))), .val (.long (p0 &&& (9223372036854775807 : Int64))), .second, .val (.int (mxI (1 : Int32) (p1 &&& (2147483647 : Int32)))), .val (.long p3), .second, .unset, .unset, .unset, .unset, .unset, .unset] []))
        exact seg75 hw hx hby hml hown hnm hlk hret hZ p0 p1 p2 p3 p4 p5 (p0 &&& (9223372036854775807 : Int64)) (mxI (1 : Int32) (p1 &&& (2147483647 : Int32))) (p0 &&& (9223372036854775807 : Int64)) (mxI (1 : Int32) (p1 &&& (2147483647 : Int32))) p3 n0 (fun _ _ N => ⟨rfl, N⟩) Z0 X1 hh1 N1 (own_off _) (own_max1 _) (own_off _) (own_max1 _) hC
      · skip
        refine Goes.go (fun _ kk => XS.ifNo X1.here hx rfl (hb hby at_64) rfl (XT.i0_eq_f c64) kk) ?_
        show Goes _ _ _ _ _ _ _ (T1.setTop (mkF m 67 _ []))
        refine Goes.go (fun _ kk => XS.lloadN X1.here hx rfl (hb hby at_67) rfl kk) ?_
        show Goes _ _ _ _ _ _ _ (T1.setTop (mkF m 68 _ [(.long p2)]))
        refine Goes.go (fun _ kk => XS.goto X1.here hx rfl (pc0 := 68) (pc' := 73) rfl (hb hby at_68) (by decide) (by decide) kk) ?_
        show Goes _ _ _ _ _ _ _ (T1.setTop (mkF m 73 _ [(.long p2)]))
        refine Goes.go (fun _ kk => XS.lstore X1.here hx rfl (hb hby at_73) rfl (l' := #[.val (.long p0), .second, .val (.int p1), .val (.long p2), .second, .val (.long p3), .second, .val (.int p4), .val (.int p5), .val (.long (p0 &&& (9223372036854775807 : Int64))), .second, .val (.int (mxI (1 : Int32) (p1 &&& (2147483647 : Int32)))), .val (.long (p0 &&& (9223372036854775807 : Int64))), .second, .val (.int (mxI (1 : Int32) (p1 &&& (2147483647 : Int32)))), .val (.long p2), .second, .unset, .unset, .unset, .unset, .unset, .unset]) rfl kk) ?_
        show Goes _ _ _ _ _ _ _ (T1.setTop (mkF m 75 #[.val (.long p0), .second, .val (.int p1), .val (.long p2), .second, .val (.long p3), .second, .val (.int p4), .val (.int p5), .val (.long (p0 &&& (9223372036854775807 : Int64))), .second, .val (.int (mxI (1 : Int32) (p1 &&& (2147483647 : Int32)))), .val (.long (p0 &&& (9223372036854775807 : Int64))), .second, .val (.int (mxI (1 : Int32) (p1 &&& (2147483647 : Int32)))), .val (.long p2), .second, .unset, .unset, .unset, .unset, .unset, .unset] []))
        exact seg75 hw hx hby hml hown hnm hlk hret hZ p0 p1 p2 p3 p4 p5 (p0 &&& (9223372036854775807 : Int64)) (mxI (1 : Int32) (p1 &&& (2147483647 : Int32))) (p0 &&& (9223372036854775807 : Int64)) (mxI (1 : Int32) (p1 &&& (2147483647 : Int32))) p2 n0 (fun _ _ N => ⟨rfl, N⟩) Z0 X1 hh1 N1 (own_off _) (own_max1 _) (own_off _) (own_max1 _) hC
theorem own_LC {s : State} {args : Array Value} (hs : ∀ d ∈ jdkStatics_1, d.before args s = true) : LC s s.heap := by
  have w1 := hs _ (List.mem_of_getElem? (i := 1) rfl)
  have w2 := hs _ (List.mem_of_getElem? (i := 2) rfl)
  have w4 := hs _ (List.mem_of_getElem? (i := 4) rfl)
  have w5 := hs _ (List.mem_of_getElem? (i := 5) rfl)
  obtain ⟨ca, ev⟩ := arr_v (Cond.before_iff.mp w2)
  have S := Sta.start ev (Or.inl w1)
  obtain ⟨cl, A⟩ := Arr.start ev (Cond.before_iff.mp w2)
  have hat := A.fin (Vm.Alike.refl _)
  obtain ⟨hsz, hsize⟩ := Jvm.Free.IntBox.length_fwd w4 ev A.1 A.2.1 A.2.2
  have h256 : cl.slots.size = 256 := by
    have e := len_toInt hsz
    rw [hsize] at e
    have : (256 : Int32).toInt = 256 := by decide
    omega
  refine ⟨ca, cl, S, A, h256, fun j hj => ?_⟩
  have hall := Cond.all_elim ev hat (Cond.before_iff.mp w5)
  have hv := hall j (by rw [h256]; exact hj)
  obtain ⟨hex, -⟩ := and_e hv
  obtain ⟨x, ex⟩ := exa_v hex
  have E := exa_at ex hex
  obtain ⟨hnn, hback⟩ := Jvm.Free.IntBox.place_nonneg j hj
  have ei : (Term.index 0).eval args s none [j] s = some (.int j.toInt32) := by
    have q := idx_at (args := args) (first := s) (s := s) (o := none) (j := j.toInt32) hnn
    rw [hback] at q; exact q
  have ev' : (Term.static "java/lang/Long$LongCache" "cache" "[Ljava/lang/Long;").eval args s none [j] s = some (.ref ca) := ev
  have q := elem_in ex ev' ei A.1
  rw [hback] at q
  exact ⟨x, q.2, E⟩
set_option maxRecDepth 65536 in
set_option maxHeartbeats 40000000 in
theorem comes_1 {Post : Tables → Env → Array Value → State → Outcome → State → Prop} (hpost : ∀ tb e args s v u, (limb_1_1.after args s (.returned v) u = true ∧ limb_1_2.after args s (.returned v) u = true ∧ True) → FrameEnd s (.returned v) u (Jvm.fieldLocs frame_1_writes args s ++ Jvm.arrayLocs frame_1_arrays args s ++ Jvm.staticLocs frame_1_statics s) 16 128 → Post tb e args s (.returned v) u) :
    ArmFor flags0 classFile x code maxLocals ret World_1 tables_1 room_1 Calls_1 rest_1 Pre_1 Post := by
  intro l hfl _ _ p e ha hc hk s m args below hf hA hF happ hP
  obtain ⟨hcalls, hrest, hpre⟩ := hP
  obtain ⟨-, -, -, hnamed, -, -, -, hat⟩ := (Spec.applies_iff hf).mp happ
  obtain ⟨hg, hn⟩ := and_e (Cond.before_iff.mp (show (Jvm.Cond.and given_1 narrow_1).before args s = true from hpre))
  obtain ⟨gc, gr0⟩ := and_e hg
  obtain ⟨g0, gr1⟩ := and_e gr0
  obtain ⟨g1, gr2⟩ := and_e gr1
  obtain ⟨g2, gr3⟩ := and_e gr2
  obtain ⟨g3, gr4⟩ := and_e gr3
  obtain ⟨g4, gr5⟩ := and_e gr4
  obtain ⟨w0, w1, w2, w3, w4, w5, rfl⟩ : ∃ w0 w1 w2 w3 w4 w5 : Value, args = #[w0, w1, w2, w3, w4, w5] := by
    have hs : args.size = 6 := by simpa [Cond.value, given_1] using gc
    obtain ⟨L⟩ := args
    match L, hs with
    | [w0, w1, w2, w3, w4, w5], _ => exact ⟨w0, w1, w2, w3, w4, w5, rfl⟩
  have hw := fun d (hd : d ∈ tables_1) => atoms_spec (ws := Jvm.Cond.code x code maxLocals ret :: tables_1) hat d (List.mem_cons_of_mem _ hd)
  obtain ⟨hsets, hown0⟩ := atoms_of _ (rest_1_c_eq ▸ (show rest_1_c.before _ s = true from hrest))
  obtain ⟨i0, ei0⟩ := isL_v g0
  obtain rfl : w0 = (.long i0) := Option.some.inj ei0
  obtain ⟨i1, ei1⟩ := is_v g1
  obtain rfl : w1 = (.int i1) := Option.some.inj ei1
  obtain ⟨i2, ei2⟩ := isL_v g2
  obtain rfl : w2 = (.long i2) := Option.some.inj ei2
  obtain ⟨i3, ei3⟩ := isL_v g3
  obtain rfl : w3 = (.long i3) := Option.some.inj ei3
  obtain ⟨i4, ei4⟩ := is_v g4
  obtain rfl : w4 = (.int i4) := Option.some.inj ei4
  obtain ⟨i5, ei5⟩ := is_v gr5
  obtain rfl : w5 = (.int i5) := Option.some.inj ei5
  obtain ⟨n, o, h1, h2, h3, _, L, rfl, ⟨rfl, N⟩, hq⟩ := rm0 l s _ hw tables_1 i0 i1 i2 i3 i4 i5 s.heap s.heap.size (Nat.le_refl _) (own_LC hsets) p e ha hc hk s m _ below hf ((Spec.applies_iff_loose hf).mp happ).1 ⟨rfl, State.Warmed39.refl s, rfl⟩ trivial
  refine ⟨n, _, h1, h2, h3, hpost _ _ _ _ _ _ ⟨Cond.after_iff.mpr rfl, Cond.after_iff.mpr (eq_i res_at (Term.int_eval (1)) rfl), trivial⟩ ⟨hq.1, hq.2.1, (hq.2.2.sift fun y hy => Or.inr (N y hy)).mono (by decide) (by decide)⟩⟩
theorem main_1_1 : Claimed_1_1 := comes_1 fun _ _ _ _ _ _ h hF => ⟨h.1, hF⟩
theorem main_1_2 : Claimed_1_2 := comes_1 fun _ _ _ _ _ _ h hF => ⟨h.2.1, hF⟩
end Jvm.Pilot.@@N@@
namespace Jvm.Pilot.@@N@@
open Jvm Jvm.ClassFile Sem Op Lib Jvm.Free Jvm.Stand Jvm.Pilot.@@N@@.Jvm.D
/-! MADE BY PROGRAM (witnessworld.py) out of the Statement's table words and the real class files: 17 classes; the members and pool entries that the words name. The judged class is class 1, her method 1. -/
namespace start1
open Jvm.ClassFile
def u (s : String) : CpInfo := .utf8 (stringToUtf16 s)
/-- a pool by its gaps: so many unusable entries, then the entry; so many at the end -/
def gap : Nat → List CpInfo → List CpInfo
  | 0, r => r
  | n + 1, r => .unusable :: gap n r
def poolList (es : List (Nat × CpInfo)) (last : Nat) : List CpInfo := es.foldr (fun e r => gap e.1 (e.2 :: r)) (gap last [])
def pool (es : List (Nat × CpInfo)) (last : Nat) : Array CpInfo := ⟨poolList es last⟩
def fileOf (pool : Array CpInfo) (this : Nat) (attrs : Array Attribute := #[]) (ms : Array MethodInfo := #[]) (fl : Nat := 33) (sup : Nat := 0) (ifs : Array Nat := #[]) (fds : Array FieldInfo := #[]) : ClassFile where
  minorVersion := 0
  majorVersion := 65
  constantPool := pool
  accessFlags := fl
  thisClass := this
  superClass := sup
  interfaces := ifs
  fields := fds
  methods := ms
  attributes := attrs
def plain (name : String) (sup : Option ClassId) : Class where
  name := name
  kind := .ordinary
  loader := none
  accessFlags := 33
  super := sup
  interfaces := #[]
  cf := none
  fields := #[]
  methods := #[]
  instanceTypes := #[]
  staticTypes := #[]
  resolved := #[]
  callSites := []
  init := .initialized
  statics := none
  mirror := none

def pool0 : Array CpInfo := pool [(5, u "<init>"), (0, u "()V"), (1, .class_ 10), (1, u "java/lang/Object")] 113

def k0c0 : Code := { maxStack := 0, maxLocals := 1, code := object_method_1_code, exceptionTable := #[], attributes := #[] }
def k0m0 : Method := { name := "<init>", desc := "()V", sig := { parameters := [], returnType := none }, accessFlags := 1, code := some k0c0 }
/-- java/lang/Object -/
def k0 : Class := { plain "java/lang/Object" none with
  accessFlags := 33
  interfaces := #[]
  cf := some (fileOf pool0 8 #[] #[{ accessFlags := 1, nameIndex := 5, descriptorIndex := 6, attributes := #[] }] 33 0 #[] #[])
  fields := #[]
  methods := #[k0m0]
  instanceTypes := #[]
  staticTypes := #[]
  resolved := Array.replicate 124 none
  statics := none }

def pool1 : Array CpInfo := pool [(2, .class_ 4), (1, u "java/lang/Object"), (0, u "<init>"), (0, u "()V"), (0, .class_ 8), (0, u "java/lang/Long"), (0, .long 9223372036854775807), (1, .integer 2147483647), (0, .methodref 13 14), (0, .class_ 15), (0, .nameAndType 16 17), (0, u "java/lang/Math"), (0, u "max"), (0, u "(II)I"), (0, .class_ 19), (0, u "com/example/xixi/xixi/store/ConsumeQueueEntry"), (0, .methodref 18 21), (0, .nameAndType 5 22), (0, u "(JIJ)V"), (0, .methodref 7 24), (0, .nameAndType 25 26), (0, u "valueOf"), (0, u "(J)Ljava/lang/Long;"), (0, .methodref 18 28), (0, .nameAndType 29 30), (0, u "equals"), (0, u "(Ljava/lang/Object;)Z"), (0, .class_ 32), (0, u "com/example/xixi/xixi/store/ConsumeQueueEntryEqualsPinLaw"), (2, u "law"), (0, u "(JIJJII)Z")] 3

def k1m0 : Method := { name := "<init>", desc := "()V", sig := { parameters := [], returnType := none }, accessFlags := 1, code := none }
def k1c1 : Code := { maxStack := 7, maxLocals := 23, code := code, exceptionTable := #[], attributes := #[] }
def k1m1 : Method := { name := "law", desc := "(JIJJII)Z", sig := { parameters := [.long, .int, .long, .long, .int, .int], returnType := some .boolean }, accessFlags := 9, code := some k1c1 }
/-- com/example/xixi/xixi/store/ConsumeQueueEntryEqualsPinLaw -/
def k1 : Class := { plain "com/example/xixi/xixi/store/ConsumeQueueEntryEqualsPinLaw" (some 0) with
  accessFlags := 49
  interfaces := #[]
  cf := some (fileOf pool1 31 #[] #[{ accessFlags := 1, nameIndex := 5, descriptorIndex := 6, attributes := #[] }, { accessFlags := 9, nameIndex := 35, descriptorIndex := 36, attributes := #[] }] 49 2 #[] #[])
  fields := #[]
  methods := #[k1m0, k1m1]
  instanceTypes := #[]
  staticTypes := #[]
  resolved := Array.replicate 40 none
  statics := none }

def pool2 : Array CpInfo := pool [(1, .class_ 2), (0, u "java/lang/Math"), (1, .class_ 6), (1, u "java/lang/Object"), (0, u "<init>"), (0, u "()V"), (89, .class_ 100), (1, u "java/lang/Math$RandomNumberGeneratorHolder"), (71, u "negativeZeroFloatBits"), (0, u "J"), (2, u "negativeZeroDoubleBits"), (21, u "max"), (46, u "$assertionsDisabled"), (0, u "Z"), (88, u "(II)I"), (2, u "twoToTheDoubleScaleDown"), (0, u "D"), (4, u "twoToTheDoubleScaleUp"), (9, u "E"), (3, u "PI"), (2, u "TAU"), (2, u "DEGREES_TO_RADIANS"), (0, u "RADIANS_TO_DEGREES")] 94

def k2m0 : Method := { name := "<init>", desc := "()V", sig := { parameters := [], returnType := none }, accessFlags := 2, code := none }
def k2c1 : Code := { maxStack := 2, maxLocals := 2, code := jdk_29_method_65_code, exceptionTable := #[], attributes := #[] }
def k2m1 : Method := { name := "max", desc := "(II)I", sig := { parameters := [.int, .int], returnType := some .int }, accessFlags := 9, code := some k2c1 }
/-- java/lang/Math -/
def k2 : Class := { plain "java/lang/Math" (some 0) with
  accessFlags := 49
  interfaces := #[]
  cf := some (fileOf pool2 1 #[.nestMembers #[98]] #[{ accessFlags := 2, nameIndex := 7, descriptorIndex := 8, attributes := #[] }, { accessFlags := 9, nameIndex := 198, descriptorIndex := 335, attributes := #[] }] 49 4 #[] #[{ accessFlags := 25, nameIndex := 354, descriptorIndex := 339, attributes := #[] }, { accessFlags := 25, nameIndex := 358, descriptorIndex := 339, attributes := #[] }, { accessFlags := 25, nameIndex := 361, descriptorIndex := 339, attributes := #[] }, { accessFlags := 26, nameIndex := 364, descriptorIndex := 339, attributes := #[] }, { accessFlags := 26, nameIndex := 365, descriptorIndex := 339, attributes := #[] }, { accessFlags := 26, nameIndex := 172, descriptorIndex := 173, attributes := #[] }, { accessFlags := 26, nameIndex := 176, descriptorIndex := 173, attributes := #[] }, { accessFlags := 8, nameIndex := 344, descriptorIndex := 339, attributes := #[] }, { accessFlags := 8, nameIndex := 338, descriptorIndex := 339, attributes := #[] }, { accessFlags := 4120, nameIndex := 245, descriptorIndex := 246, attributes := #[] }])
  fields := #[{ name := "E", type := .double, accessFlags := 25, slot := 0, constantValue := 0 }, { name := "PI", type := .double, accessFlags := 25, slot := 1, constantValue := 0 }, { name := "TAU", type := .double, accessFlags := 25, slot := 2, constantValue := 0 }, { name := "DEGREES_TO_RADIANS", type := .double, accessFlags := 26, slot := 3, constantValue := 0 }, { name := "RADIANS_TO_DEGREES", type := .double, accessFlags := 26, slot := 4, constantValue := 0 }, { name := "negativeZeroFloatBits", type := .long, accessFlags := 26, slot := 5, constantValue := 0 }, { name := "negativeZeroDoubleBits", type := .long, accessFlags := 26, slot := 6, constantValue := 0 }, { name := "twoToTheDoubleScaleUp", type := .double, accessFlags := 8, slot := 7, constantValue := 0 }, { name := "twoToTheDoubleScaleDown", type := .double, accessFlags := 8, slot := 8, constantValue := 0 }, { name := "$assertionsDisabled", type := .boolean, accessFlags := 4120, slot := 9, constantValue := 0 }]
  methods := #[k2m0, k2m1]
  instanceTypes := #[]
  staticTypes := #[.double, .double, .double, .double, .double, .long, .long, .double, .double, .boolean]
  resolved := Array.replicate 460 none
  statics := none }

def pool3 : Array CpInfo := pool [(1, .methodref 2 3), (0, .class_ 4), (0, .nameAndType 5 6), (0, u "java/lang/Object"), (0, u "<init>"), (0, u "()V"), (12, .fieldref 20 21), (0, .class_ 22), (0, .nameAndType 23 24), (0, u "com/example/xixi/xixi/store/ConsumeQueueEntry"), (0, u "commitLogOffset"), (0, u "J"), (0, .fieldref 20 26), (0, .nameAndType 27 28), (0, u "size"), (0, u "I"), (0, .fieldref 20 30), (0, .nameAndType 31 24), (0, u "tagHash"), (32, u "(JIJ)V"), (49, u "SIZE"), (2, u "SIZE_AT"), (1, u "TAG_HASH_AT"), (10, u "equals"), (0, u "(Ljava/lang/Object;)Z")] 25

def k3c0 : Code := { maxStack := 4, maxLocals := 6, code := prog_21_method_1_code, exceptionTable := #[], attributes := #[] }
def k3m0 : Method := { name := "<init>", desc := "(JIJ)V", sig := { parameters := [.long, .int, .long], returnType := none }, accessFlags := 1, code := some k3c0 }
def k3c1 : Code := { maxStack := 4, maxLocals := 3, code := prog_21_method_8_code, exceptionTable := #[], attributes := #[] }
def k3m1 : Method := { name := "equals", desc := "(Ljava/lang/Object;)Z", sig := { parameters := [(.object "java/lang/Object")], returnType := some .boolean }, accessFlags := 1, code := some k3c1 }
/-- com/example/xixi/xixi/store/ConsumeQueueEntry -/
def k3 : Class := { plain "com/example/xixi/xixi/store/ConsumeQueueEntry" (some 0) with
  accessFlags := 49
  interfaces := #[]
  cf := some (fileOf pool3 20 #[] #[{ accessFlags := 1, nameIndex := 5, descriptorIndex := 64, attributes := #[] }, { accessFlags := 1, nameIndex := 130, descriptorIndex := 131, attributes := #[] }] 49 2 #[] #[{ accessFlags := 25, nameIndex := 114, descriptorIndex := 28, attributes := #[] }, { accessFlags := 26, nameIndex := 117, descriptorIndex := 28, attributes := #[] }, { accessFlags := 26, nameIndex := 119, descriptorIndex := 28, attributes := #[] }, { accessFlags := 18, nameIndex := 23, descriptorIndex := 24, attributes := #[] }, { accessFlags := 18, nameIndex := 27, descriptorIndex := 28, attributes := #[] }, { accessFlags := 18, nameIndex := 31, descriptorIndex := 24, attributes := #[] }])
  fields := #[{ name := "SIZE", type := .int, accessFlags := 25, slot := 0, constantValue := 0 }, { name := "SIZE_AT", type := .int, accessFlags := 26, slot := 1, constantValue := 0 }, { name := "TAG_HASH_AT", type := .int, accessFlags := 26, slot := 2, constantValue := 0 }, { name := "commitLogOffset", type := .long, accessFlags := 18, slot := 0, constantValue := 0 }, { name := "size", type := .int, accessFlags := 18, slot := 1, constantValue := 0 }, { name := "tagHash", type := .long, accessFlags := 18, slot := 2, constantValue := 0 }]
  methods := #[k3m0, k3m1]
  instanceTypes := #[.long, .int, .long]
  staticTypes := #[.int, .int, .int]
  resolved := Array.replicate 157 none
  statics := none }

def pool4 : Array CpInfo := pool [(1, .class_ 2), (0, u "java/io/Serializable"), (0, .class_ 4), (0, u "java/lang/Object")] 2

/-- java/io/Serializable -/
def k4 : Class := { plain "java/io/Serializable" (some 0) with
  accessFlags := 1537
  interfaces := #[]
  cf := some (fileOf pool4 1 #[] #[] 1537 3 #[] #[])
  fields := #[]
  methods := #[]
  instanceTypes := #[]
  staticTypes := #[]
  resolved := Array.replicate 7 none
  statics := none }

def pool5 : Array CpInfo := pool [(1, .methodref 2 3), (0, .class_ 4), (0, .nameAndType 5 6), (0, u "java/lang/Object"), (0, u "<init>"), (0, u "()V"), (1, .class_ 10), (1, u "java/lang/Number"), (2, .class_ 14), (0, u "java/io/Serializable"), (0, u "serialVersionUID"), (0, u "J")] 20

def k5c0 : Code := { maxStack := 1, maxLocals := 1, code := jdk_18_method_1_code, exceptionTable := #[], attributes := #[] }
def k5m0 : Method := { name := "<init>", desc := "()V", sig := { parameters := [], returnType := none }, accessFlags := 1, code := some k5c0 }
/-- java/lang/Number -/
def k5 : Class := { plain "java/lang/Number" (some 0) with
  accessFlags := 1057
  interfaces := #[4]
  cf := some (fileOf pool5 8 #[] #[{ accessFlags := 1, nameIndex := 5, descriptorIndex := 6, attributes := #[] }] 1057 2 #[13] #[{ accessFlags := 26, nameIndex := 15, descriptorIndex := 16, attributes := #[] }])
  fields := #[{ name := "serialVersionUID", type := .long, accessFlags := 26, slot := 0, constantValue := 0 }]
  methods := #[k5m0]
  instanceTypes := #[]
  staticTypes := #[.long]
  resolved := Array.replicate 37 none
  statics := none }

def pool6 : Array CpInfo := pool [(1, .class_ 2), (0, u "java/lang/Comparable"), (0, .class_ 4), (0, u "java/lang/Object")] 7

/-- java/lang/Comparable -/
def k6 : Class := { plain "java/lang/Comparable" (some 0) with
  accessFlags := 1537
  interfaces := #[]
  cf := some (fileOf pool6 1 #[] #[] 1537 3 #[] #[])
  fields := #[]
  methods := #[]
  instanceTypes := #[]
  staticTypes := #[]
  resolved := Array.replicate 12 none
  statics := none }

def pool7 : Array CpInfo := pool [(1, .class_ 2), (0, u "java/lang/constant/Constable"), (0, .class_ 4), (0, u "java/lang/Object")] 6

/-- java/lang/constant/Constable -/
def k7 : Class := { plain "java/lang/constant/Constable" (some 0) with
  accessFlags := 1537
  interfaces := #[]
  cf := some (fileOf pool7 1 #[] #[] 1537 3 #[] #[])
  fields := #[]
  methods := #[]
  instanceTypes := #[]
  staticTypes := #[]
  resolved := Array.replicate 11 none
  statics := none }

def pool8 : Array CpInfo := pool [(1, .class_ 2), (0, u "java/lang/constant/ConstantDesc"), (0, .class_ 4), (0, u "java/lang/Object")] 32

/-- java/lang/constant/ConstantDesc -/
def k8 : Class := { plain "java/lang/constant/ConstantDesc" (some 0) with
  accessFlags := 1537
  interfaces := #[]
  cf := some (fileOf pool8 1 #[] #[] 1537 3 #[] #[])
  fields := #[]
  methods := #[]
  instanceTypes := #[]
  staticTypes := #[]
  resolved := Array.replicate 37 none
  statics := none }

def pool9 : Array CpInfo := pool [(1, .class_ 2), (0, u "java/lang/Long"), (55, .nameAndType 59 60), (0, u "<init>"), (0, u "()V"), (24, u "valueOf"), (143, u "(J)Ljava/lang/Long;"), (0, .long 18446744073709551488), (1, .long 127), (1, .fieldref 235 236), (0, .class_ 237), (0, .nameAndType 238 239), (0, u "java/lang/Long$LongCache"), (0, u "cache"), (0, u "[Ljava/lang/Long;"), (0, .methodref 1 241), (0, .nameAndType 59 242), (0, u "(J)V"), (27, .methodref 271 58), (0, .class_ 272), (0, u "java/lang/Number"), (0, .fieldref 1 274), (0, .nameAndType 275 276), (0, u "value"), (0, u "J"), (84, u "TYPE"), (0, u "Ljava/lang/Class;"), (0, .class_ 364), (0, u "java/lang/Comparable"), (0, .class_ 366), (0, u "java/lang/constant/Constable"), (0, .class_ 368), (0, u "java/lang/constant/ConstantDesc"), (0, u "MIN_VALUE"), (1, u "MAX_VALUE"), (4, u "SIZE"), (0, u "I"), (1, u "BYTES"), (1, u "serialVersionUID")] 142

def k9c0 : Code := { maxStack := 4, maxLocals := 3, code := jdk_35_method_24_code, exceptionTable := #[], attributes := #[] }
def k9m0 : Method := { name := "valueOf", desc := "(J)Ljava/lang/Long;", sig := { parameters := [.long], returnType := some (.object "java/lang/Long") }, accessFlags := 9, code := some k9c0 }
def k9c1 : Code := { maxStack := 3, maxLocals := 3, code := jdk_35_method_26_code, exceptionTable := #[], attributes := #[] }
def k9m1 : Method := { name := "<init>", desc := "(J)V", sig := { parameters := [.long], returnType := none }, accessFlags := 1, code := some k9c1 }
/-- java/lang/Long -/
def k9 : Class := { plain "java/lang/Long" (some 5) with
  accessFlags := 49
  interfaces := #[6, 7, 8]
  cf := some (fileOf pool9 1 #[.nestMembers #[235]] #[{ accessFlags := 9, nameIndex := 85, descriptorIndex := 229, attributes := #[] }, { accessFlags := 1, nameIndex := 59, descriptorIndex := 242, attributes := #[] }] 49 271 #[363, 365, 367] #[{ accessFlags := 25, nameIndex := 369, descriptorIndex := 276, attributes := #[] }, { accessFlags := 25, nameIndex := 371, descriptorIndex := 276, attributes := #[] }, { accessFlags := 25, nameIndex := 361, descriptorIndex := 362, attributes := #[] }, { accessFlags := 18, nameIndex := 275, descriptorIndex := 276, attributes := #[] }, { accessFlags := 25, nameIndex := 376, descriptorIndex := 377, attributes := #[] }, { accessFlags := 25, nameIndex := 379, descriptorIndex := 377, attributes := #[] }, { accessFlags := 26, nameIndex := 381, descriptorIndex := 276, attributes := #[] }])
  fields := #[{ name := "MIN_VALUE", type := .long, accessFlags := 25, slot := 0, constantValue := 0 }, { name := "MAX_VALUE", type := .long, accessFlags := 25, slot := 1, constantValue := 0 }, { name := "TYPE", type := (.object "java/lang/Class"), accessFlags := 25, slot := 2, constantValue := 0 }, { name := "value", type := .long, accessFlags := 18, slot := 0, constantValue := 0 }, { name := "SIZE", type := .int, accessFlags := 25, slot := 3, constantValue := 0 }, { name := "BYTES", type := .int, accessFlags := 25, slot := 4, constantValue := 0 }, { name := "serialVersionUID", type := .long, accessFlags := 26, slot := 5, constantValue := 0 }]
  methods := #[k9m0, k9m1]
  instanceTypes := #[.long]
  staticTypes := #[.long, .long, (.object "java/lang/Class"), .int, .int, .long]
  resolved := Array.replicate 524 none
  statics := none }

def pool10 : Array CpInfo := pool [(2, .class_ 4), (1, u "java/lang/Object"), (0, u "<init>"), (0, u "()V"), (0, .class_ 8), (0, u "java/lang/Long"), (7, .class_ 18), (1, u "java/lang/Long$LongCache"), (0, u "$assertionsDisabled"), (0, u "Z"), (8, u "archivedCache"), (0, u "[Ljava/lang/Long;"), (7, u "cache")] 24

def k10m0 : Method := { name := "<init>", desc := "()V", sig := { parameters := [], returnType := none }, accessFlags := 2, code := none }
/-- java/lang/Long$LongCache -/
def k10 : Class := { plain "java/lang/Long$LongCache" (some 0) with
  accessFlags := 48
  interfaces := #[]
  cf := some (fileOf pool10 16 #[.nestHost 7] #[{ accessFlags := 2, nameIndex := 5, descriptorIndex := 6, attributes := #[] }] 48 2 #[] #[{ accessFlags := 24, nameIndex := 38, descriptorIndex := 30, attributes := #[] }, { accessFlags := 8, nameIndex := 29, descriptorIndex := 30, attributes := #[] }, { accessFlags := 4120, nameIndex := 19, descriptorIndex := 20, attributes := #[] }])
  fields := #[{ name := "cache", type := (.array (.object "java/lang/Long")), accessFlags := 24, slot := 0, constantValue := 0 }, { name := "archivedCache", type := (.array (.object "java/lang/Long")), accessFlags := 8, slot := 1, constantValue := 0 }, { name := "$assertionsDisabled", type := .boolean, accessFlags := 4120, slot := 2, constantValue := 0 }]
  methods := #[k10m0]
  instanceTypes := #[]
  staticTypes := #[(.array (.object "java/lang/Long")), (.array (.object "java/lang/Long")), .boolean]
  resolved := Array.replicate 63 none
  statics := some 0 }

def pool11 : Array CpInfo := pool [(1, u "java/lang/Cloneable"), (0, .class_ 1), (0, u "java/lang/Object"), (0, .class_ 3)] 3

/-- java/lang/Cloneable -/
def k11 : Class := { plain "java/lang/Cloneable" (some 0) with
  accessFlags := 1537
  interfaces := #[]
  cf := some (fileOf pool11 2 #[] #[] 1537 4 #[] #[])
  fields := #[]
  methods := #[]
  instanceTypes := #[]
  staticTypes := #[]
  resolved := Array.replicate 8 none
  statics := none }

/-- the primitive byte -/
def k12 : Class := { plain "byte" none with kind := .primitive 'B', accessFlags := 0x411 }
/-- [B -/
def k13 : Class := { plain "[B" (some 0) with kind := .array 12 .byte, interfaces := #[11, 4], accessFlags := 1041 }

/-- the primitive int -/
def k14 : Class := { plain "int" none with kind := .primitive 'I', accessFlags := 0x411 }
/-- [I -/
def k15 : Class := { plain "[I" (some 0) with kind := .array 14 .int, interfaces := #[11, 4], accessFlags := 1041 }

/-- [Ljava/lang/Long; -/
def k16 : Class := { plain "[Ljava/lang/Long;" (some 0) with kind := .array 9 (.object "java/lang/Long"), interfaces := #[11, 4], accessFlags := 1041 }

def heap : Heap := #[{ cls := 10, slots := #[.ref 1, .null, .int 0], vm := .statics 10 },
  { cls := 16, slots := #[.ref 2, .ref 3, .ref 4, .ref 5, .ref 6, .ref 7, .ref 8, .ref 9, .ref 10, .ref 11, .ref 12, .ref 13, .ref 14, .ref 15, .ref 16, .ref 17, .ref 18, .ref 19, .ref 20, .ref 21, .ref 22, .ref 23, .ref 24, .ref 25, .ref 26, .ref 27, .ref 28, .ref 29, .ref 30, .ref 31, .ref 32, .ref 33, .ref 34, .ref 35, .ref 36, .ref 37, .ref 38, .ref 39, .ref 40, .ref 41, .ref 42, .ref 43, .ref 44, .ref 45, .ref 46, .ref 47, .ref 48, .ref 49, .ref 50, .ref 51, .ref 52, .ref 53, .ref 54, .ref 55, .ref 56, .ref 57, .ref 58, .ref 59, .ref 60, .ref 61, .ref 62, .ref 63, .ref 64, .ref 65, .ref 66, .ref 67, .ref 68, .ref 69, .ref 70, .ref 71, .ref 72, .ref 73, .ref 74, .ref 75, .ref 76, .ref 77, .ref 78, .ref 79, .ref 80, .ref 81, .ref 82, .ref 83, .ref 84, .ref 85, .ref 86, .ref 87, .ref 88, .ref 89, .ref 90, .ref 91, .ref 92, .ref 93, .ref 94, .ref 95, .ref 96, .ref 97, .ref 98, .ref 99, .ref 100, .ref 101, .ref 102, .ref 103, .ref 104, .ref 105, .ref 106, .ref 107, .ref 108, .ref 109, .ref 110, .ref 111, .ref 112, .ref 113, .ref 114, .ref 115, .ref 116, .ref 117, .ref 118, .ref 119, .ref 120, .ref 121, .ref 122, .ref 123, .ref 124, .ref 125, .ref 126, .ref 127, .ref 128, .ref 129, .ref 130, .ref 131, .ref 132, .ref 133, .ref 134, .ref 135, .ref 136, .ref 137, .ref 138, .ref 139, .ref 140, .ref 141, .ref 142, .ref 143, .ref 144, .ref 145, .ref 146, .ref 147, .ref 148, .ref 149, .ref 150, .ref 151, .ref 152, .ref 153, .ref 154, .ref 155, .ref 156, .ref 157, .ref 158, .ref 159, .ref 160, .ref 161, .ref 162, .ref 163, .ref 164, .ref 165, .ref 166, .ref 167, .ref 168, .ref 169, .ref 170, .ref 171, .ref 172, .ref 173, .ref 174, .ref 175, .ref 176, .ref 177, .ref 178, .ref 179, .ref 180, .ref 181, .ref 182, .ref 183, .ref 184, .ref 185, .ref 186, .ref 187, .ref 188, .ref 189, .ref 190, .ref 191, .ref 192, .ref 193, .ref 194, .ref 195, .ref 196, .ref 197, .ref 198, .ref 199, .ref 200, .ref 201, .ref 202, .ref 203, .ref 204, .ref 205, .ref 206, .ref 207, .ref 208, .ref 209, .ref 210, .ref 211, .ref 212, .ref 213, .ref 214, .ref 215, .ref 216, .ref 217, .ref 218, .ref 219, .ref 220, .ref 221, .ref 222, .ref 223, .ref 224, .ref 225, .ref 226, .ref 227, .ref 228, .ref 229, .ref 230, .ref 231, .ref 232, .ref 233, .ref 234, .ref 235, .ref 236, .ref 237, .ref 238, .ref 239, .ref 240, .ref 241, .ref 242, .ref 243, .ref 244, .ref 245, .ref 246, .ref 247, .ref 248, .ref 249, .ref 250, .ref 251, .ref 252, .ref 253, .ref 254, .ref 255, .ref 256, .ref 257], vm := .none },
  { cls := 9, slots := #[.long (-128)], vm := .none },
  { cls := 9, slots := #[.long (-127)], vm := .none },
  { cls := 9, slots := #[.long (-126)], vm := .none },
  { cls := 9, slots := #[.long (-125)], vm := .none },
  { cls := 9, slots := #[.long (-124)], vm := .none },
  { cls := 9, slots := #[.long (-123)], vm := .none },
  { cls := 9, slots := #[.long (-122)], vm := .none },
  { cls := 9, slots := #[.long (-121)], vm := .none },
  { cls := 9, slots := #[.long (-120)], vm := .none },
  { cls := 9, slots := #[.long (-119)], vm := .none },
  { cls := 9, slots := #[.long (-118)], vm := .none },
  { cls := 9, slots := #[.long (-117)], vm := .none },
  { cls := 9, slots := #[.long (-116)], vm := .none },
  { cls := 9, slots := #[.long (-115)], vm := .none },
  { cls := 9, slots := #[.long (-114)], vm := .none },
  { cls := 9, slots := #[.long (-113)], vm := .none },
  { cls := 9, slots := #[.long (-112)], vm := .none },
  { cls := 9, slots := #[.long (-111)], vm := .none },
  { cls := 9, slots := #[.long (-110)], vm := .none },
  { cls := 9, slots := #[.long (-109)], vm := .none },
  { cls := 9, slots := #[.long (-108)], vm := .none },
  { cls := 9, slots := #[.long (-107)], vm := .none },
  { cls := 9, slots := #[.long (-106)], vm := .none },
  { cls := 9, slots := #[.long (-105)], vm := .none },
  { cls := 9, slots := #[.long (-104)], vm := .none },
  { cls := 9, slots := #[.long (-103)], vm := .none },
  { cls := 9, slots := #[.long (-102)], vm := .none },
  { cls := 9, slots := #[.long (-101)], vm := .none },
  { cls := 9, slots := #[.long (-100)], vm := .none },
  { cls := 9, slots := #[.long (-99)], vm := .none },
  { cls := 9, slots := #[.long (-98)], vm := .none },
  { cls := 9, slots := #[.long (-97)], vm := .none },
  { cls := 9, slots := #[.long (-96)], vm := .none },
  { cls := 9, slots := #[.long (-95)], vm := .none },
  { cls := 9, slots := #[.long (-94)], vm := .none },
  { cls := 9, slots := #[.long (-93)], vm := .none },
  { cls := 9, slots := #[.long (-92)], vm := .none },
  { cls := 9, slots := #[.long (-91)], vm := .none },
  { cls := 9, slots := #[.long (-90)], vm := .none },
  { cls := 9, slots := #[.long (-89)], vm := .none },
  { cls := 9, slots := #[.long (-88)], vm := .none },
  { cls := 9, slots := #[.long (-87)], vm := .none },
  { cls := 9, slots := #[.long (-86)], vm := .none },
  { cls := 9, slots := #[.long (-85)], vm := .none },
  { cls := 9, slots := #[.long (-84)], vm := .none },
  { cls := 9, slots := #[.long (-83)], vm := .none },
  { cls := 9, slots := #[.long (-82)], vm := .none },
  { cls := 9, slots := #[.long (-81)], vm := .none },
  { cls := 9, slots := #[.long (-80)], vm := .none },
  { cls := 9, slots := #[.long (-79)], vm := .none },
  { cls := 9, slots := #[.long (-78)], vm := .none },
  { cls := 9, slots := #[.long (-77)], vm := .none },
  { cls := 9, slots := #[.long (-76)], vm := .none },
  { cls := 9, slots := #[.long (-75)], vm := .none },
  { cls := 9, slots := #[.long (-74)], vm := .none },
  { cls := 9, slots := #[.long (-73)], vm := .none },
  { cls := 9, slots := #[.long (-72)], vm := .none },
  { cls := 9, slots := #[.long (-71)], vm := .none },
  { cls := 9, slots := #[.long (-70)], vm := .none },
  { cls := 9, slots := #[.long (-69)], vm := .none },
  { cls := 9, slots := #[.long (-68)], vm := .none },
  { cls := 9, slots := #[.long (-67)], vm := .none },
  { cls := 9, slots := #[.long (-66)], vm := .none },
  { cls := 9, slots := #[.long (-65)], vm := .none },
  { cls := 9, slots := #[.long (-64)], vm := .none },
  { cls := 9, slots := #[.long (-63)], vm := .none },
  { cls := 9, slots := #[.long (-62)], vm := .none },
  { cls := 9, slots := #[.long (-61)], vm := .none },
  { cls := 9, slots := #[.long (-60)], vm := .none },
  { cls := 9, slots := #[.long (-59)], vm := .none },
  { cls := 9, slots := #[.long (-58)], vm := .none },
  { cls := 9, slots := #[.long (-57)], vm := .none },
  { cls := 9, slots := #[.long (-56)], vm := .none },
  { cls := 9, slots := #[.long (-55)], vm := .none },
  { cls := 9, slots := #[.long (-54)], vm := .none },
  { cls := 9, slots := #[.long (-53)], vm := .none },
  { cls := 9, slots := #[.long (-52)], vm := .none },
  { cls := 9, slots := #[.long (-51)], vm := .none },
  { cls := 9, slots := #[.long (-50)], vm := .none },
  { cls := 9, slots := #[.long (-49)], vm := .none },
  { cls := 9, slots := #[.long (-48)], vm := .none },
  { cls := 9, slots := #[.long (-47)], vm := .none },
  { cls := 9, slots := #[.long (-46)], vm := .none },
  { cls := 9, slots := #[.long (-45)], vm := .none },
  { cls := 9, slots := #[.long (-44)], vm := .none },
  { cls := 9, slots := #[.long (-43)], vm := .none },
  { cls := 9, slots := #[.long (-42)], vm := .none },
  { cls := 9, slots := #[.long (-41)], vm := .none },
  { cls := 9, slots := #[.long (-40)], vm := .none },
  { cls := 9, slots := #[.long (-39)], vm := .none },
  { cls := 9, slots := #[.long (-38)], vm := .none },
  { cls := 9, slots := #[.long (-37)], vm := .none },
  { cls := 9, slots := #[.long (-36)], vm := .none },
  { cls := 9, slots := #[.long (-35)], vm := .none },
  { cls := 9, slots := #[.long (-34)], vm := .none },
  { cls := 9, slots := #[.long (-33)], vm := .none },
  { cls := 9, slots := #[.long (-32)], vm := .none },
  { cls := 9, slots := #[.long (-31)], vm := .none },
  { cls := 9, slots := #[.long (-30)], vm := .none },
  { cls := 9, slots := #[.long (-29)], vm := .none },
  { cls := 9, slots := #[.long (-28)], vm := .none },
  { cls := 9, slots := #[.long (-27)], vm := .none },
  { cls := 9, slots := #[.long (-26)], vm := .none },
  { cls := 9, slots := #[.long (-25)], vm := .none },
  { cls := 9, slots := #[.long (-24)], vm := .none },
  { cls := 9, slots := #[.long (-23)], vm := .none },
  { cls := 9, slots := #[.long (-22)], vm := .none },
  { cls := 9, slots := #[.long (-21)], vm := .none },
  { cls := 9, slots := #[.long (-20)], vm := .none },
  { cls := 9, slots := #[.long (-19)], vm := .none },
  { cls := 9, slots := #[.long (-18)], vm := .none },
  { cls := 9, slots := #[.long (-17)], vm := .none },
  { cls := 9, slots := #[.long (-16)], vm := .none },
  { cls := 9, slots := #[.long (-15)], vm := .none },
  { cls := 9, slots := #[.long (-14)], vm := .none },
  { cls := 9, slots := #[.long (-13)], vm := .none },
  { cls := 9, slots := #[.long (-12)], vm := .none },
  { cls := 9, slots := #[.long (-11)], vm := .none },
  { cls := 9, slots := #[.long (-10)], vm := .none },
  { cls := 9, slots := #[.long (-9)], vm := .none },
  { cls := 9, slots := #[.long (-8)], vm := .none },
  { cls := 9, slots := #[.long (-7)], vm := .none },
  { cls := 9, slots := #[.long (-6)], vm := .none },
  { cls := 9, slots := #[.long (-5)], vm := .none },
  { cls := 9, slots := #[.long (-4)], vm := .none },
  { cls := 9, slots := #[.long (-3)], vm := .none },
  { cls := 9, slots := #[.long (-2)], vm := .none },
  { cls := 9, slots := #[.long (-1)], vm := .none },
  { cls := 9, slots := #[.long (0)], vm := .none },
  { cls := 9, slots := #[.long (1)], vm := .none },
  { cls := 9, slots := #[.long (2)], vm := .none },
  { cls := 9, slots := #[.long (3)], vm := .none },
  { cls := 9, slots := #[.long (4)], vm := .none },
  { cls := 9, slots := #[.long (5)], vm := .none },
  { cls := 9, slots := #[.long (6)], vm := .none },
  { cls := 9, slots := #[.long (7)], vm := .none },
  { cls := 9, slots := #[.long (8)], vm := .none },
  { cls := 9, slots := #[.long (9)], vm := .none },
  { cls := 9, slots := #[.long (10)], vm := .none },
  { cls := 9, slots := #[.long (11)], vm := .none },
  { cls := 9, slots := #[.long (12)], vm := .none },
  { cls := 9, slots := #[.long (13)], vm := .none },
  { cls := 9, slots := #[.long (14)], vm := .none },
  { cls := 9, slots := #[.long (15)], vm := .none },
  { cls := 9, slots := #[.long (16)], vm := .none },
  { cls := 9, slots := #[.long (17)], vm := .none },
  { cls := 9, slots := #[.long (18)], vm := .none },
  { cls := 9, slots := #[.long (19)], vm := .none },
  { cls := 9, slots := #[.long (20)], vm := .none },
  { cls := 9, slots := #[.long (21)], vm := .none },
  { cls := 9, slots := #[.long (22)], vm := .none },
  { cls := 9, slots := #[.long (23)], vm := .none },
  { cls := 9, slots := #[.long (24)], vm := .none },
  { cls := 9, slots := #[.long (25)], vm := .none },
  { cls := 9, slots := #[.long (26)], vm := .none },
  { cls := 9, slots := #[.long (27)], vm := .none },
  { cls := 9, slots := #[.long (28)], vm := .none },
  { cls := 9, slots := #[.long (29)], vm := .none },
  { cls := 9, slots := #[.long (30)], vm := .none },
  { cls := 9, slots := #[.long (31)], vm := .none },
  { cls := 9, slots := #[.long (32)], vm := .none },
  { cls := 9, slots := #[.long (33)], vm := .none },
  { cls := 9, slots := #[.long (34)], vm := .none },
  { cls := 9, slots := #[.long (35)], vm := .none },
  { cls := 9, slots := #[.long (36)], vm := .none },
  { cls := 9, slots := #[.long (37)], vm := .none },
  { cls := 9, slots := #[.long (38)], vm := .none },
  { cls := 9, slots := #[.long (39)], vm := .none },
  { cls := 9, slots := #[.long (40)], vm := .none },
  { cls := 9, slots := #[.long (41)], vm := .none },
  { cls := 9, slots := #[.long (42)], vm := .none },
  { cls := 9, slots := #[.long (43)], vm := .none },
  { cls := 9, slots := #[.long (44)], vm := .none },
  { cls := 9, slots := #[.long (45)], vm := .none },
  { cls := 9, slots := #[.long (46)], vm := .none },
  { cls := 9, slots := #[.long (47)], vm := .none },
  { cls := 9, slots := #[.long (48)], vm := .none },
  { cls := 9, slots := #[.long (49)], vm := .none },
  { cls := 9, slots := #[.long (50)], vm := .none },
  { cls := 9, slots := #[.long (51)], vm := .none },
  { cls := 9, slots := #[.long (52)], vm := .none },
  { cls := 9, slots := #[.long (53)], vm := .none },
  { cls := 9, slots := #[.long (54)], vm := .none },
  { cls := 9, slots := #[.long (55)], vm := .none },
  { cls := 9, slots := #[.long (56)], vm := .none },
  { cls := 9, slots := #[.long (57)], vm := .none },
  { cls := 9, slots := #[.long (58)], vm := .none },
  { cls := 9, slots := #[.long (59)], vm := .none },
  { cls := 9, slots := #[.long (60)], vm := .none },
  { cls := 9, slots := #[.long (61)], vm := .none },
  { cls := 9, slots := #[.long (62)], vm := .none },
  { cls := 9, slots := #[.long (63)], vm := .none },
  { cls := 9, slots := #[.long (64)], vm := .none },
  { cls := 9, slots := #[.long (65)], vm := .none },
  { cls := 9, slots := #[.long (66)], vm := .none },
  { cls := 9, slots := #[.long (67)], vm := .none },
  { cls := 9, slots := #[.long (68)], vm := .none },
  { cls := 9, slots := #[.long (69)], vm := .none },
  { cls := 9, slots := #[.long (70)], vm := .none },
  { cls := 9, slots := #[.long (71)], vm := .none },
  { cls := 9, slots := #[.long (72)], vm := .none },
  { cls := 9, slots := #[.long (73)], vm := .none },
  { cls := 9, slots := #[.long (74)], vm := .none },
  { cls := 9, slots := #[.long (75)], vm := .none },
  { cls := 9, slots := #[.long (76)], vm := .none },
  { cls := 9, slots := #[.long (77)], vm := .none },
  { cls := 9, slots := #[.long (78)], vm := .none },
  { cls := 9, slots := #[.long (79)], vm := .none },
  { cls := 9, slots := #[.long (80)], vm := .none },
  { cls := 9, slots := #[.long (81)], vm := .none },
  { cls := 9, slots := #[.long (82)], vm := .none },
  { cls := 9, slots := #[.long (83)], vm := .none },
  { cls := 9, slots := #[.long (84)], vm := .none },
  { cls := 9, slots := #[.long (85)], vm := .none },
  { cls := 9, slots := #[.long (86)], vm := .none },
  { cls := 9, slots := #[.long (87)], vm := .none },
  { cls := 9, slots := #[.long (88)], vm := .none },
  { cls := 9, slots := #[.long (89)], vm := .none },
  { cls := 9, slots := #[.long (90)], vm := .none },
  { cls := 9, slots := #[.long (91)], vm := .none },
  { cls := 9, slots := #[.long (92)], vm := .none },
  { cls := 9, slots := #[.long (93)], vm := .none },
  { cls := 9, slots := #[.long (94)], vm := .none },
  { cls := 9, slots := #[.long (95)], vm := .none },
  { cls := 9, slots := #[.long (96)], vm := .none },
  { cls := 9, slots := #[.long (97)], vm := .none },
  { cls := 9, slots := #[.long (98)], vm := .none },
  { cls := 9, slots := #[.long (99)], vm := .none },
  { cls := 9, slots := #[.long (100)], vm := .none },
  { cls := 9, slots := #[.long (101)], vm := .none },
  { cls := 9, slots := #[.long (102)], vm := .none },
  { cls := 9, slots := #[.long (103)], vm := .none },
  { cls := 9, slots := #[.long (104)], vm := .none },
  { cls := 9, slots := #[.long (105)], vm := .none },
  { cls := 9, slots := #[.long (106)], vm := .none },
  { cls := 9, slots := #[.long (107)], vm := .none },
  { cls := 9, slots := #[.long (108)], vm := .none },
  { cls := 9, slots := #[.long (109)], vm := .none },
  { cls := 9, slots := #[.long (110)], vm := .none },
  { cls := 9, slots := #[.long (111)], vm := .none },
  { cls := 9, slots := #[.long (112)], vm := .none },
  { cls := 9, slots := #[.long (113)], vm := .none },
  { cls := 9, slots := #[.long (114)], vm := .none },
  { cls := 9, slots := #[.long (115)], vm := .none },
  { cls := 9, slots := #[.long (116)], vm := .none },
  { cls := 9, slots := #[.long (117)], vm := .none },
  { cls := 9, slots := #[.long (118)], vm := .none },
  { cls := 9, slots := #[.long (119)], vm := .none },
  { cls := 9, slots := #[.long (120)], vm := .none },
  { cls := 9, slots := #[.long (121)], vm := .none },
  { cls := 9, slots := #[.long (122)], vm := .none },
  { cls := 9, slots := #[.long (123)], vm := .none },
  { cls := 9, slots := #[.long (124)], vm := .none },
  { cls := 9, slots := #[.long (125)], vm := .none },
  { cls := 9, slots := #[.long (126)], vm := .none },
  { cls := 9, slots := #[.long (127)], vm := .none }]
def classes : Array Class := #[k0, k1, k2, k3, k4, k5, k6, k7, k8, k9, k10, k11, k12, k13, k14, k15, k16]
def interned : List (Array UInt16 × Addr) := []
def slotsUsed : Nat := 515
def theMethod : MethodId := ⟨1, 1⟩
def args0 : Array Value := #[.long 100, .int 7, .long 9, .long 77, .int 5, .int 3]
def aboutOver (below : List Frame) : State where
  vm := { classes := classes, interned := interned.toArray }
  heap := heap
  slotsUsed := slotsUsed
  threads := #[{ frames := .invoking theMethod args0 :: below }]
def below0 : List Frame := [.native { method := ⟨0, 0⟩, args := #[] }]
def about1 : State := aboutOver below0
def p0 : Program := .bare "" "" ""
def e0 : Env := launch0.env 0 0 0
theorem w_frames : about1.frames = Frame.invoking theMethod args0 :: below0 := rfl
set_option maxRecDepth 65536 in
theorem w_args : argsFit about1.vm theMethod args0 = true := by decide +kernel
set_option maxRecDepth 65536 in
theorem w_heap : heapFits about1 = true := by decide +kernel
set_option maxRecDepth 65536 in
theorem w_runnable : about1.curStatus? = some .runnable := by decide +kernel
set_option maxRecDepth 65536 in
theorem w_alone : about1.alone = true := by decide +kernel
set_option maxRecDepth 65536 in
theorem w_named : about1.methodNamed? x = some theMethod := by decide +kernel
set_option maxRecDepth 65536 in
theorem w_hears : about1.hears theMethod below0 = true := by decide +kernel
set_option maxRecDepth 65536 in
theorem w_ripe : about1.ripe theMethod args0 below0 = true := by decide +kernel
theorem w_running : about1.status = .running := rfl
set_option maxRecDepth 65536 in
theorem w_room : about1.hasRoom e0.platform room_1 = true :=
  launch0.hasRoom_least _ room_1 (by decide +kernel) (by decide +kernel) (by decide +kernel) (by decide +kernel) (by decide +kernel) (by decide +kernel)
theorem allAtoms_all (ts : List Jvm.Cond) (a : Array Jvm.Value) (st : Jvm.State) : (allAtoms ts).before a st = ts.all (fun c => c.before a st) := by
  induction ts with
  | nil => rfl
  | cons c t ih =>
    show (Jvm.Cond.and c (allAtoms t)).before a st = _
    rw [Jvm.Cond.before_and, ih, List.all_cons]
def words1 : List Jvm.Cond := Jvm.Cond.code x code maxLocals ret :: tables_1
/-- a 'code' word, met by the world's own term for the bytes: nothing is compared byte by byte -/
theorem code_word {y : MethodName} {bytes : ByteArray} {mx : Nat} {rt : Option FieldType} {a : Array Value} {s : State} {m : MethodId} {meth : Method} {c : Code} (h1 : s.methodNamed? y = some m) (h2 : s.vm.method? m = some meth) (h3 : meth.code = some c) (h4 : c.code = bytes)
    (h5 : (c.maxLocals == mx && c.exceptionTable.isEmpty && decide (c.maxStack ≤ mostOperands) && decide (meth.sig.returnType = rt) && !meth.locks && decide (parseMethodDescriptor y.desc = some meth.sig)) = true) : (Jvm.Cond.code y bytes mx rt).before a s = true := by
  simp only [Bool.and_eq_true, beq_iff_eq, Bool.not_eq_true', decide_eq_true_eq] at h5
  obtain ⟨⟨⟨⟨⟨g1, g2⟩, g3⟩, g4⟩, g5⟩, g6⟩ := h5
  simp [Cond.before, Cond.holds, Cond.value, h1, h2, h3, h4, g1, g2, g3, g4, g5, g6]
def isCode : Jvm.Cond → Bool
  | .code _ _ _ _ => true
  | _ => false
theorem all_split {L : List Jvm.Cond} {P : Jvm.Cond → Bool} (h1 : L.all (fun c => isCode c || P c) = true) (h2 : ∀ c ∈ L.filter isCode, P c = true) : L.all P = true := by
  refine List.all_eq_true.mpr fun c hc => ?_
  have h := List.all_eq_true.mp h1 c hc
  rcases Bool.eq_false_or_eq_true (isCode c) with hi | hi
  · exact h2 c (List.mem_filter.mpr ⟨hc, hi⟩)
  · simpa [hi] using h
set_option maxRecDepth 65536 in
theorem w_c0 : (Jvm.Cond.code x code maxLocals ret).before args0 about1 = true := code_word (m := ⟨1, 1⟩) (meth := k1m1) (c := k1c1) (by decide +kernel) rfl rfl rfl (by decide +kernel)
set_option maxRecDepth 65536 in
theorem w_c1 : (Jvm.Cond.code ({ cls := "java/lang/Math", name := "max", desc := "(II)I" } : Jvm.MethodName) jdk_29_method_65_code (2 : Nat) (Option.some Jvm.ClassFile.FieldType.int)).before args0 about1 = true := code_word (m := ⟨2, 1⟩) (meth := k2m1) (c := k2c1) (by decide +kernel) rfl rfl rfl (by decide +kernel)
set_option maxRecDepth 65536 in
theorem w_c2 : (Jvm.Cond.code ({ cls := "com/example/xixi/xixi/store/ConsumeQueueEntry", name := "<init>", desc := "(JIJ)V" } : Jvm.MethodName) prog_21_method_1_code (6 : Nat) (Option.none : Option Jvm.ClassFile.FieldType)).before args0 about1 = true := code_word (m := ⟨3, 0⟩) (meth := k3m0) (c := k3c0) (by decide +kernel) rfl rfl rfl (by decide +kernel)
set_option maxRecDepth 65536 in
theorem w_c3 : (Jvm.Cond.code ({ cls := "java/lang/Object", name := "<init>", desc := "()V" } : Jvm.MethodName) object_method_1_code (1 : Nat) (Option.none : Option Jvm.ClassFile.FieldType)).before args0 about1 = true := code_word (m := ⟨0, 0⟩) (meth := k0m0) (c := k0c0) (by decide +kernel) rfl rfl rfl (by decide +kernel)
set_option maxRecDepth 65536 in
theorem w_c4 : (Jvm.Cond.code ({ cls := "com/example/xixi/xixi/store/ConsumeQueueEntry", name := "equals", desc := "(Ljava/lang/Object;)Z" } : Jvm.MethodName) prog_21_method_8_code (3 : Nat) (Option.some Jvm.ClassFile.FieldType.boolean)).before args0 about1 = true := code_word (m := ⟨3, 1⟩) (meth := k3m1) (c := k3c1) (by decide +kernel) rfl rfl rfl (by decide +kernel)
set_option maxRecDepth 65536 in
theorem w_c5 : (Jvm.Cond.code ({ cls := "java/lang/Long", name := "valueOf", desc := "(J)Ljava/lang/Long;" } : Jvm.MethodName) jdk_35_method_24_code (3 : Nat) (Option.some (Jvm.ClassFile.FieldType.object "java/lang/Long"))).before args0 about1 = true := code_word (m := ⟨9, 0⟩) (meth := k9m0) (c := k9c0) (by decide +kernel) rfl rfl rfl (by decide +kernel)
set_option maxRecDepth 65536 in
theorem w_c6 : (Jvm.Cond.code ({ cls := "java/lang/Long", name := "<init>", desc := "(J)V" } : Jvm.MethodName) jdk_35_method_26_code (3 : Nat) (Option.none : Option Jvm.ClassFile.FieldType)).before args0 about1 = true := code_word (m := ⟨9, 1⟩) (meth := k9m1) (c := k9c1) (by decide +kernel) rfl rfl rfl (by decide +kernel)
set_option maxRecDepth 65536 in
theorem w_c7 : (Jvm.Cond.code ({ cls := "java/lang/Number", name := "<init>", desc := "()V" } : Jvm.MethodName) jdk_18_method_1_code (1 : Nat) (Option.none : Option Jvm.ClassFile.FieldType)).before args0 about1 = true := code_word (m := ⟨5, 0⟩) (meth := k5m0) (c := k5c0) (by decide +kernel) rfl rfl rfl (by decide +kernel)
def codes1 : List Jvm.Cond := [Jvm.Cond.code x code maxLocals ret, Jvm.Cond.code ({ cls := "java/lang/Math", name := "max", desc := "(II)I" } : Jvm.MethodName) jdk_29_method_65_code (2 : Nat) (Option.some Jvm.ClassFile.FieldType.int), Jvm.Cond.code ({ cls := "com/example/xixi/xixi/store/ConsumeQueueEntry", name := "<init>", desc := "(JIJ)V" } : Jvm.MethodName) prog_21_method_1_code (6 : Nat) (Option.none : Option Jvm.ClassFile.FieldType), Jvm.Cond.code ({ cls := "java/lang/Object", name := "<init>", desc := "()V" } : Jvm.MethodName) object_method_1_code (1 : Nat) (Option.none : Option Jvm.ClassFile.FieldType), Jvm.Cond.code ({ cls := "com/example/xixi/xixi/store/ConsumeQueueEntry", name := "equals", desc := "(Ljava/lang/Object;)Z" } : Jvm.MethodName) prog_21_method_8_code (3 : Nat) (Option.some Jvm.ClassFile.FieldType.boolean), Jvm.Cond.code ({ cls := "java/lang/Long", name := "valueOf", desc := "(J)Ljava/lang/Long;" } : Jvm.MethodName) jdk_35_method_24_code (3 : Nat) (Option.some (Jvm.ClassFile.FieldType.object "java/lang/Long")), Jvm.Cond.code ({ cls := "java/lang/Long", name := "<init>", desc := "(J)V" } : Jvm.MethodName) jdk_35_method_26_code (3 : Nat) (Option.none : Option Jvm.ClassFile.FieldType), Jvm.Cond.code ({ cls := "java/lang/Number", name := "<init>", desc := "()V" } : Jvm.MethodName) jdk_18_method_1_code (1 : Nat) (Option.none : Option Jvm.ClassFile.FieldType)]
set_option maxRecDepth 65536 in
theorem codes_eq : words1.filter isCode = codes1 := rfl
theorem w_codes : ∀ c ∈ words1.filter isCode, c.before args0 about1 = true := by
  rw [codes_eq]
  intro c hc
  simp only [codes1, List.mem_cons, List.not_mem_nil, or_false] at hc
  rcases hc with rfl | rfl | rfl | rfl | rfl | rfl | rfl | rfl
  · exact w_c0
  · exact w_c1
  · exact w_c2
  · exact w_c3
  · exact w_c4
  · exact w_c5
  · exact w_c6
  · exact w_c7
set_option maxRecDepth 65536 in
theorem w_t1 : (words1.take 24).all (fun c => isCode c || c.before args0 about1) = true := by decide +kernel
set_option maxRecDepth 65536 in
theorem w_t2 : ((words1.drop 24).take 24).all (fun c => isCode c || c.before args0 about1) = true := by decide +kernel
set_option maxRecDepth 65536 in
theorem w_t3 : ((words1.drop 24).drop 24).all (fun c => isCode c || c.before args0 about1) = true := by decide +kernel
theorem w_tables : (allAtoms (Jvm.Cond.code x code maxLocals ret :: tables_1)).before args0 about1 = true := by
  rw [allAtoms_all]
  show words1.all (fun c => c.before args0 about1) = true
  refine all_split ?_ w_codes
  rw [← List.take_append_drop 24 words1, List.all_append, w_t1, ← List.take_append_drop 24 (words1.drop 24), List.all_append, w_t2, w_t3]
  rfl
set_option maxRecDepth 65536 in
theorem w_rest : rest_1_c.before args0 about1 = true := by decide +kernel
set_option maxRecDepth 65536 in
theorem w_case : (Jvm.Cond.and given_1 narrow_1).before args0 about1 = true := by decide +kernel
theorem w_applies : (headSpec (Jvm.Cond.code x code maxLocals ret :: tables_1) room_1).applies x e0.platform about1 = true :=
  (Spec.applies_iff w_frames).mpr ⟨w_running, w_runnable, w_alone, w_named, w_hears, w_ripe, w_room, w_tables⟩
theorem atStart : AtStart classFile x code maxLocals ret World_1 tables_1 room_1 Calls_1 rest_1 Pre_1 launch0 p0 e0 about1 theMethod args0 below0 :=
  ⟨lists_1, trivial, launch0.admits_env _ _ _, launch0.least_env, fairChoices_fair.cas, fairChoices_fair.clock, w_frames, w_args, w_heap, w_applies, trivial, w_rest, w_case⟩
end start1
theorem witness_1 : WitnessClaimed_1 := ⟨start1.p0, start1.e0, start1.about1, start1.theMethod, start1.args0, start1.below0, start1.atStart⟩
end Jvm.Pilot.@@N@@
