import JvmDerived
import JvmDerived.Pilot.@@N@@Statement
import JvmDerived.Pilot.@@N@@Code
set_option linter.unusedVariables false
set_option linter.unusedSimpArgs false
namespace Jvm.Pilot.@@N@@
open Jvm Jvm.ClassFile Sem Op Lib Jvm.Free Jvm.Stand Jvm.LawKit Jvm.RoadKit Bundle Jvm.Pilot.@@N@@.Jvm.D
section Own
variable {p : Program} {l : Launch} {e : Env} {R : Room} {s : State} {m : MethodId} {args : Array Value} {below : List Frame} {meth : Method} {c : Code} {T : State} {locs : List Loc} {cells slots : Nat} {Z : State} {a0 : Array Value} {h h' : Heap} {Q : Option Value → Heap → List Loc → Prop} {k n : Nat}
/-- from U the walk comes to a return of which Q holds -/
def Goes (p : Program) (e : Env) (below : List Frame) (s : State) (Q : Option Value → Heap → List Loc → Prop) (k n : Nat) (U : State) : Prop :=
  ∃ s₂ o, Steps p.tables e below U s₂ ∧ s₂.status = .running ∧ Ended s₂ below o ∧ ∃ v L, o = .returned v ∧ Q v s₂.heap L ∧ FrameEnd s o s₂ L k n
theorem Goes.go {U U' : State} (h : ∀ t, Steps p.tables e below U' t → Steps p.tables e below U t) (r : Goes p e below s Q k n U') : Goes p e below s Q k n U := by
  obtain ⟨s₂, o, h1, r⟩ := r
  exact ⟨s₂, o, h _ h1, r⟩
theorem Goes.outI (X : Stand p l e R s m args below meth c T locs cells slots) (hx : p.tables.exec = Jvm.exec) (hlk : meth.locks = false) (hret : meth.sig.returnType = some .int) {pc : Nat} {Ls : Array Slot} {z : Int32} (hd : decode c.code pc = .ok (.ireturn, 1)) (eT : T.heap = h) (hq : Q (some (.int z)) h locs) (hk : cells ≤ k) (hn : slots ≤ n) :
    Goes p e below s Q k n (T.setTop (mkF m pc Ls [.int z])) := by
  obtain ⟨fs, hr, hrun, hended, hW, hsame⟩ := X.leave (v := some (.int z)) (fun h => by rw [hret] at h; cases h) hlk
  refine ⟨_, _, X.ireturnOut hx hret rfl (Or.inl rfl) hd hr, hrun, hended, _, _, rfl, ?_, ⟨_, rfl⟩, hW, hsame.mono hk hn⟩
  show Q _ T.heap _
  rw [eT]; exact hq
theorem Goes.outZ (X : Stand p l e R s m args below meth c T locs cells slots) (hx : p.tables.exec = Jvm.exec) (hlk : meth.locks = false) (hret : meth.sig.returnType = some .boolean) {pc : Nat} {Ls : Array Slot} {z : Int32} (hz : narrow .boolean (.int z) = .int z) (hd : decode c.code pc = .ok (.ireturn, 1)) (eT : T.heap = h) (hq : Q (some (.int z)) h locs) (hk : cells ≤ k) (hn : slots ≤ n) :
    Goes p e below s Q k n (T.setTop (mkF m pc Ls [.int z])) := by
  obtain ⟨fs, hr, hrun, hended, hW, hsame⟩ := X.leave (v := some (.int z)) (fun h => by rw [hret] at h; cases h) hlk
  refine ⟨_, _, X.ireturnOut hx hret hz (Or.inr (Or.inl rfl)) hd hr, hrun, hended, _, _, rfl, ?_, ⟨_, rfl⟩, hW, hsame.mono hk hn⟩
  show Q _ T.heap _
  rw [eT]; exact hq
theorem Goes.outJ (X : Stand p l e R s m args below meth c T locs cells slots) (hx : p.tables.exec = Jvm.exec) (hlk : meth.locks = false) (hret : meth.sig.returnType = some .long) {pc : Nat} {Ls : Array Slot} {z : Int64} (hd : decode c.code pc = .ok (.lreturn, 1)) (eT : T.heap = h) (hq : Q (some (.long z)) h locs) (hk : cells ≤ k) (hn : slots ≤ n) :
    Goes p e below s Q k n (T.setTop (mkF m pc Ls [.long z])) := by
  obtain ⟨fs, hr, hrun, hended, hW, hsame⟩ := X.leave (v := some (.long z)) (fun h => by rw [hret] at h; cases h) hlk
  refine ⟨_, _, X.lreturnOut hx hret hd hr, hrun, hended, _, _, rfl, ?_, ⟨_, rfl⟩, hW, hsame.mono hk hn⟩
  show Q _ T.heap _
  rw [eT]; exact hq
theorem Goes.outA (X : Stand p l e R s m args below meth c T locs cells slots) (hx : p.tables.exec = Jvm.exec) (hlk : meth.locks = false) {t : FieldType} (hret : meth.sig.returnType = some t) (ht : t.isReference = true) {pc : Nat} {Ls : Array Slot} {w : Value} (hw : w.isRef = true) (hd : decode c.code pc = .ok (.areturn, 1)) (eT : T.heap = h) (hq : Q (some w) h locs) (hk : cells ≤ k) (hn : slots ≤ n) :
    Goes p e below s Q k n (T.setTop (mkF m pc Ls [w])) := by
  obtain ⟨fs, hr, hrun, hended, hW, hsame⟩ := X.leave (v := some w) (fun h => by rw [hret] at h; cases h) hlk
  refine ⟨_, _, X.areturnOut hx hw hret ht hd hr, hrun, hended, _, _, rfl, ?_, ⟨_, rfl⟩, hW, hsame.mono hk hn⟩
  show Q _ T.heap _
  rw [eT]; exact hq
theorem Goes.outV (X : Stand p l e R s m args below meth c T locs cells slots) (hx : p.tables.exec = Jvm.exec) (hlk : meth.locks = false) (hret : meth.sig.returnType = none) {pc : Nat} {Ls : Array Slot} (hd : decode c.code pc = .ok (.return_, 1)) (eT : T.heap = h) (hq : Q none h locs) (hk : cells ≤ k) (hn : slots ≤ n) :
    Goes p e below s Q k n (T.setTop (mkF m pc Ls [])) := by
  obtain ⟨fs, hr, hrun, hended, hW, hsame⟩ := X.leave (v := none) (fun _ => rfl) hlk
  refine ⟨_, _, X.returnOut hx hret hd hr, hrun, hended, _, _, rfl, ?_, ⟨_, rfl⟩, hW, hsame.mono hk hn⟩
  show Q _ T.heap _
  rw [eT]; exact hq
/-- an array, by the list of what it holds -/
def Arl (Z : State) (h : Heap) (a : Addr) (ty : FieldType) (vs : List Value) : Prop := ∃ c : Cell, Arr Z h a c ty ∧ c.slots.toList = vs
section Arls
variable {a b : Addr} {ty : FieldType} {vs : List Value} {v : Value} {sl : Nat} {ws : List Addr} {j : Int32}
theorem Arl.lt (F : Arl Z h a ty vs) : a < h.size := by obtain ⟨c, A, -⟩ := F; exact A.lt
theorem Arl.ext (F : Arl Z h a ty vs) (E : Ext h h') : Arl Z h' a ty vs := by obtain ⟨c, A, r⟩ := F; exact ⟨c, A.ext E, r⟩
theorem Arl.other (F : Arl Z h b ty vs) (W : Wr h h' a sl v) (q : b ≠ a) : Arl Z h' b ty vs := by obtain ⟨c, A, r⟩ := F; exact ⟨c, A.other W q, r⟩
theorem Arl.keep (F : Arl Z h a ty vs) (K : Keep h h' ws) (q : a ∉ ws) : Arl Z h' a ty vs := by obtain ⟨c, A, r⟩ := F; exact ⟨c, ⟨K.2.1 a c A.1 q, A.2⟩, r⟩
theorem Arl.set (F : Arl Z h a ty vs) (W : Wr h h' a sl v) : Arl Z h' a ty (vs.set sl v) := by
  obtain ⟨c, A, r⟩ := F
  refine ⟨_, A.same W, ?_⟩
  subst r
  simp [Cell.setSlot]
theorem Arl.eq {vs' : List Value} (F : Arl Z h a ty vs) (e : vs = vs') : Arl Z h a ty vs' := e ▸ F
theorem own_in {c : Cell} (r : c.slots.toList = vs) (h0 : ¬ j < 0) (h1 : j.toNatClampNeg < vs.length) : ¬ (j < 0 ∨ c.slots.size ≤ j.toNatClampNeg) := by
  subst r
  intro q
  rcases q with q | q
  · exact h0 q
  · rw [Array.length_toList] at h1; omega
theorem own_lt (hv : vs[sl]? = some v) : sl < vs.length := (List.getElem?_eq_some_iff.mp hv).1
end Arls
theorem own_ati {xs : List Int32} {j : Nat} {w : Int32} (h : xs[j]? = some w) : (xs.map Value.int)[j]? = some (.int w) := by
  rw [List.getElem?_map, h]; rfl
theorem own_lni {xs : List Int32} {j k : Nat} (hl : xs.length = k) (h : j < k) : j < (xs.map Value.int).length := by
  rw [List.length_map, hl]; exact h
theorem own_sti {a : Addr} {xs : List Int32} {j : Nat} {w : Int32} (A : Arl Z h a .int ((xs.map Value.int).set j (.int w))) : Arl Z h a .int ((xs.set j w).map Value.int) := A.eq List.map_set.symm
theorem own_selP {C : String} {y y' : MethodName} (hs : (Cond.selects C y' y').before args s = true) (hcls : y'.cls = y.cls) (hpriv : s.PrivateAt y) (hinst : (Cond.instanceMethod y).before args s = true) (hy : y.cls ≠ "java/lang/invoke/MethodHandle" ∧ y.cls ≠ "java/lang/invoke/VarHandle") : (Cond.selects y.cls y y).before args s = true := by
  obtain ⟨c2, r2, m2, -, -, q3, -, kP, hkP, hkPi⟩ := Cond.selects_spec hs
  have hc : s.vm.findClass y.cls = some m2.cls := hcls ▸ findClass_of_methodNamed q3
  exact selects_self_of_private hc hkP hkPi hpriv hinst hy
theorem own_neA {a b : Addr} {C : String} {k : Nat} {ty : FieldType} {vs : List Value} (F : Exa Z h a C) (wi : (Cond.instantiable C k).before a0 Z = true) (G : Arl Z h b ty vs) : a ≠ b := by
  obtain ⟨c', A', -⟩ := G
  exact ne_arr F wi A'
theorem own_newP (X : Stand p l e R s m args below meth c T locs cells slots) (hx : p.tables.exec = Jvm.exec) (hZ : Z.Warmed39 s.vm) {aty : ArrayType} (w : (Cond.arrayClass (newarray.typeOf aty)).before a0 Z = true) (eT : T.heap = h) {g : JFrame} (hg : g.method = m) (hd : decode c.code g.pc = .ok (.newarray aty, 2)) {n : Int32} {rest : List Value} (hs : g.stack = .int n :: rest)
    (hn : ¬ n < 0) {cap : Nat} (hcap : n.toNatClampNeg ≤ cap) (hb : cap * 8 ≤ 536870912) (hc : cells + 1 ≤ R.cells) (hl : slots + cap ≤ R.slots) :
    ∃ T' h', Stand p l e R s m args below meth c T' locs (cells + 1) (slots + cap) ∧ T'.heap = h' ∧ Ext h h' ∧ Arl Z h' h.size (newarray.typeOf aty) (List.replicate n.toNatClampNeg (defaultValue (newarray.typeOf aty))) ∧
      ∀ target, Steps p.tables e below (T'.setTop { g with pc := g.pc + 2, stack := .ref h.size :: rest }) target → Steps p.tables e below (T.setTop g) target := by
  obtain ⟨T', h', cA, X', e', E', A', st⟩ := newP X hx hZ w eT hg hd hs hn hcap hb hc hl
  exact ⟨T', h', X', e', E', ⟨_, A', by simp [newA]⟩, st⟩
theorem own_stB (X : Stand p l e R s m args below meth c T locs cells slots) (hx : p.tables.exec = Jvm.exec) (hZ : Z.Warmed39 s.vm) (eT : T.heap = h) {a : Addr} {vs : List Value} (A : Arl Z h a .byte vs) {j x : Int32} (hj : ¬ j < 0) (hj' : j.toNatClampNeg < vs.length) {g : JFrame} (hg : g.method = m) {rest : List Value} (hs : g.stack = .int x :: .int j :: .ref a :: rest) (hd : decode c.code g.pc = .ok (.bastore, 1)) :
    ∃ T' h', Stand p l e R s m args below meth c T' (locs ++ [⟨a, j.toNatClampNeg⟩]) cells slots ∧ T'.heap = h' ∧ Wr h h' a j.toNatClampNeg (.int x.toInt8.toInt32) ∧ Arl Z h' a .byte (vs.set j.toNatClampNeg (.int x.toInt8.toInt32)) ∧ ∀ target, Steps p.tables e below (T'.setTop { g with pc := g.pc + 1, stack := rest }) target → Steps p.tables e below (T.setTop g) target := by
  obtain ⟨c', A', r⟩ := A
  obtain ⟨T', h', X', e', W, st⟩ := stB X hx hZ eT A' (own_in r hj hj') hg hs hd
  exact ⟨T', h', X', e', W, Arl.set ⟨c', A', r⟩ W, st⟩
theorem own_stI (X : Stand p l e R s m args below meth c T locs cells slots) (hx : p.tables.exec = Jvm.exec) (hZ : Z.Warmed39 s.vm) (eT : T.heap = h) {a : Addr} {vs : List Value} (A : Arl Z h a .int vs) {j x : Int32} (hj : ¬ j < 0) (hj' : j.toNatClampNeg < vs.length) {g : JFrame} (hg : g.method = m) {rest : List Value} (hs : g.stack = .int x :: .int j :: .ref a :: rest) (hd : decode c.code g.pc = .ok (.iastore, 1)) :
    ∃ T' h', Stand p l e R s m args below meth c T' (locs ++ [⟨a, j.toNatClampNeg⟩]) cells slots ∧ T'.heap = h' ∧ Wr h h' a j.toNatClampNeg (.int x) ∧ Arl Z h' a .int (vs.set j.toNatClampNeg (.int x)) ∧ ∀ target, Steps p.tables e below (T'.setTop { g with pc := g.pc + 1, stack := rest }) target → Steps p.tables e below (T.setTop g) target := by
  obtain ⟨c', A', r⟩ := A
  obtain ⟨T', h', X', e', W, st⟩ := stI X hx hZ eT A' (own_in r hj hj') hg hs hd
  exact ⟨T', h', X', e', W, Arl.set ⟨c', A', r⟩ W, st⟩
theorem own_stJ (X : Stand p l e R s m args below meth c T locs cells slots) (hx : p.tables.exec = Jvm.exec) (hZ : Z.Warmed39 s.vm) (eT : T.heap = h) {a : Addr} {vs : List Value} (A : Arl Z h a .long vs) {j : Int32} {x : Int64} (hj : ¬ j < 0) (hj' : j.toNatClampNeg < vs.length) {g : JFrame} (hg : g.method = m) {rest : List Value} (hs : g.stack = .long x :: .int j :: .ref a :: rest) (hd : decode c.code g.pc = .ok (.lastore, 1)) :
    ∃ T' h', Stand p l e R s m args below meth c T' (locs ++ [⟨a, j.toNatClampNeg⟩]) cells slots ∧ T'.heap = h' ∧ Wr h h' a j.toNatClampNeg (.long x) ∧ Arl Z h' a .long (vs.set j.toNatClampNeg (.long x)) ∧ ∀ target, Steps p.tables e below (T'.setTop { g with pc := g.pc + 1, stack := rest }) target → Steps p.tables e below (T.setTop g) target := by
  obtain ⟨c', A', r⟩ := A
  obtain ⟨T', h', X', e', W, st⟩ := stJ X hx hZ eT A' (own_in r hj hj') hg hs hd
  exact ⟨T', h', X', e', W, Arl.set ⟨c', A', r⟩ W, st⟩
theorem own_at {a : Addr} {c' : Cell} {vs : List Value} {v : Value} {j : Int32} (r : c'.slots.toList = vs) (hv : vs[j.toNatClampNeg]? = some v) : c'.slots[j.toNatClampNeg]? = some v := by
  subst r; simpa using hv
theorem own_ldB (X : Stand p l e R s m args below meth c T locs cells slots) (hx : p.tables.exec = Jvm.exec) (hZ : Z.Warmed39 s.vm) (eT : T.heap = h) {a : Addr} {vs : List Value} {v : Value} (A : Arl Z h a .byte vs) {j : Int32} (hj : ¬ j < 0) (hv : vs[j.toNatClampNeg]? = some v) {g : JFrame} (hg : g.method = m) {rest : List Value} (hs : g.stack = .int j :: .ref a :: rest) (hd : decode c.code g.pc = .ok (.baload, 1)) :
    ∀ target, Steps p.tables e below (T.setTop { g with pc := g.pc + 1, stack := v :: rest }) target → Steps p.tables e below (T.setTop g) target := by
  obtain ⟨c', A', r⟩ := A
  exact fun t k => X.baloadBytes hx (by rw [eT]; exact A'.1) (State.isArrayOf_alike hZ.alike A'.2.1) A'.2.2 (own_in r hj (own_lt hv)) (own_at (a := a) r hv) hg hs hd t k
theorem own_ldI (X : Stand p l e R s m args below meth c T locs cells slots) (hx : p.tables.exec = Jvm.exec) (hZ : Z.Warmed39 s.vm) (eT : T.heap = h) {a : Addr} {vs : List Value} {v : Value} (A : Arl Z h a .int vs) {j : Int32} (hj : ¬ j < 0) (hv : vs[j.toNatClampNeg]? = some v) {g : JFrame} (hg : g.method = m) {rest : List Value} (hs : g.stack = .int j :: .ref a :: rest) (hd : decode c.code g.pc = .ok (.iaload, 1)) :
    ∀ target, Steps p.tables e below (T.setTop { g with pc := g.pc + 1, stack := v :: rest }) target → Steps p.tables e below (T.setTop g) target := by
  obtain ⟨c', A', r⟩ := A
  exact fun t k => X.iaload hx (by rw [eT]; exact A'.1) (State.isArrayOf_alike hZ.alike A'.2.1) A'.2.2 (own_in r hj (own_lt hv)) (own_at (a := a) r hv) hg hs hd t k
theorem own_ldJ (X : Stand p l e R s m args below meth c T locs cells slots) (hx : p.tables.exec = Jvm.exec) (hZ : Z.Warmed39 s.vm) (eT : T.heap = h) {a : Addr} {vs : List Value} {v : Value} (A : Arl Z h a .long vs) {j : Int32} (hj : ¬ j < 0) (hv : vs[j.toNatClampNeg]? = some v) {g : JFrame} (hg : g.method = m) {rest : List Value} (hs : g.stack = .int j :: .ref a :: rest) (hd : decode c.code g.pc = .ok (.laload, 1)) :
    ∀ target, Steps p.tables e below (T.setTop { g with pc := g.pc + 1, stack := v :: rest }) target → Steps p.tables e below (T.setTop g) target := by
  obtain ⟨c', A', r⟩ := A
  exact fun t k => X.laload hx (by rw [eT]; exact A'.1) (State.isArrayOf_alike hZ.alike A'.2.1) A'.2.2 (own_in r hj (own_lt hv)) (own_at (a := a) r hv) hg hs hd t k
theorem own_len (X : Stand p l e R s m args below meth c T locs cells slots) (hx : p.tables.exec = Jvm.exec) (hZ : Z.Warmed39 s.vm) (eT : T.heap = h) {a : Addr} {ty : FieldType} {vs : List Value} (A : Arl Z h a ty vs) {n : Int32} (hn : vs.length.toInt32 = n) {g : JFrame} (hg : g.method = m) {rest : List Value} (hs : g.stack = .ref a :: rest) (hd : decode c.code g.pc = .ok (.arraylength, 1)) :
    ∀ target, Steps p.tables e below (T.setTop { g with pc := g.pc + 1, stack := .int n :: rest }) target → Steps p.tables e below (T.setTop g) target := by
  obtain ⟨c', A', r⟩ := A
  have q : c'.slots.size.toInt32 = n := by rw [← hn, ← r, Array.length_toList]
  exact fun t k => X.arraylength hx (ty := ty) (by rw [eT]; exact A'.1) (State.isArrayOf_alike hZ.alike A'.2.1) hg hs hd t (q.symm ▸ k)
end Own
def rsF (g : Int32) : Int32 := if g &&& (1 : Int32) = 0 then 0 else 1
def owF (g : Int32) : Int32 := if rsF g = 0 then (if g &&& (2 : Int32) = 0 then 0 else 1) else 0
theorem own_lo : ∀ b : BitVec 2, (b = 2#2) ↔ (b &&& 1#2 = 0#2 ∧ ¬ b &&& 2#2 = 0#2) := by decide
theorem own_m (g : Int32) : (g &&& (3 : Int32)) = 2 ↔ (g &&& (1 : Int32) = 0 ∧ ¬ g &&& (2 : Int32) = 0) := by
  have h3 := c_mask g 3 2 (by decide) (by decide)
  have h1 := c_mask g 1 1 (by decide) (by decide)
  have e2 : g &&& (2 : Int32) = (g &&& (3 : Int32)) - (g &&& (1 : Int32)) := by
    apply Int32.toBitVec_inj.mp
    simp only [Int32.toBitVec_and, Int32.toBitVec_sub]
    generalize g.toBitVec = x
    have hx : x &&& 2#32 = (x &&& 3#32) &&& 2#32 := by rw [BitVec.and_assoc]; rfl
    have hy : x &&& 1#32 = (x &&& 3#32) &&& 1#32 := by rw [BitVec.and_assoc]; rfl
    show x &&& 2#32 = (x &&& 3#32) - (x &&& 1#32)
    rw [hx, hy]
    have hlt : (x &&& 3#32).toNat < 4 := by
      rw [BitVec.toNat_and]; exact Nat.lt_of_le_of_lt Nat.and_le_right (by decide)
    generalize hz : x &&& 3#32 = z at *
    have : z = 0#32 ∨ z = 1#32 ∨ z = 2#32 ∨ z = 3#32 := by
      have h4 : z.toNat = 0 ∨ z.toNat = 1 ∨ z.toNat = 2 ∨ z.toNat = 3 := by omega
      rcases h4 with h | h | h | h
      · exact Or.inl (BitVec.eq_of_toNat_eq h)
      · exact Or.inr (Or.inl (BitVec.eq_of_toNat_eq h))
      · exact Or.inr (Or.inr (Or.inl (BitVec.eq_of_toNat_eq h)))
      · exact Or.inr (Or.inr (Or.inr (BitVec.eq_of_toNat_eq h)))
    rcases this with rfl | rfl | rfl | rfl <;> decide
  have e2' := c_isub (g &&& (3 : Int32)) (g &&& (1 : Int32))
  rw [← e2] at e2'
  have r2 := rng32 (g &&& (2 : Int32))
  simp only [← Int32.toInt_inj]
  have z0 : (0 : Int32).toInt = 0 := by decide
  have z2 : (2 : Int32).toInt = 2 := by decide
  omega
theorem own_yes {g v : Int32} (hv : (g &&& (3 : Int32)) = v) (h : v = 2) : owF g = 1 := by
  have q := (own_m g).mp (hv.trans h)
  simp [owF, rsF, q.1, q.2]
theorem own_no {g v : Int32} (hv : (g &&& (3 : Int32)) = v) (h : ¬ v = 2) : owF g = 0 := by
  have q : ¬ (g &&& (1 : Int32) = 0 ∧ ¬ g &&& (2 : Int32) = 0) := fun e => h (hv.symm.trans ((own_m g).mpr e))
  by_cases h1 : g &&& (1 : Int32) = 0
  · have h2 : g &&& (2 : Int32) = 0 := by
      by_cases h2 : g &&& (2 : Int32) = 0
      · exact h2
      · exact absurd ⟨h1, h2⟩ q
    simp [owF, rsF, h1, h2]
  · simp [owF, rsF, h1]
theorem own_par (g : Int32) : (g % (2 : Int32)) = 0 ↔ g &&& (1 : Int32) = 0 := by
  have h1 := c_mask g 1 1 (by decide) (by decide)
  have h2 := c_irem g 2 2 (by decide)
  have z0 : (0 : Int32).toInt = 0 := by decide
  simp only [← Int32.toInt_inj]
  omega
theorem rs_even {g : Int32} (h : (g % (2 : Int32)) = 0) : rsF g = 0 := by unfold rsF; rw [if_pos ((own_par g).mp h)]
theorem rs_odd {g : Int32} (h : ¬ (g % (2 : Int32)) = 0) : rsF g = 1 := by unfold rsF; rw [if_neg fun q => h ((own_par g).mpr q)]
theorem ow_odd {g : Int32} (h : ¬ (g % (2 : Int32)) = 0) : owF g = 0 := by unfold owF; rw [rs_odd h]; rfl
theorem own_ext {h h' : Heap} (K : Keep h h' []) : Ext h h' := ⟨K.1, fun a c q => K.2.1 a c q nin0⟩
theorem pd0 : parseMethodDescriptor "(IIIILjava/lang/String;Ljava/util/Map;[B)V" = some ⟨[.int, .int, .int, .int, (.object "java/lang/String"), (.object "java/util/Map"), (.array .byte)], none⟩ := by decide +kernel
theorem pd1 : parseMethodDescriptor "()V" = some ⟨[], none⟩ := by decide +kernel
theorem pd2 : parseMethodDescriptor "()Z" = some ⟨[], (some .boolean)⟩ := by decide +kernel
theorem pd3 : parseMethodDescriptor "(I)Lcom/example/xixi/xixi/remoting/RemotingCommand;" = some ⟨[.int], (some (.object "com/example/xixi/xixi/remoting/RemotingCommand"))⟩ := by decide +kernel
theorem pd4 : parseMethodDescriptor "(ILjava/lang/String;)Lcom/example/xixi/xixi/remoting/RemotingCommand;" = some ⟨[.int, (.object "java/lang/String")], (some (.object "com/example/xixi/xixi/remoting/RemotingCommand"))⟩ := by decide +kernel
theorem pd5 : parseMethodDescriptor "(ILjava/lang/String;[B)Lcom/example/xixi/xixi/remoting/RemotingCommand;" = some ⟨[.int, (.object "java/lang/String"), (.array .byte)], (some (.object "com/example/xixi/xixi/remoting/RemotingCommand"))⟩ := by decide +kernel
theorem pd6 : parseMethodDescriptor "()Ljava/util/Map;" = some ⟨[], (some (.object "java/util/Map"))⟩ := by decide +kernel
theorem pd7 : parseMethodDescriptor "(ILjava/lang/String;Ljava/util/Map;[B)Lcom/example/xixi/xixi/remoting/RemotingCommand;" = some ⟨[.int, (.object "java/lang/String"), (.object "java/util/Map"), (.array .byte)], (some (.object "com/example/xixi/xixi/remoting/RemotingCommand"))⟩ := by decide +kernel
theorem pd8 : parseMethodDescriptor "(Ljava/util/Map;)Ljava/util/Map;" = some ⟨[(.object "java/util/Map")], (some (.object "java/util/Map"))⟩ := by decide +kernel
theorem pd9 : parseMethodDescriptor "(IIIIII)Z" = some ⟨[.int, .int, .int, .int, .int, .int], (some .boolean)⟩ := by decide +kernel
theorem d1_0 : decode prog_2_method_1_code 0 = .ok (.aload_n 0, 1) := by decide +kernel
theorem d1_1 : decode prog_2_method_1_code 1 = .ok (.invokespecial 1, 3) := by decide +kernel
theorem d1_4 : decode prog_2_method_1_code 4 = .ok (.aload_n 0, 1) := by decide +kernel
theorem d1_5 : decode prog_2_method_1_code 5 = .ok (.iload_n 1, 1) := by decide +kernel
theorem d1_6 : decode prog_2_method_1_code 6 = .ok (.putfield 7, 3) := by decide +kernel
theorem d1_9 : decode prog_2_method_1_code 9 = .ok (.aload_n 0, 1) := by decide +kernel
theorem d1_10 : decode prog_2_method_1_code 10 = .ok (.iload_n 2, 1) := by decide +kernel
theorem d1_11 : decode prog_2_method_1_code 11 = .ok (.putfield 13, 3) := by decide +kernel
theorem d1_14 : decode prog_2_method_1_code 14 = .ok (.aload_n 0, 1) := by decide +kernel
theorem d1_15 : decode prog_2_method_1_code 15 = .ok (.iload_n 3, 1) := by decide +kernel
theorem d1_16 : decode prog_2_method_1_code 16 = .ok (.putfield 16, 3) := by decide +kernel
theorem d1_19 : decode prog_2_method_1_code 19 = .ok (.aload_n 0, 1) := by decide +kernel
theorem d1_20 : decode prog_2_method_1_code 20 = .ok (.iload 4, 2) := by decide +kernel
theorem d1_22 : decode prog_2_method_1_code 22 = .ok (.putfield 19, 3) := by decide +kernel
theorem d1_25 : decode prog_2_method_1_code 25 = .ok (.aload_n 0, 1) := by decide +kernel
theorem d1_26 : decode prog_2_method_1_code 26 = .ok (.aload 5, 2) := by decide +kernel
theorem d1_28 : decode prog_2_method_1_code 28 = .ok (.putfield 22, 3) := by decide +kernel
theorem d1_31 : decode prog_2_method_1_code 31 = .ok (.aload_n 0, 1) := by decide +kernel
theorem d1_32 : decode prog_2_method_1_code 32 = .ok (.aload 6, 2) := by decide +kernel
theorem d1_34 : decode prog_2_method_1_code 34 = .ok (.putfield 26, 3) := by decide +kernel
theorem d1_37 : decode prog_2_method_1_code 37 = .ok (.aload_n 0, 1) := by decide +kernel
theorem d1_38 : decode prog_2_method_1_code 38 = .ok (.aload 7, 2) := by decide +kernel
theorem d1_40 : decode prog_2_method_1_code 40 = .ok (.putfield 30, 3) := by decide +kernel
theorem d1_43 : decode prog_2_method_1_code 43 = .ok (.return_, 1) := by decide +kernel
theorem pn0 : plainName "com/example/xixi/xixi/remoting/RemotingCommand" = true := by first | (simp [plainName, overriddenIn]; done) | decide +kernel
theorem ef_rmC1 (m : MethodId) (a : Addr) (p0 : Int32) (p1 : Int32) (p2 : Int32) (p3 : Int32) (p6 : Addr) : entryFrame m #[(.ref a), (.int p0), (.int p1), (.int p2), (.int p3), .null, .null, (.ref p6)] 8 = mkF m 0 #[.val (.ref a), .val (.int p0), .val (.int p1), .val (.int p2), .val (.int p3), .val .null, .val .null, .val (.ref p6)] [] := by first | (simp [entryFrame, mkF, argsToLocals, Value.category]; done) | rfl
def Q_rmC1 (Z : State) (a : Addr) (p0 : Int32) (p1 : Int32) (p2 : Int32) (p3 : Int32) (p6 : Addr) (h0 : Heap) (n0 : Nat) (v : Option Value) (h : Heap) (L : List Loc) : Prop := v = none ∧ Fr n0 L ∧ Keep h0 h [a] ∧ Exa Z h a "com/example/xixi/xixi/remoting/RemotingCommand" ∧ Fld Z h a "com/example/xixi/xixi/remoting/RemotingCommand" "code" "I" (.int p0) ∧ Fld Z h a "com/example/xixi/xixi/remoting/RemotingCommand" "version" "I" (.int p1) ∧ Fld Z h a "com/example/xixi/xixi/remoting/RemotingCommand" "opaque" "I" (.int p2) ∧ Fld Z h a "com/example/xixi/xixi/remoting/RemotingCommand" "flag" "I" (.int p3) ∧ Fld Z h a "com/example/xixi/xixi/remoting/RemotingCommand" "remark" "Ljava/lang/String;" .null ∧ Fld Z h a "com/example/xixi/xixi/remoting/RemotingCommand" "extFields" "Ljava/util/Map;" .null ∧ Fld Z h a "com/example/xixi/xixi/remoting/RemotingCommand" "body" "[B" (.ref p6)
set_option maxRecDepth 65536 in
set_option maxHeartbeats 40000000 in
theorem rmC1 (l : Launch) (Z : State) (a0 : Array Value) (hw : ∀ d ∈ tables_1, d.before a0 Z = true) (ws : List Jvm.Cond) (a : Addr) (p0 : Int32) (p1 : Int32) (p2 : Int32) (p3 : Int32) (p6 : Addr) (h0 : Heap) (n0 : Nat) (Z0 : n0 ≤ h0.size) (E0 : Exa Z h0 a "com/example/xixi/xixi/remoting/RemotingCommand") (F_code : Fld Z h0 a "com/example/xixi/xixi/remoting/RemotingCommand" "code" "I" (.int (0 : Int32))) (F_version : Fld Z h0 a "com/example/xixi/xixi/remoting/RemotingCommand" "version" "I" (.int (0 : Int32))) (F_opaque : Fld Z h0 a "com/example/xixi/xixi/remoting/RemotingCommand" "opaque" "I" (.int (0 : Int32))) (F_flag : Fld Z h0 a "com/example/xixi/xixi/remoting/RemotingCommand" "flag" "I" (.int (0 : Int32))) (F_remark : Fld Z h0 a "com/example/xixi/xixi/remoting/RemotingCommand" "remark" "Ljava/lang/String;" .null) (F_extFields : Fld Z h0 a "com/example/xixi/xixi/remoting/RemotingCommand" "extFields" "Ljava/util/Map;" .null) (F_body : Fld Z h0 a "com/example/xixi/xixi/remoting/RemotingCommand" "body" "[B" .null) (ga : n0 ≤ a) :
    MetFree l (⟨"com/example/xixi/xixi/remoting/RemotingCommand", "<init>", "(IIIILjava/lang/String;Ljava/util/Map;[B)V"⟩ : MethodName) (head1 (Jvm.Cond.code (⟨"com/example/xixi/xixi/remoting/RemotingCommand", "<init>", "(IIIILjava/lang/String;Ljava/util/Map;[B)V"⟩ : MethodName) prog_2_method_1_code 8 none :: ws) ({ frames := 1, cells := 0, slots := 0, locals := 12 } : Room)) (fun aa U => aa = #[(.ref a), (.int p0), (.int p1), (.int p2), (.int p3), .null, .null, (.ref p6)] ∧ Z.Warmed39 U.vm ∧ U.heap = h0) (fun _ _ _ _ _ => True) (fun _ U oo U' => ∃ v L, oo = .returned v ∧ Q_rmC1 Z a p0 p1 p2 p3 p6 h0 n0 v U'.heap L ∧ FrameEnd U oo U' L ({ frames := 1, cells := 0, slots := 0, locals := 12 } : Room).cells ({ frames := 1, cells := 0, slots := 0, locals := 12 } : Room).slots) := by
  refine MetFree.of_bodySF (plainFor_of_name pn0) hisR ?_
  intro p e s m args below meth c s₁ Bd hml0 hP hK
  obtain ⟨rfl, hZ, hh⟩ := hP
  have hx := Bd.exec
  have hby := Bd.bytes
  have hml : c.maxLocals = 8 := hml0
  have hown : s.vm.findClass "com/example/xixi/xixi/remoting/RemotingCommand" = some m.cls := findClass_of_methodNamed Bd.named
  have hnm := (name_of_methodNamed Bd.named Bd.method).1
  have hlk : meth.locks = false := Bd.notSynchronized
  have hret := Bd.returns
  have X0 : Stand p l e ({ frames := 1, cells := 0, slots := 0, locals := 12 } : Room) s m #[(.ref a), (.int p0), (.int p1), (.int p2), (.int p3), .null, .null, (.ref p6)] below meth c s₁ [] 0 0 := Stand.of_body Bd
  have e0 : s₁.heap = h0 := by rw [← hh, Bd.state]; rfl
  have N0 := Fr.nil n0
  have K0 : Keep h0 h0 [a] := Keep.refl _ _
  show Goes p e below s (Q_rmC1 Z a p0 p1 p2 p3 p6 h0 n0) ({ frames := 1, cells := 0, slots := 0, locals := 12 } : Room).cells ({ frames := 1, cells := 0, slots := 0, locals := 12 } : Room).slots _
  refine Goes.go (fun _ kk => castTop (ef_rmC1 m a p0 p1 p2 p3 p6) kk) ?_
  show Goes _ _ _ _ _ _ _ (s₁.setTop (mkF m 0 #[.val (.ref a), .val (.int p0), .val (.int p1), .val (.int p2), .val (.int p3), .val .null, .val .null, .val (.ref p6)] []))
  refine Goes.go (fun _ kk => XS.aloadN X0.here hx rfl (hb hby d1_0) rfl rfl kk) ?_
  show Goes _ _ _ _ _ _ _ (s₁.setTop (mkF m 1 _ [(.ref a)]))
  obtain ⟨T1, X1, e1, st1⟩ := initO X0 hx hZ hown (hw _ (List.mem_of_getElem? (i := 7) rfl)) (hw _ (List.mem_of_getElem? (i := 8) rfl)) (hw _ (List.mem_of_getElem? (i := 9) rfl)) e0 (g := (mkF m 1 #[.val (.ref a), .val (.int p0), .val (.int p1), .val (.int p2), .val (.int p3), .val .null, .val .null, .val (.ref p6)] [(.ref a)])) rfl (by rw [hml]; rfl) rfl (hb hby d1_1) (by decide) (W := 0) (by show 2 * 0 + _ ≤ _; exact Nat.le_of_eq rfl) (by decide)
  refine Goes.go (st1) ?_
  show Goes _ _ _ _ _ _ _ (T1.setTop (mkF m 4 _ []))
  refine Goes.go (fun _ kk => XS.aloadN X1.here hx rfl (hb hby d1_4) rfl rfl kk) ?_
  show Goes _ _ _ _ _ _ _ (T1.setTop (mkF m 5 _ [(.ref a)]))
  refine Goes.go (fun _ kk => XS.iloadN X1.here hx rfl (hb hby d1_5) rfl kk) ?_
  show Goes _ _ _ _ _ _ _ (T1.setTop (mkF m 6 _ [(.int p0), (.ref a)]))
  obtain ⟨T2, h2, X2, e2, W2, st2⟩ := putF X1 hx hZ hown (host := "") (Or.inl (hw _ (List.mem_of_getElem? (i := 10) rfl))) Via.refl e1 F_code E0 (Or.inr ⟨(hw _ (List.mem_of_getElem? (i := 11) rfl)), rfl, hnm⟩) (hw _ (List.mem_of_getElem? (i := 1) rfl)) (ty := .int) (by decide) rfl rfl (g := (mkF m 6 #[.val (.ref a), .val (.int p0), .val (.int p1), .val (.int p2), .val (.int p3), .val .null, .val .null, .val (.ref p6)] [(.int p0), (.ref a)])) rfl rfl (hb hby d1_6)
  have N2 := Fr.snoc X2 N0 ga
  have f := Exa.wr W2 E0
  have f_1 := Fld.other W2 F_version (Or.inr (slot_ne (Or.inr (hw _ (List.mem_of_getElem? (i := 13) rfl))) (Or.inr (hw _ (List.mem_of_getElem? (i := 11) rfl))) (by decide) (t := .int) (t' := .int) (by decide) (by decide)))
  have f_2 := Fld.other W2 F_opaque (Or.inr (slot_ne (Or.inr (hw _ (List.mem_of_getElem? (i := 15) rfl))) (Or.inr (hw _ (List.mem_of_getElem? (i := 11) rfl))) (by decide) (t := .int) (t' := .int) (by decide) (by decide)))
  have f_3 := Fld.other W2 F_flag (Or.inr (slot_ne (Or.inr (hw _ (List.mem_of_getElem? (i := 17) rfl))) (Or.inr (hw _ (List.mem_of_getElem? (i := 11) rfl))) (by decide) (t := .int) (t' := .int) (by decide) (by decide)))
  have f_4 := Fld.other W2 F_remark (Or.inr (slot_ne (Or.inr (hw _ (List.mem_of_getElem? (i := 19) rfl))) (Or.inr (hw _ (List.mem_of_getElem? (i := 11) rfl))) (by decide) (t := (.object "java/lang/String")) (t' := .int) (by decide) (by decide)))
  have f_5 := Fld.other W2 F_extFields (Or.inr (slot_ne (Or.inr (hw _ (List.mem_of_getElem? (i := 21) rfl))) (Or.inr (hw _ (List.mem_of_getElem? (i := 11) rfl))) (by decide) (t := (.object "java/util/Map")) (t' := .int) (by decide) (by decide)))
  have f_6 := Fld.other W2 F_body (Or.inr (slot_ne (Or.inr (hw _ (List.mem_of_getElem? (i := 23) rfl))) (Or.inr (hw _ (List.mem_of_getElem? (i := 11) rfl))) (by decide) (t := (.array .byte)) (t' := .int) (by decide) (by decide)))
  have f_7 := Fld.same W2 F_code
  have Z2 : n0 ≤ h2.size := by rw [W2.size]; exact Z0
  have K2 := K0.wr W2 (Or.inl (List.mem_of_getElem? (i := 0) rfl))
  refine Goes.go (st2) ?_
  show Goes _ _ _ _ _ _ _ (T2.setTop (mkF m 9 _ []))
  refine Goes.go (fun _ kk => XS.aloadN X2.here hx rfl (hb hby d1_9) rfl rfl kk) ?_
  show Goes _ _ _ _ _ _ _ (T2.setTop (mkF m 10 _ [(.ref a)]))
  refine Goes.go (fun _ kk => XS.iloadN X2.here hx rfl (hb hby d1_10) rfl kk) ?_
  show Goes _ _ _ _ _ _ _ (T2.setTop (mkF m 11 _ [(.int p1), (.ref a)]))
  obtain ⟨T3, h3, X3, e3, W3, st3⟩ := putF X2 hx hZ hown (host := "") (Or.inl (hw _ (List.mem_of_getElem? (i := 12) rfl))) Via.refl e2 f_1 f (Or.inr ⟨(hw _ (List.mem_of_getElem? (i := 13) rfl)), rfl, hnm⟩) (hw _ (List.mem_of_getElem? (i := 1) rfl)) (ty := .int) (by decide) rfl rfl (g := (mkF m 11 #[.val (.ref a), .val (.int p0), .val (.int p1), .val (.int p2), .val (.int p3), .val .null, .val .null, .val (.ref p6)] [(.int p1), (.ref a)])) rfl rfl (hb hby d1_11)
  have N3 := Fr.snoc X3 N2 ga
  have f_8 := Exa.wr W3 f
  have f_9 := Fld.other W3 f_7 (Or.inr (slot_ne (Or.inr (hw _ (List.mem_of_getElem? (i := 11) rfl))) (Or.inr (hw _ (List.mem_of_getElem? (i := 13) rfl))) (by decide) (t := .int) (t' := .int) (by decide) (by decide)))
  have f_10 := Fld.other W3 f_2 (Or.inr (slot_ne (Or.inr (hw _ (List.mem_of_getElem? (i := 15) rfl))) (Or.inr (hw _ (List.mem_of_getElem? (i := 13) rfl))) (by decide) (t := .int) (t' := .int) (by decide) (by decide)))
  have f_11 := Fld.other W3 f_3 (Or.inr (slot_ne (Or.inr (hw _ (List.mem_of_getElem? (i := 17) rfl))) (Or.inr (hw _ (List.mem_of_getElem? (i := 13) rfl))) (by decide) (t := .int) (t' := .int) (by decide) (by decide)))
  have f_12 := Fld.other W3 f_4 (Or.inr (slot_ne (Or.inr (hw _ (List.mem_of_getElem? (i := 19) rfl))) (Or.inr (hw _ (List.mem_of_getElem? (i := 13) rfl))) (by decide) (t := (.object "java/lang/String")) (t' := .int) (by decide) (by decide)))
  have f_13 := Fld.other W3 f_5 (Or.inr (slot_ne (Or.inr (hw _ (List.mem_of_getElem? (i := 21) rfl))) (Or.inr (hw _ (List.mem_of_getElem? (i := 13) rfl))) (by decide) (t := (.object "java/util/Map")) (t' := .int) (by decide) (by decide)))
  have f_14 := Fld.other W3 f_6 (Or.inr (slot_ne (Or.inr (hw _ (List.mem_of_getElem? (i := 23) rfl))) (Or.inr (hw _ (List.mem_of_getElem? (i := 13) rfl))) (by decide) (t := (.array .byte)) (t' := .int) (by decide) (by decide)))
  have f_15 := Fld.same W3 f_1
  have Z3 : n0 ≤ h3.size := by rw [W3.size]; exact Z2
  have K3 := K2.wr W3 (Or.inl (List.mem_of_getElem? (i := 0) rfl))
  refine Goes.go (st3) ?_
  show Goes _ _ _ _ _ _ _ (T3.setTop (mkF m 14 _ []))
  refine Goes.go (fun _ kk => XS.aloadN X3.here hx rfl (hb hby d1_14) rfl rfl kk) ?_
  show Goes _ _ _ _ _ _ _ (T3.setTop (mkF m 15 _ [(.ref a)]))
  refine Goes.go (fun _ kk => XS.iloadN X3.here hx rfl (hb hby d1_15) rfl kk) ?_
  show Goes _ _ _ _ _ _ _ (T3.setTop (mkF m 16 _ [(.int p2), (.ref a)]))
  obtain ⟨T4, h4, X4, e4, W4, st4⟩ := putF X3 hx hZ hown (host := "") (Or.inl (hw _ (List.mem_of_getElem? (i := 14) rfl))) Via.refl e3 f_10 f_8 (Or.inr ⟨(hw _ (List.mem_of_getElem? (i := 15) rfl)), rfl, hnm⟩) (hw _ (List.mem_of_getElem? (i := 1) rfl)) (ty := .int) (by decide) rfl rfl (g := (mkF m 16 #[.val (.ref a), .val (.int p0), .val (.int p1), .val (.int p2), .val (.int p3), .val .null, .val .null, .val (.ref p6)] [(.int p2), (.ref a)])) rfl rfl (hb hby d1_16)
  have N4 := Fr.snoc X4 N3 ga
  have f_16 := Exa.wr W4 f_8
  have f_17 := Fld.other W4 f_9 (Or.inr (slot_ne (Or.inr (hw _ (List.mem_of_getElem? (i := 11) rfl))) (Or.inr (hw _ (List.mem_of_getElem? (i := 15) rfl))) (by decide) (t := .int) (t' := .int) (by decide) (by decide)))
  have f_18 := Fld.other W4 f_15 (Or.inr (slot_ne (Or.inr (hw _ (List.mem_of_getElem? (i := 13) rfl))) (Or.inr (hw _ (List.mem_of_getElem? (i := 15) rfl))) (by decide) (t := .int) (t' := .int) (by decide) (by decide)))
  have f_19 := Fld.other W4 f_11 (Or.inr (slot_ne (Or.inr (hw _ (List.mem_of_getElem? (i := 17) rfl))) (Or.inr (hw _ (List.mem_of_getElem? (i := 15) rfl))) (by decide) (t := .int) (t' := .int) (by decide) (by decide)))
  have f_20 := Fld.other W4 f_12 (Or.inr (slot_ne (Or.inr (hw _ (List.mem_of_getElem? (i := 19) rfl))) (Or.inr (hw _ (List.mem_of_getElem? (i := 15) rfl))) (by decide) (t := (.object "java/lang/String")) (t' := .int) (by decide) (by decide)))
  have f_21 := Fld.other W4 f_13 (Or.inr (slot_ne (Or.inr (hw _ (List.mem_of_getElem? (i := 21) rfl))) (Or.inr (hw _ (List.mem_of_getElem? (i := 15) rfl))) (by decide) (t := (.object "java/util/Map")) (t' := .int) (by decide) (by decide)))
  have f_22 := Fld.other W4 f_14 (Or.inr (slot_ne (Or.inr (hw _ (List.mem_of_getElem? (i := 23) rfl))) (Or.inr (hw _ (List.mem_of_getElem? (i := 15) rfl))) (by decide) (t := (.array .byte)) (t' := .int) (by decide) (by decide)))
  have f_23 := Fld.same W4 f_10
  have Z4 : n0 ≤ h4.size := by rw [W4.size]; exact Z3
  have K4 := K3.wr W4 (Or.inl (List.mem_of_getElem? (i := 0) rfl))
  refine Goes.go (st4) ?_
  show Goes _ _ _ _ _ _ _ (T4.setTop (mkF m 19 _ []))
  refine Goes.go (fun _ kk => XS.aloadN X4.here hx rfl (hb hby d1_19) rfl rfl kk) ?_
  show Goes _ _ _ _ _ _ _ (T4.setTop (mkF m 20 _ [(.ref a)]))
  refine Goes.go (fun _ kk => XS.iload X4.here hx rfl (hb hby d1_20) rfl kk) ?_
  show Goes _ _ _ _ _ _ _ (T4.setTop (mkF m 22 _ [(.int p3), (.ref a)]))
  obtain ⟨T5, h5, X5, e5, W5, st5⟩ := putF X4 hx hZ hown (host := "") (Or.inl (hw _ (List.mem_of_getElem? (i := 16) rfl))) Via.refl e4 f_19 f_16 (Or.inr ⟨(hw _ (List.mem_of_getElem? (i := 17) rfl)), rfl, hnm⟩) (hw _ (List.mem_of_getElem? (i := 1) rfl)) (ty := .int) (by decide) rfl rfl (g := (mkF m 22 #[.val (.ref a), .val (.int p0), .val (.int p1), .val (.int p2), .val (.int p3), .val .null, .val .null, .val (.ref p6)] [(.int p3), (.ref a)])) rfl rfl (hb hby d1_22)
  have N5 := Fr.snoc X5 N4 ga
  have f_24 := Exa.wr W5 f_16
  have f_25 := Fld.other W5 f_17 (Or.inr (slot_ne (Or.inr (hw _ (List.mem_of_getElem? (i := 11) rfl))) (Or.inr (hw _ (List.mem_of_getElem? (i := 17) rfl))) (by decide) (t := .int) (t' := .int) (by decide) (by decide)))
  have f_26 := Fld.other W5 f_18 (Or.inr (slot_ne (Or.inr (hw _ (List.mem_of_getElem? (i := 13) rfl))) (Or.inr (hw _ (List.mem_of_getElem? (i := 17) rfl))) (by decide) (t := .int) (t' := .int) (by decide) (by decide)))
  have f_27 := Fld.other W5 f_23 (Or.inr (slot_ne (Or.inr (hw _ (List.mem_of_getElem? (i := 15) rfl))) (Or.inr (hw _ (List.mem_of_getElem? (i := 17) rfl))) (by decide) (t := .int) (t' := .int) (by decide) (by decide)))
  have f_28 := Fld.other W5 f_20 (Or.inr (slot_ne (Or.inr (hw _ (List.mem_of_getElem? (i := 19) rfl))) (Or.inr (hw _ (List.mem_of_getElem? (i := 17) rfl))) (by decide) (t := (.object "java/lang/String")) (t' := .int) (by decide) (by decide)))
  have f_29 := Fld.other W5 f_21 (Or.inr (slot_ne (Or.inr (hw _ (List.mem_of_getElem? (i := 21) rfl))) (Or.inr (hw _ (List.mem_of_getElem? (i := 17) rfl))) (by decide) (t := (.object "java/util/Map")) (t' := .int) (by decide) (by decide)))
  have f_30 := Fld.other W5 f_22 (Or.inr (slot_ne (Or.inr (hw _ (List.mem_of_getElem? (i := 23) rfl))) (Or.inr (hw _ (List.mem_of_getElem? (i := 17) rfl))) (by decide) (t := (.array .byte)) (t' := .int) (by decide) (by decide)))
  have f_31 := Fld.same W5 f_19
  have Z5 : n0 ≤ h5.size := by rw [W5.size]; exact Z4
  have K5 := K4.wr W5 (Or.inl (List.mem_of_getElem? (i := 0) rfl))
  refine Goes.go (st5) ?_
  show Goes _ _ _ _ _ _ _ (T5.setTop (mkF m 25 _ []))
  refine Goes.go (fun _ kk => XS.aloadN X5.here hx rfl (hb hby d1_25) rfl rfl kk) ?_
  show Goes _ _ _ _ _ _ _ (T5.setTop (mkF m 26 _ [(.ref a)]))
  refine Goes.go (fun _ kk => XS.aload X5.here hx rfl (hb hby d1_26) rfl rfl kk) ?_
  show Goes _ _ _ _ _ _ _ (T5.setTop (mkF m 28 _ [.null, (.ref a)]))
  obtain ⟨T6, h6, X6, e6, W6, st6⟩ := putF X5 hx hZ hown (host := "") (Or.inl (hw _ (List.mem_of_getElem? (i := 18) rfl))) Via.refl e5 f_28 f_24 (Or.inr ⟨(hw _ (List.mem_of_getElem? (i := 19) rfl)), rfl, hnm⟩) (hw _ (List.mem_of_getElem? (i := 1) rfl)) (ty := (.object "java/lang/String")) (by decide) rfl rfl (g := (mkF m 28 #[.val (.ref a), .val (.int p0), .val (.int p1), .val (.int p2), .val (.int p3), .val .null, .val .null, .val (.ref p6)] [.null, (.ref a)])) rfl rfl (hb hby d1_28)
  have N6 := Fr.snoc X6 N5 ga
  have f_32 := Exa.wr W6 f_24
  have f_33 := Fld.other W6 f_25 (Or.inr (slot_ne (Or.inr (hw _ (List.mem_of_getElem? (i := 11) rfl))) (Or.inr (hw _ (List.mem_of_getElem? (i := 19) rfl))) (by decide) (t := .int) (t' := (.object "java/lang/String")) (by decide) (by decide)))
  have f_34 := Fld.other W6 f_26 (Or.inr (slot_ne (Or.inr (hw _ (List.mem_of_getElem? (i := 13) rfl))) (Or.inr (hw _ (List.mem_of_getElem? (i := 19) rfl))) (by decide) (t := .int) (t' := (.object "java/lang/String")) (by decide) (by decide)))
  have f_35 := Fld.other W6 f_27 (Or.inr (slot_ne (Or.inr (hw _ (List.mem_of_getElem? (i := 15) rfl))) (Or.inr (hw _ (List.mem_of_getElem? (i := 19) rfl))) (by decide) (t := .int) (t' := (.object "java/lang/String")) (by decide) (by decide)))
  have f_36 := Fld.other W6 f_31 (Or.inr (slot_ne (Or.inr (hw _ (List.mem_of_getElem? (i := 17) rfl))) (Or.inr (hw _ (List.mem_of_getElem? (i := 19) rfl))) (by decide) (t := .int) (t' := (.object "java/lang/String")) (by decide) (by decide)))
  have f_37 := Fld.other W6 f_29 (Or.inr (slot_ne (Or.inr (hw _ (List.mem_of_getElem? (i := 21) rfl))) (Or.inr (hw _ (List.mem_of_getElem? (i := 19) rfl))) (by decide) (t := (.object "java/util/Map")) (t' := (.object "java/lang/String")) (by decide) (by decide)))
  have f_38 := Fld.other W6 f_30 (Or.inr (slot_ne (Or.inr (hw _ (List.mem_of_getElem? (i := 23) rfl))) (Or.inr (hw _ (List.mem_of_getElem? (i := 19) rfl))) (by decide) (t := (.array .byte)) (t' := (.object "java/lang/String")) (by decide) (by decide)))
  have f_39 := Fld.same W6 f_28
  have Z6 : n0 ≤ h6.size := by rw [W6.size]; exact Z5
  have K6 := K5.wr W6 (Or.inl (List.mem_of_getElem? (i := 0) rfl))
  refine Goes.go (st6) ?_
  show Goes _ _ _ _ _ _ _ (T6.setTop (mkF m 31 _ []))
  refine Goes.go (fun _ kk => XS.aloadN X6.here hx rfl (hb hby d1_31) rfl rfl kk) ?_
  show Goes _ _ _ _ _ _ _ (T6.setTop (mkF m 32 _ [(.ref a)]))
  refine Goes.go (fun _ kk => XS.aload X6.here hx rfl (hb hby d1_32) rfl rfl kk) ?_
  show Goes _ _ _ _ _ _ _ (T6.setTop (mkF m 34 _ [.null, (.ref a)]))
  obtain ⟨T7, h7, X7, e7, W7, st7⟩ := putF X6 hx hZ hown (host := "") (Or.inl (hw _ (List.mem_of_getElem? (i := 20) rfl))) Via.refl e6 f_37 f_32 (Or.inr ⟨(hw _ (List.mem_of_getElem? (i := 21) rfl)), rfl, hnm⟩) (hw _ (List.mem_of_getElem? (i := 1) rfl)) (ty := (.object "java/util/Map")) (by decide) rfl rfl (g := (mkF m 34 #[.val (.ref a), .val (.int p0), .val (.int p1), .val (.int p2), .val (.int p3), .val .null, .val .null, .val (.ref p6)] [.null, (.ref a)])) rfl rfl (hb hby d1_34)
  have N7 := Fr.snoc X7 N6 ga
  have f_40 := Exa.wr W7 f_32
  have f_41 := Fld.other W7 f_33 (Or.inr (slot_ne (Or.inr (hw _ (List.mem_of_getElem? (i := 11) rfl))) (Or.inr (hw _ (List.mem_of_getElem? (i := 21) rfl))) (by decide) (t := .int) (t' := (.object "java/util/Map")) (by decide) (by decide)))
  have f_42 := Fld.other W7 f_34 (Or.inr (slot_ne (Or.inr (hw _ (List.mem_of_getElem? (i := 13) rfl))) (Or.inr (hw _ (List.mem_of_getElem? (i := 21) rfl))) (by decide) (t := .int) (t' := (.object "java/util/Map")) (by decide) (by decide)))
  have f_43 := Fld.other W7 f_35 (Or.inr (slot_ne (Or.inr (hw _ (List.mem_of_getElem? (i := 15) rfl))) (Or.inr (hw _ (List.mem_of_getElem? (i := 21) rfl))) (by decide) (t := .int) (t' := (.object "java/util/Map")) (by decide) (by decide)))
  have f_44 := Fld.other W7 f_36 (Or.inr (slot_ne (Or.inr (hw _ (List.mem_of_getElem? (i := 17) rfl))) (Or.inr (hw _ (List.mem_of_getElem? (i := 21) rfl))) (by decide) (t := .int) (t' := (.object "java/util/Map")) (by decide) (by decide)))
  have f_45 := Fld.other W7 f_39 (Or.inr (slot_ne (Or.inr (hw _ (List.mem_of_getElem? (i := 19) rfl))) (Or.inr (hw _ (List.mem_of_getElem? (i := 21) rfl))) (by decide) (t := (.object "java/lang/String")) (t' := (.object "java/util/Map")) (by decide) (by decide)))
  have f_46 := Fld.other W7 f_38 (Or.inr (slot_ne (Or.inr (hw _ (List.mem_of_getElem? (i := 23) rfl))) (Or.inr (hw _ (List.mem_of_getElem? (i := 21) rfl))) (by decide) (t := (.array .byte)) (t' := (.object "java/util/Map")) (by decide) (by decide)))
  have f_47 := Fld.same W7 f_37
  have Z7 : n0 ≤ h7.size := by rw [W7.size]; exact Z6
  have K7 := K6.wr W7 (Or.inl (List.mem_of_getElem? (i := 0) rfl))
  refine Goes.go (st7) ?_
  show Goes _ _ _ _ _ _ _ (T7.setTop (mkF m 37 _ []))
  refine Goes.go (fun _ kk => XS.aloadN X7.here hx rfl (hb hby d1_37) rfl rfl kk) ?_
  show Goes _ _ _ _ _ _ _ (T7.setTop (mkF m 38 _ [(.ref a)]))
  refine Goes.go (fun _ kk => XS.aload X7.here hx rfl (hb hby d1_38) rfl rfl kk) ?_
  show Goes _ _ _ _ _ _ _ (T7.setTop (mkF m 40 _ [(.ref p6), (.ref a)]))
  obtain ⟨T8, h8, X8, e8, W8, st8⟩ := putF X7 hx hZ hown (host := "") (Or.inl (hw _ (List.mem_of_getElem? (i := 22) rfl))) Via.refl e7 f_46 f_40 (Or.inr ⟨(hw _ (List.mem_of_getElem? (i := 23) rfl)), rfl, hnm⟩) (hw _ (List.mem_of_getElem? (i := 1) rfl)) (ty := (.array .byte)) (by decide) rfl rfl (g := (mkF m 40 #[.val (.ref a), .val (.int p0), .val (.int p1), .val (.int p2), .val (.int p3), .val .null, .val .null, .val (.ref p6)] [(.ref p6), (.ref a)])) rfl rfl (hb hby d1_40)
  have N8 := Fr.snoc X8 N7 ga
  have f_48 := Exa.wr W8 f_40
  have f_49 := Fld.other W8 f_41 (Or.inr (slot_ne (Or.inr (hw _ (List.mem_of_getElem? (i := 11) rfl))) (Or.inr (hw _ (List.mem_of_getElem? (i := 23) rfl))) (by decide) (t := .int) (t' := (.array .byte)) (by decide) (by decide)))
  have f_50 := Fld.other W8 f_42 (Or.inr (slot_ne (Or.inr (hw _ (List.mem_of_getElem? (i := 13) rfl))) (Or.inr (hw _ (List.mem_of_getElem? (i := 23) rfl))) (by decide) (t := .int) (t' := (.array .byte)) (by decide) (by decide)))
  have f_51 := Fld.other W8 f_43 (Or.inr (slot_ne (Or.inr (hw _ (List.mem_of_getElem? (i := 15) rfl))) (Or.inr (hw _ (List.mem_of_getElem? (i := 23) rfl))) (by decide) (t := .int) (t' := (.array .byte)) (by decide) (by decide)))
  have f_52 := Fld.other W8 f_44 (Or.inr (slot_ne (Or.inr (hw _ (List.mem_of_getElem? (i := 17) rfl))) (Or.inr (hw _ (List.mem_of_getElem? (i := 23) rfl))) (by decide) (t := .int) (t' := (.array .byte)) (by decide) (by decide)))
  have f_53 := Fld.other W8 f_45 (Or.inr (slot_ne (Or.inr (hw _ (List.mem_of_getElem? (i := 19) rfl))) (Or.inr (hw _ (List.mem_of_getElem? (i := 23) rfl))) (by decide) (t := (.object "java/lang/String")) (t' := (.array .byte)) (by decide) (by decide)))
  have f_54 := Fld.other W8 f_47 (Or.inr (slot_ne (Or.inr (hw _ (List.mem_of_getElem? (i := 21) rfl))) (Or.inr (hw _ (List.mem_of_getElem? (i := 23) rfl))) (by decide) (t := (.object "java/util/Map")) (t' := (.array .byte)) (by decide) (by decide)))
  have f_55 := Fld.same W8 f_46
  have Z8 : n0 ≤ h8.size := by rw [W8.size]; exact Z7
  have K8 := K7.wr W8 (Or.inl (List.mem_of_getElem? (i := 0) rfl))
  refine Goes.go (st8) ?_
  show Goes _ _ _ _ _ _ _ (T8.setTop (mkF m 43 _ []))
  exact Goes.outV X8 hx hlk hret (hb hby d1_43) e8 ⟨rfl, N8, K8, f_48, f_49, f_50, f_51, f_52, f_53, f_54, f_55⟩ (by decide) (by decide)
theorem ef_rmC2 (m : MethodId) (a : Addr) (p0 : Int32) (p1 : Int32) (p2 : Int32) (p3 : Int32) (p5 : Addr) (p6 : Addr) : entryFrame m #[(.ref a), (.int p0), (.int p1), (.int p2), (.int p3), .null, (.ref p5), (.ref p6)] 8 = mkF m 0 #[.val (.ref a), .val (.int p0), .val (.int p1), .val (.int p2), .val (.int p3), .val .null, .val (.ref p5), .val (.ref p6)] [] := by first | (simp [entryFrame, mkF, argsToLocals, Value.category]; done) | rfl
def Q_rmC2 (Z : State) (a : Addr) (p0 : Int32) (p1 : Int32) (p2 : Int32) (p3 : Int32) (p5 : Addr) (p6 : Addr) (h0 : Heap) (n0 : Nat) (v : Option Value) (h : Heap) (L : List Loc) : Prop := v = none ∧ Fr n0 L ∧ Keep h0 h [a] ∧ Exa Z h a "com/example/xixi/xixi/remoting/RemotingCommand" ∧ Fld Z h a "com/example/xixi/xixi/remoting/RemotingCommand" "code" "I" (.int p0) ∧ Fld Z h a "com/example/xixi/xixi/remoting/RemotingCommand" "version" "I" (.int p1) ∧ Fld Z h a "com/example/xixi/xixi/remoting/RemotingCommand" "opaque" "I" (.int p2) ∧ Fld Z h a "com/example/xixi/xixi/remoting/RemotingCommand" "flag" "I" (.int p3) ∧ Fld Z h a "com/example/xixi/xixi/remoting/RemotingCommand" "remark" "Ljava/lang/String;" .null ∧ Fld Z h a "com/example/xixi/xixi/remoting/RemotingCommand" "extFields" "Ljava/util/Map;" (.ref p5) ∧ Fld Z h a "com/example/xixi/xixi/remoting/RemotingCommand" "body" "[B" (.ref p6)
set_option maxRecDepth 65536 in
set_option maxHeartbeats 40000000 in
theorem rmC2 (l : Launch) (Z : State) (a0 : Array Value) (hw : ∀ d ∈ tables_1, d.before a0 Z = true) (ws : List Jvm.Cond) (a : Addr) (p0 : Int32) (p1 : Int32) (p2 : Int32) (p3 : Int32) (p5 : Addr) (p6 : Addr) (h0 : Heap) (n0 : Nat) (Z0 : n0 ≤ h0.size) (E0 : Exa Z h0 a "com/example/xixi/xixi/remoting/RemotingCommand") (F_code : Fld Z h0 a "com/example/xixi/xixi/remoting/RemotingCommand" "code" "I" (.int (0 : Int32))) (F_version : Fld Z h0 a "com/example/xixi/xixi/remoting/RemotingCommand" "version" "I" (.int (0 : Int32))) (F_opaque : Fld Z h0 a "com/example/xixi/xixi/remoting/RemotingCommand" "opaque" "I" (.int (0 : Int32))) (F_flag : Fld Z h0 a "com/example/xixi/xixi/remoting/RemotingCommand" "flag" "I" (.int (0 : Int32))) (F_remark : Fld Z h0 a "com/example/xixi/xixi/remoting/RemotingCommand" "remark" "Ljava/lang/String;" .null) (F_extFields : Fld Z h0 a "com/example/xixi/xixi/remoting/RemotingCommand" "extFields" "Ljava/util/Map;" .null) (F_body : Fld Z h0 a "com/example/xixi/xixi/remoting/RemotingCommand" "body" "[B" .null) (ga : n0 ≤ a) :
    MetFree l (⟨"com/example/xixi/xixi/remoting/RemotingCommand", "<init>", "(IIIILjava/lang/String;Ljava/util/Map;[B)V"⟩ : MethodName) (head1 (Jvm.Cond.code (⟨"com/example/xixi/xixi/remoting/RemotingCommand", "<init>", "(IIIILjava/lang/String;Ljava/util/Map;[B)V"⟩ : MethodName) prog_2_method_1_code 8 none :: ws) ({ frames := 1, cells := 0, slots := 0, locals := 12 } : Room)) (fun aa U => aa = #[(.ref a), (.int p0), (.int p1), (.int p2), (.int p3), .null, (.ref p5), (.ref p6)] ∧ Z.Warmed39 U.vm ∧ U.heap = h0) (fun _ _ _ _ _ => True) (fun _ U oo U' => ∃ v L, oo = .returned v ∧ Q_rmC2 Z a p0 p1 p2 p3 p5 p6 h0 n0 v U'.heap L ∧ FrameEnd U oo U' L ({ frames := 1, cells := 0, slots := 0, locals := 12 } : Room).cells ({ frames := 1, cells := 0, slots := 0, locals := 12 } : Room).slots) := by
  refine MetFree.of_bodySF (plainFor_of_name pn0) hisR ?_
  intro p e s m args below meth c s₁ Bd hml0 hP hK
  obtain ⟨rfl, hZ, hh⟩ := hP
  have hx := Bd.exec
  have hby := Bd.bytes
  have hml : c.maxLocals = 8 := hml0
  have hown : s.vm.findClass "com/example/xixi/xixi/remoting/RemotingCommand" = some m.cls := findClass_of_methodNamed Bd.named
  have hnm := (name_of_methodNamed Bd.named Bd.method).1
  have hlk : meth.locks = false := Bd.notSynchronized
  have hret := Bd.returns
  have X0 : Stand p l e ({ frames := 1, cells := 0, slots := 0, locals := 12 } : Room) s m #[(.ref a), (.int p0), (.int p1), (.int p2), (.int p3), .null, (.ref p5), (.ref p6)] below meth c s₁ [] 0 0 := Stand.of_body Bd
  have e0 : s₁.heap = h0 := by rw [← hh, Bd.state]; rfl
  have N0 := Fr.nil n0
  have K0 : Keep h0 h0 [a] := Keep.refl _ _
  show Goes p e below s (Q_rmC2 Z a p0 p1 p2 p3 p5 p6 h0 n0) ({ frames := 1, cells := 0, slots := 0, locals := 12 } : Room).cells ({ frames := 1, cells := 0, slots := 0, locals := 12 } : Room).slots _
  refine Goes.go (fun _ kk => castTop (ef_rmC2 m a p0 p1 p2 p3 p5 p6) kk) ?_
  show Goes _ _ _ _ _ _ _ (s₁.setTop (mkF m 0 #[.val (.ref a), .val (.int p0), .val (.int p1), .val (.int p2), .val (.int p3), .val .null, .val (.ref p5), .val (.ref p6)] []))
  refine Goes.go (fun _ kk => XS.aloadN X0.here hx rfl (hb hby d1_0) rfl rfl kk) ?_
  show Goes _ _ _ _ _ _ _ (s₁.setTop (mkF m 1 _ [(.ref a)]))
  obtain ⟨T1, X1, e1, st1⟩ := initO X0 hx hZ hown (hw _ (List.mem_of_getElem? (i := 7) rfl)) (hw _ (List.mem_of_getElem? (i := 8) rfl)) (hw _ (List.mem_of_getElem? (i := 9) rfl)) e0 (g := (mkF m 1 #[.val (.ref a), .val (.int p0), .val (.int p1), .val (.int p2), .val (.int p3), .val .null, .val (.ref p5), .val (.ref p6)] [(.ref a)])) rfl (by rw [hml]; rfl) rfl (hb hby d1_1) (by decide) (W := 0) (by show 2 * 0 + _ ≤ _; exact Nat.le_of_eq rfl) (by decide)
  refine Goes.go (st1) ?_
  show Goes _ _ _ _ _ _ _ (T1.setTop (mkF m 4 _ []))
  refine Goes.go (fun _ kk => XS.aloadN X1.here hx rfl (hb hby d1_4) rfl rfl kk) ?_
  show Goes _ _ _ _ _ _ _ (T1.setTop (mkF m 5 _ [(.ref a)]))
  refine Goes.go (fun _ kk => XS.iloadN X1.here hx rfl (hb hby d1_5) rfl kk) ?_
  show Goes _ _ _ _ _ _ _ (T1.setTop (mkF m 6 _ [(.int p0), (.ref a)]))
  obtain ⟨T2, h2, X2, e2, W2, st2⟩ := putF X1 hx hZ hown (host := "") (Or.inl (hw _ (List.mem_of_getElem? (i := 10) rfl))) Via.refl e1 F_code E0 (Or.inr ⟨(hw _ (List.mem_of_getElem? (i := 11) rfl)), rfl, hnm⟩) (hw _ (List.mem_of_getElem? (i := 1) rfl)) (ty := .int) (by decide) rfl rfl (g := (mkF m 6 #[.val (.ref a), .val (.int p0), .val (.int p1), .val (.int p2), .val (.int p3), .val .null, .val (.ref p5), .val (.ref p6)] [(.int p0), (.ref a)])) rfl rfl (hb hby d1_6)
  have N2 := Fr.snoc X2 N0 ga
  have f := Exa.wr W2 E0
  have f_1 := Fld.other W2 F_version (Or.inr (slot_ne (Or.inr (hw _ (List.mem_of_getElem? (i := 13) rfl))) (Or.inr (hw _ (List.mem_of_getElem? (i := 11) rfl))) (by decide) (t := .int) (t' := .int) (by decide) (by decide)))
  have f_2 := Fld.other W2 F_opaque (Or.inr (slot_ne (Or.inr (hw _ (List.mem_of_getElem? (i := 15) rfl))) (Or.inr (hw _ (List.mem_of_getElem? (i := 11) rfl))) (by decide) (t := .int) (t' := .int) (by decide) (by decide)))
  have f_3 := Fld.other W2 F_flag (Or.inr (slot_ne (Or.inr (hw _ (List.mem_of_getElem? (i := 17) rfl))) (Or.inr (hw _ (List.mem_of_getElem? (i := 11) rfl))) (by decide) (t := .int) (t' := .int) (by decide) (by decide)))
  have f_4 := Fld.other W2 F_remark (Or.inr (slot_ne (Or.inr (hw _ (List.mem_of_getElem? (i := 19) rfl))) (Or.inr (hw _ (List.mem_of_getElem? (i := 11) rfl))) (by decide) (t := (.object "java/lang/String")) (t' := .int) (by decide) (by decide)))
  have f_5 := Fld.other W2 F_extFields (Or.inr (slot_ne (Or.inr (hw _ (List.mem_of_getElem? (i := 21) rfl))) (Or.inr (hw _ (List.mem_of_getElem? (i := 11) rfl))) (by decide) (t := (.object "java/util/Map")) (t' := .int) (by decide) (by decide)))
  have f_6 := Fld.other W2 F_body (Or.inr (slot_ne (Or.inr (hw _ (List.mem_of_getElem? (i := 23) rfl))) (Or.inr (hw _ (List.mem_of_getElem? (i := 11) rfl))) (by decide) (t := (.array .byte)) (t' := .int) (by decide) (by decide)))
  have f_7 := Fld.same W2 F_code
  have Z2 : n0 ≤ h2.size := by rw [W2.size]; exact Z0
  have K2 := K0.wr W2 (Or.inl (List.mem_of_getElem? (i := 0) rfl))
  refine Goes.go (st2) ?_
  show Goes _ _ _ _ _ _ _ (T2.setTop (mkF m 9 _ []))
  refine Goes.go (fun _ kk => XS.aloadN X2.here hx rfl (hb hby d1_9) rfl rfl kk) ?_
  show Goes _ _ _ _ _ _ _ (T2.setTop (mkF m 10 _ [(.ref a)]))
  refine Goes.go (fun _ kk => XS.iloadN X2.here hx rfl (hb hby d1_10) rfl kk) ?_
  show Goes _ _ _ _ _ _ _ (T2.setTop (mkF m 11 _ [(.int p1), (.ref a)]))
  obtain ⟨T3, h3, X3, e3, W3, st3⟩ := putF X2 hx hZ hown (host := "") (Or.inl (hw _ (List.mem_of_getElem? (i := 12) rfl))) Via.refl e2 f_1 f (Or.inr ⟨(hw _ (List.mem_of_getElem? (i := 13) rfl)), rfl, hnm⟩) (hw _ (List.mem_of_getElem? (i := 1) rfl)) (ty := .int) (by decide) rfl rfl (g := (mkF m 11 #[.val (.ref a), .val (.int p0), .val (.int p1), .val (.int p2), .val (.int p3), .val .null, .val (.ref p5), .val (.ref p6)] [(.int p1), (.ref a)])) rfl rfl (hb hby d1_11)
  have N3 := Fr.snoc X3 N2 ga
  have f_8 := Exa.wr W3 f
  have f_9 := Fld.other W3 f_7 (Or.inr (slot_ne (Or.inr (hw _ (List.mem_of_getElem? (i := 11) rfl))) (Or.inr (hw _ (List.mem_of_getElem? (i := 13) rfl))) (by decide) (t := .int) (t' := .int) (by decide) (by decide)))
  have f_10 := Fld.other W3 f_2 (Or.inr (slot_ne (Or.inr (hw _ (List.mem_of_getElem? (i := 15) rfl))) (Or.inr (hw _ (List.mem_of_getElem? (i := 13) rfl))) (by decide) (t := .int) (t' := .int) (by decide) (by decide)))
  have f_11 := Fld.other W3 f_3 (Or.inr (slot_ne (Or.inr (hw _ (List.mem_of_getElem? (i := 17) rfl))) (Or.inr (hw _ (List.mem_of_getElem? (i := 13) rfl))) (by decide) (t := .int) (t' := .int) (by decide) (by decide)))
  have f_12 := Fld.other W3 f_4 (Or.inr (slot_ne (Or.inr (hw _ (List.mem_of_getElem? (i := 19) rfl))) (Or.inr (hw _ (List.mem_of_getElem? (i := 13) rfl))) (by decide) (t := (.object "java/lang/String")) (t' := .int) (by decide) (by decide)))
  have f_13 := Fld.other W3 f_5 (Or.inr (slot_ne (Or.inr (hw _ (List.mem_of_getElem? (i := 21) rfl))) (Or.inr (hw _ (List.mem_of_getElem? (i := 13) rfl))) (by decide) (t := (.object "java/util/Map")) (t' := .int) (by decide) (by decide)))
  have f_14 := Fld.other W3 f_6 (Or.inr (slot_ne (Or.inr (hw _ (List.mem_of_getElem? (i := 23) rfl))) (Or.inr (hw _ (List.mem_of_getElem? (i := 13) rfl))) (by decide) (t := (.array .byte)) (t' := .int) (by decide) (by decide)))
  have f_15 := Fld.same W3 f_1
  have Z3 : n0 ≤ h3.size := by rw [W3.size]; exact Z2
  have K3 := K2.wr W3 (Or.inl (List.mem_of_getElem? (i := 0) rfl))
  refine Goes.go (st3) ?_
  show Goes _ _ _ _ _ _ _ (T3.setTop (mkF m 14 _ []))
  refine Goes.go (fun _ kk => XS.aloadN X3.here hx rfl (hb hby d1_14) rfl rfl kk) ?_
  show Goes _ _ _ _ _ _ _ (T3.setTop (mkF m 15 _ [(.ref a)]))
  refine Goes.go (fun _ kk => XS.iloadN X3.here hx rfl (hb hby d1_15) rfl kk) ?_
  show Goes _ _ _ _ _ _ _ (T3.setTop (mkF m 16 _ [(.int p2), (.ref a)]))
  obtain ⟨T4, h4, X4, e4, W4, st4⟩ := putF X3 hx hZ hown (host := "") (Or.inl (hw _ (List.mem_of_getElem? (i := 14) rfl))) Via.refl e3 f_10 f_8 (Or.inr ⟨(hw _ (List.mem_of_getElem? (i := 15) rfl)), rfl, hnm⟩) (hw _ (List.mem_of_getElem? (i := 1) rfl)) (ty := .int) (by decide) rfl rfl (g := (mkF m 16 #[.val (.ref a), .val (.int p0), .val (.int p1), .val (.int p2), .val (.int p3), .val .null, .val (.ref p5), .val (.ref p6)] [(.int p2), (.ref a)])) rfl rfl (hb hby d1_16)
  have N4 := Fr.snoc X4 N3 ga
  have f_16 := Exa.wr W4 f_8
  have f_17 := Fld.other W4 f_9 (Or.inr (slot_ne (Or.inr (hw _ (List.mem_of_getElem? (i := 11) rfl))) (Or.inr (hw _ (List.mem_of_getElem? (i := 15) rfl))) (by decide) (t := .int) (t' := .int) (by decide) (by decide)))
  have f_18 := Fld.other W4 f_15 (Or.inr (slot_ne (Or.inr (hw _ (List.mem_of_getElem? (i := 13) rfl))) (Or.inr (hw _ (List.mem_of_getElem? (i := 15) rfl))) (by decide) (t := .int) (t' := .int) (by decide) (by decide)))
  have f_19 := Fld.other W4 f_11 (Or.inr (slot_ne (Or.inr (hw _ (List.mem_of_getElem? (i := 17) rfl))) (Or.inr (hw _ (List.mem_of_getElem? (i := 15) rfl))) (by decide) (t := .int) (t' := .int) (by decide) (by decide)))
  have f_20 := Fld.other W4 f_12 (Or.inr (slot_ne (Or.inr (hw _ (List.mem_of_getElem? (i := 19) rfl))) (Or.inr (hw _ (List.mem_of_getElem? (i := 15) rfl))) (by decide) (t := (.object "java/lang/String")) (t' := .int) (by decide) (by decide)))
  have f_21 := Fld.other W4 f_13 (Or.inr (slot_ne (Or.inr (hw _ (List.mem_of_getElem? (i := 21) rfl))) (Or.inr (hw _ (List.mem_of_getElem? (i := 15) rfl))) (by decide) (t := (.object "java/util/Map")) (t' := .int) (by decide) (by decide)))
  have f_22 := Fld.other W4 f_14 (Or.inr (slot_ne (Or.inr (hw _ (List.mem_of_getElem? (i := 23) rfl))) (Or.inr (hw _ (List.mem_of_getElem? (i := 15) rfl))) (by decide) (t := (.array .byte)) (t' := .int) (by decide) (by decide)))
  have f_23 := Fld.same W4 f_10
  have Z4 : n0 ≤ h4.size := by rw [W4.size]; exact Z3
  have K4 := K3.wr W4 (Or.inl (List.mem_of_getElem? (i := 0) rfl))
  refine Goes.go (st4) ?_
  show Goes _ _ _ _ _ _ _ (T4.setTop (mkF m 19 _ []))
  refine Goes.go (fun _ kk => XS.aloadN X4.here hx rfl (hb hby d1_19) rfl rfl kk) ?_
  show Goes _ _ _ _ _ _ _ (T4.setTop (mkF m 20 _ [(.ref a)]))
  refine Goes.go (fun _ kk => XS.iload X4.here hx rfl (hb hby d1_20) rfl kk) ?_
  show Goes _ _ _ _ _ _ _ (T4.setTop (mkF m 22 _ [(.int p3), (.ref a)]))
  obtain ⟨T5, h5, X5, e5, W5, st5⟩ := putF X4 hx hZ hown (host := "") (Or.inl (hw _ (List.mem_of_getElem? (i := 16) rfl))) Via.refl e4 f_19 f_16 (Or.inr ⟨(hw _ (List.mem_of_getElem? (i := 17) rfl)), rfl, hnm⟩) (hw _ (List.mem_of_getElem? (i := 1) rfl)) (ty := .int) (by decide) rfl rfl (g := (mkF m 22 #[.val (.ref a), .val (.int p0), .val (.int p1), .val (.int p2), .val (.int p3), .val .null, .val (.ref p5), .val (.ref p6)] [(.int p3), (.ref a)])) rfl rfl (hb hby d1_22)
  have N5 := Fr.snoc X5 N4 ga
  have f_24 := Exa.wr W5 f_16
  have f_25 := Fld.other W5 f_17 (Or.inr (slot_ne (Or.inr (hw _ (List.mem_of_getElem? (i := 11) rfl))) (Or.inr (hw _ (List.mem_of_getElem? (i := 17) rfl))) (by decide) (t := .int) (t' := .int) (by decide) (by decide)))
  have f_26 := Fld.other W5 f_18 (Or.inr (slot_ne (Or.inr (hw _ (List.mem_of_getElem? (i := 13) rfl))) (Or.inr (hw _ (List.mem_of_getElem? (i := 17) rfl))) (by decide) (t := .int) (t' := .int) (by decide) (by decide)))
  have f_27 := Fld.other W5 f_23 (Or.inr (slot_ne (Or.inr (hw _ (List.mem_of_getElem? (i := 15) rfl))) (Or.inr (hw _ (List.mem_of_getElem? (i := 17) rfl))) (by decide) (t := .int) (t' := .int) (by decide) (by decide)))
  have f_28 := Fld.other W5 f_20 (Or.inr (slot_ne (Or.inr (hw _ (List.mem_of_getElem? (i := 19) rfl))) (Or.inr (hw _ (List.mem_of_getElem? (i := 17) rfl))) (by decide) (t := (.object "java/lang/String")) (t' := .int) (by decide) (by decide)))
  have f_29 := Fld.other W5 f_21 (Or.inr (slot_ne (Or.inr (hw _ (List.mem_of_getElem? (i := 21) rfl))) (Or.inr (hw _ (List.mem_of_getElem? (i := 17) rfl))) (by decide) (t := (.object "java/util/Map")) (t' := .int) (by decide) (by decide)))
  have f_30 := Fld.other W5 f_22 (Or.inr (slot_ne (Or.inr (hw _ (List.mem_of_getElem? (i := 23) rfl))) (Or.inr (hw _ (List.mem_of_getElem? (i := 17) rfl))) (by decide) (t := (.array .byte)) (t' := .int) (by decide) (by decide)))
  have f_31 := Fld.same W5 f_19
  have Z5 : n0 ≤ h5.size := by rw [W5.size]; exact Z4
  have K5 := K4.wr W5 (Or.inl (List.mem_of_getElem? (i := 0) rfl))
  refine Goes.go (st5) ?_
  show Goes _ _ _ _ _ _ _ (T5.setTop (mkF m 25 _ []))
  refine Goes.go (fun _ kk => XS.aloadN X5.here hx rfl (hb hby d1_25) rfl rfl kk) ?_
  show Goes _ _ _ _ _ _ _ (T5.setTop (mkF m 26 _ [(.ref a)]))
  refine Goes.go (fun _ kk => XS.aload X5.here hx rfl (hb hby d1_26) rfl rfl kk) ?_
  show Goes _ _ _ _ _ _ _ (T5.setTop (mkF m 28 _ [.null, (.ref a)]))
  obtain ⟨T6, h6, X6, e6, W6, st6⟩ := putF X5 hx hZ hown (host := "") (Or.inl (hw _ (List.mem_of_getElem? (i := 18) rfl))) Via.refl e5 f_28 f_24 (Or.inr ⟨(hw _ (List.mem_of_getElem? (i := 19) rfl)), rfl, hnm⟩) (hw _ (List.mem_of_getElem? (i := 1) rfl)) (ty := (.object "java/lang/String")) (by decide) rfl rfl (g := (mkF m 28 #[.val (.ref a), .val (.int p0), .val (.int p1), .val (.int p2), .val (.int p3), .val .null, .val (.ref p5), .val (.ref p6)] [.null, (.ref a)])) rfl rfl (hb hby d1_28)
  have N6 := Fr.snoc X6 N5 ga
  have f_32 := Exa.wr W6 f_24
  have f_33 := Fld.other W6 f_25 (Or.inr (slot_ne (Or.inr (hw _ (List.mem_of_getElem? (i := 11) rfl))) (Or.inr (hw _ (List.mem_of_getElem? (i := 19) rfl))) (by decide) (t := .int) (t' := (.object "java/lang/String")) (by decide) (by decide)))
  have f_34 := Fld.other W6 f_26 (Or.inr (slot_ne (Or.inr (hw _ (List.mem_of_getElem? (i := 13) rfl))) (Or.inr (hw _ (List.mem_of_getElem? (i := 19) rfl))) (by decide) (t := .int) (t' := (.object "java/lang/String")) (by decide) (by decide)))
  have f_35 := Fld.other W6 f_27 (Or.inr (slot_ne (Or.inr (hw _ (List.mem_of_getElem? (i := 15) rfl))) (Or.inr (hw _ (List.mem_of_getElem? (i := 19) rfl))) (by decide) (t := .int) (t' := (.object "java/lang/String")) (by decide) (by decide)))
  have f_36 := Fld.other W6 f_31 (Or.inr (slot_ne (Or.inr (hw _ (List.mem_of_getElem? (i := 17) rfl))) (Or.inr (hw _ (List.mem_of_getElem? (i := 19) rfl))) (by decide) (t := .int) (t' := (.object "java/lang/String")) (by decide) (by decide)))
  have f_37 := Fld.other W6 f_29 (Or.inr (slot_ne (Or.inr (hw _ (List.mem_of_getElem? (i := 21) rfl))) (Or.inr (hw _ (List.mem_of_getElem? (i := 19) rfl))) (by decide) (t := (.object "java/util/Map")) (t' := (.object "java/lang/String")) (by decide) (by decide)))
  have f_38 := Fld.other W6 f_30 (Or.inr (slot_ne (Or.inr (hw _ (List.mem_of_getElem? (i := 23) rfl))) (Or.inr (hw _ (List.mem_of_getElem? (i := 19) rfl))) (by decide) (t := (.array .byte)) (t' := (.object "java/lang/String")) (by decide) (by decide)))
  have f_39 := Fld.same W6 f_28
  have Z6 : n0 ≤ h6.size := by rw [W6.size]; exact Z5
  have K6 := K5.wr W6 (Or.inl (List.mem_of_getElem? (i := 0) rfl))
  refine Goes.go (st6) ?_
  show Goes _ _ _ _ _ _ _ (T6.setTop (mkF m 31 _ []))
  refine Goes.go (fun _ kk => XS.aloadN X6.here hx rfl (hb hby d1_31) rfl rfl kk) ?_
  show Goes _ _ _ _ _ _ _ (T6.setTop (mkF m 32 _ [(.ref a)]))
  refine Goes.go (fun _ kk => XS.aload X6.here hx rfl (hb hby d1_32) rfl rfl kk) ?_
  show Goes _ _ _ _ _ _ _ (T6.setTop (mkF m 34 _ [(.ref p5), (.ref a)]))
  obtain ⟨T7, h7, X7, e7, W7, st7⟩ := putF X6 hx hZ hown (host := "") (Or.inl (hw _ (List.mem_of_getElem? (i := 20) rfl))) Via.refl e6 f_37 f_32 (Or.inr ⟨(hw _ (List.mem_of_getElem? (i := 21) rfl)), rfl, hnm⟩) (hw _ (List.mem_of_getElem? (i := 1) rfl)) (ty := (.object "java/util/Map")) (by decide) rfl rfl (g := (mkF m 34 #[.val (.ref a), .val (.int p0), .val (.int p1), .val (.int p2), .val (.int p3), .val .null, .val (.ref p5), .val (.ref p6)] [(.ref p5), (.ref a)])) rfl rfl (hb hby d1_34)
  have N7 := Fr.snoc X7 N6 ga
  have f_40 := Exa.wr W7 f_32
  have f_41 := Fld.other W7 f_33 (Or.inr (slot_ne (Or.inr (hw _ (List.mem_of_getElem? (i := 11) rfl))) (Or.inr (hw _ (List.mem_of_getElem? (i := 21) rfl))) (by decide) (t := .int) (t' := (.object "java/util/Map")) (by decide) (by decide)))
  have f_42 := Fld.other W7 f_34 (Or.inr (slot_ne (Or.inr (hw _ (List.mem_of_getElem? (i := 13) rfl))) (Or.inr (hw _ (List.mem_of_getElem? (i := 21) rfl))) (by decide) (t := .int) (t' := (.object "java/util/Map")) (by decide) (by decide)))
  have f_43 := Fld.other W7 f_35 (Or.inr (slot_ne (Or.inr (hw _ (List.mem_of_getElem? (i := 15) rfl))) (Or.inr (hw _ (List.mem_of_getElem? (i := 21) rfl))) (by decide) (t := .int) (t' := (.object "java/util/Map")) (by decide) (by decide)))
  have f_44 := Fld.other W7 f_36 (Or.inr (slot_ne (Or.inr (hw _ (List.mem_of_getElem? (i := 17) rfl))) (Or.inr (hw _ (List.mem_of_getElem? (i := 21) rfl))) (by decide) (t := .int) (t' := (.object "java/util/Map")) (by decide) (by decide)))
  have f_45 := Fld.other W7 f_39 (Or.inr (slot_ne (Or.inr (hw _ (List.mem_of_getElem? (i := 19) rfl))) (Or.inr (hw _ (List.mem_of_getElem? (i := 21) rfl))) (by decide) (t := (.object "java/lang/String")) (t' := (.object "java/util/Map")) (by decide) (by decide)))
  have f_46 := Fld.other W7 f_38 (Or.inr (slot_ne (Or.inr (hw _ (List.mem_of_getElem? (i := 23) rfl))) (Or.inr (hw _ (List.mem_of_getElem? (i := 21) rfl))) (by decide) (t := (.array .byte)) (t' := (.object "java/util/Map")) (by decide) (by decide)))
  have f_47 := Fld.same W7 f_37
  have Z7 : n0 ≤ h7.size := by rw [W7.size]; exact Z6
  have K7 := K6.wr W7 (Or.inl (List.mem_of_getElem? (i := 0) rfl))
  refine Goes.go (st7) ?_
  show Goes _ _ _ _ _ _ _ (T7.setTop (mkF m 37 _ []))
  refine Goes.go (fun _ kk => XS.aloadN X7.here hx rfl (hb hby d1_37) rfl rfl kk) ?_
  show Goes _ _ _ _ _ _ _ (T7.setTop (mkF m 38 _ [(.ref a)]))
  refine Goes.go (fun _ kk => XS.aload X7.here hx rfl (hb hby d1_38) rfl rfl kk) ?_
  show Goes _ _ _ _ _ _ _ (T7.setTop (mkF m 40 _ [(.ref p6), (.ref a)]))
  obtain ⟨T8, h8, X8, e8, W8, st8⟩ := putF X7 hx hZ hown (host := "") (Or.inl (hw _ (List.mem_of_getElem? (i := 22) rfl))) Via.refl e7 f_46 f_40 (Or.inr ⟨(hw _ (List.mem_of_getElem? (i := 23) rfl)), rfl, hnm⟩) (hw _ (List.mem_of_getElem? (i := 1) rfl)) (ty := (.array .byte)) (by decide) rfl rfl (g := (mkF m 40 #[.val (.ref a), .val (.int p0), .val (.int p1), .val (.int p2), .val (.int p3), .val .null, .val (.ref p5), .val (.ref p6)] [(.ref p6), (.ref a)])) rfl rfl (hb hby d1_40)
  have N8 := Fr.snoc X8 N7 ga
  have f_48 := Exa.wr W8 f_40
  have f_49 := Fld.other W8 f_41 (Or.inr (slot_ne (Or.inr (hw _ (List.mem_of_getElem? (i := 11) rfl))) (Or.inr (hw _ (List.mem_of_getElem? (i := 23) rfl))) (by decide) (t := .int) (t' := (.array .byte)) (by decide) (by decide)))
  have f_50 := Fld.other W8 f_42 (Or.inr (slot_ne (Or.inr (hw _ (List.mem_of_getElem? (i := 13) rfl))) (Or.inr (hw _ (List.mem_of_getElem? (i := 23) rfl))) (by decide) (t := .int) (t' := (.array .byte)) (by decide) (by decide)))
  have f_51 := Fld.other W8 f_43 (Or.inr (slot_ne (Or.inr (hw _ (List.mem_of_getElem? (i := 15) rfl))) (Or.inr (hw _ (List.mem_of_getElem? (i := 23) rfl))) (by decide) (t := .int) (t' := (.array .byte)) (by decide) (by decide)))
  have f_52 := Fld.other W8 f_44 (Or.inr (slot_ne (Or.inr (hw _ (List.mem_of_getElem? (i := 17) rfl))) (Or.inr (hw _ (List.mem_of_getElem? (i := 23) rfl))) (by decide) (t := .int) (t' := (.array .byte)) (by decide) (by decide)))
  have f_53 := Fld.other W8 f_45 (Or.inr (slot_ne (Or.inr (hw _ (List.mem_of_getElem? (i := 19) rfl))) (Or.inr (hw _ (List.mem_of_getElem? (i := 23) rfl))) (by decide) (t := (.object "java/lang/String")) (t' := (.array .byte)) (by decide) (by decide)))
  have f_54 := Fld.other W8 f_47 (Or.inr (slot_ne (Or.inr (hw _ (List.mem_of_getElem? (i := 21) rfl))) (Or.inr (hw _ (List.mem_of_getElem? (i := 23) rfl))) (by decide) (t := (.object "java/util/Map")) (t' := (.array .byte)) (by decide) (by decide)))
  have f_55 := Fld.same W8 f_46
  have Z8 : n0 ≤ h8.size := by rw [W8.size]; exact Z7
  have K8 := K7.wr W8 (Or.inl (List.mem_of_getElem? (i := 0) rfl))
  refine Goes.go (st8) ?_
  show Goes _ _ _ _ _ _ _ (T8.setTop (mkF m 43 _ []))
  exact Goes.outV X8 hx hlk hret (hb hby d1_43) e8 ⟨rfl, N8, K8, f_48, f_49, f_50, f_51, f_52, f_53, f_54, f_55⟩ (by decide) (by decide)
theorem ef_rmC3 (m : MethodId) (a : Addr) (p0 : Int32) (p1 : Int32) (p2 : Int32) (p3 : Int32) (p5 : Addr) : entryFrame m #[(.ref a), (.int p0), (.int p1), (.int p2), (.int p3), .null, (.ref p5), .null] 8 = mkF m 0 #[.val (.ref a), .val (.int p0), .val (.int p1), .val (.int p2), .val (.int p3), .val .null, .val (.ref p5), .val .null] [] := by first | (simp [entryFrame, mkF, argsToLocals, Value.category]; done) | rfl
def Q_rmC3 (Z : State) (a : Addr) (p0 : Int32) (p1 : Int32) (p2 : Int32) (p3 : Int32) (p5 : Addr) (h0 : Heap) (n0 : Nat) (v : Option Value) (h : Heap) (L : List Loc) : Prop := v = none ∧ Fr n0 L ∧ Keep h0 h [a] ∧ Exa Z h a "com/example/xixi/xixi/remoting/RemotingCommand" ∧ Fld Z h a "com/example/xixi/xixi/remoting/RemotingCommand" "code" "I" (.int p0) ∧ Fld Z h a "com/example/xixi/xixi/remoting/RemotingCommand" "version" "I" (.int p1) ∧ Fld Z h a "com/example/xixi/xixi/remoting/RemotingCommand" "opaque" "I" (.int p2) ∧ Fld Z h a "com/example/xixi/xixi/remoting/RemotingCommand" "flag" "I" (.int p3) ∧ Fld Z h a "com/example/xixi/xixi/remoting/RemotingCommand" "remark" "Ljava/lang/String;" .null ∧ Fld Z h a "com/example/xixi/xixi/remoting/RemotingCommand" "extFields" "Ljava/util/Map;" (.ref p5) ∧ Fld Z h a "com/example/xixi/xixi/remoting/RemotingCommand" "body" "[B" .null
set_option maxRecDepth 65536 in
set_option maxHeartbeats 40000000 in
theorem rmC3 (l : Launch) (Z : State) (a0 : Array Value) (hw : ∀ d ∈ tables_1, d.before a0 Z = true) (ws : List Jvm.Cond) (a : Addr) (p0 : Int32) (p1 : Int32) (p2 : Int32) (p3 : Int32) (p5 : Addr) (h0 : Heap) (n0 : Nat) (Z0 : n0 ≤ h0.size) (E0 : Exa Z h0 a "com/example/xixi/xixi/remoting/RemotingCommand") (F_code : Fld Z h0 a "com/example/xixi/xixi/remoting/RemotingCommand" "code" "I" (.int (0 : Int32))) (F_version : Fld Z h0 a "com/example/xixi/xixi/remoting/RemotingCommand" "version" "I" (.int (0 : Int32))) (F_opaque : Fld Z h0 a "com/example/xixi/xixi/remoting/RemotingCommand" "opaque" "I" (.int (0 : Int32))) (F_flag : Fld Z h0 a "com/example/xixi/xixi/remoting/RemotingCommand" "flag" "I" (.int (0 : Int32))) (F_remark : Fld Z h0 a "com/example/xixi/xixi/remoting/RemotingCommand" "remark" "Ljava/lang/String;" .null) (F_extFields : Fld Z h0 a "com/example/xixi/xixi/remoting/RemotingCommand" "extFields" "Ljava/util/Map;" .null) (F_body : Fld Z h0 a "com/example/xixi/xixi/remoting/RemotingCommand" "body" "[B" .null) (ga : n0 ≤ a) :
    MetFree l (⟨"com/example/xixi/xixi/remoting/RemotingCommand", "<init>", "(IIIILjava/lang/String;Ljava/util/Map;[B)V"⟩ : MethodName) (head1 (Jvm.Cond.code (⟨"com/example/xixi/xixi/remoting/RemotingCommand", "<init>", "(IIIILjava/lang/String;Ljava/util/Map;[B)V"⟩ : MethodName) prog_2_method_1_code 8 none :: ws) ({ frames := 1, cells := 0, slots := 0, locals := 12 } : Room)) (fun aa U => aa = #[(.ref a), (.int p0), (.int p1), (.int p2), (.int p3), .null, (.ref p5), .null] ∧ Z.Warmed39 U.vm ∧ U.heap = h0) (fun _ _ _ _ _ => True) (fun _ U oo U' => ∃ v L, oo = .returned v ∧ Q_rmC3 Z a p0 p1 p2 p3 p5 h0 n0 v U'.heap L ∧ FrameEnd U oo U' L ({ frames := 1, cells := 0, slots := 0, locals := 12 } : Room).cells ({ frames := 1, cells := 0, slots := 0, locals := 12 } : Room).slots) := by
  refine MetFree.of_bodySF (plainFor_of_name pn0) hisR ?_
  intro p e s m args below meth c s₁ Bd hml0 hP hK
  obtain ⟨rfl, hZ, hh⟩ := hP
  have hx := Bd.exec
  have hby := Bd.bytes
  have hml : c.maxLocals = 8 := hml0
  have hown : s.vm.findClass "com/example/xixi/xixi/remoting/RemotingCommand" = some m.cls := findClass_of_methodNamed Bd.named
  have hnm := (name_of_methodNamed Bd.named Bd.method).1
  have hlk : meth.locks = false := Bd.notSynchronized
  have hret := Bd.returns
  have X0 : Stand p l e ({ frames := 1, cells := 0, slots := 0, locals := 12 } : Room) s m #[(.ref a), (.int p0), (.int p1), (.int p2), (.int p3), .null, (.ref p5), .null] below meth c s₁ [] 0 0 := Stand.of_body Bd
  have e0 : s₁.heap = h0 := by rw [← hh, Bd.state]; rfl
  have N0 := Fr.nil n0
  have K0 : Keep h0 h0 [a] := Keep.refl _ _
  show Goes p e below s (Q_rmC3 Z a p0 p1 p2 p3 p5 h0 n0) ({ frames := 1, cells := 0, slots := 0, locals := 12 } : Room).cells ({ frames := 1, cells := 0, slots := 0, locals := 12 } : Room).slots _
  refine Goes.go (fun _ kk => castTop (ef_rmC3 m a p0 p1 p2 p3 p5) kk) ?_
  show Goes _ _ _ _ _ _ _ (s₁.setTop (mkF m 0 #[.val (.ref a), .val (.int p0), .val (.int p1), .val (.int p2), .val (.int p3), .val .null, .val (.ref p5), .val .null] []))
  refine Goes.go (fun _ kk => XS.aloadN X0.here hx rfl (hb hby d1_0) rfl rfl kk) ?_
  show Goes _ _ _ _ _ _ _ (s₁.setTop (mkF m 1 _ [(.ref a)]))
  obtain ⟨T1, X1, e1, st1⟩ := initO X0 hx hZ hown (hw _ (List.mem_of_getElem? (i := 7) rfl)) (hw _ (List.mem_of_getElem? (i := 8) rfl)) (hw _ (List.mem_of_getElem? (i := 9) rfl)) e0 (g := (mkF m 1 #[.val (.ref a), .val (.int p0), .val (.int p1), .val (.int p2), .val (.int p3), .val .null, .val (.ref p5), .val .null] [(.ref a)])) rfl (by rw [hml]; rfl) rfl (hb hby d1_1) (by decide) (W := 0) (by show 2 * 0 + _ ≤ _; exact Nat.le_of_eq rfl) (by decide)
  refine Goes.go (st1) ?_
  show Goes _ _ _ _ _ _ _ (T1.setTop (mkF m 4 _ []))
  refine Goes.go (fun _ kk => XS.aloadN X1.here hx rfl (hb hby d1_4) rfl rfl kk) ?_
  show Goes _ _ _ _ _ _ _ (T1.setTop (mkF m 5 _ [(.ref a)]))
  refine Goes.go (fun _ kk => XS.iloadN X1.here hx rfl (hb hby d1_5) rfl kk) ?_
  show Goes _ _ _ _ _ _ _ (T1.setTop (mkF m 6 _ [(.int p0), (.ref a)]))
  obtain ⟨T2, h2, X2, e2, W2, st2⟩ := putF X1 hx hZ hown (host := "") (Or.inl (hw _ (List.mem_of_getElem? (i := 10) rfl))) Via.refl e1 F_code E0 (Or.inr ⟨(hw _ (List.mem_of_getElem? (i := 11) rfl)), rfl, hnm⟩) (hw _ (List.mem_of_getElem? (i := 1) rfl)) (ty := .int) (by decide) rfl rfl (g := (mkF m 6 #[.val (.ref a), .val (.int p0), .val (.int p1), .val (.int p2), .val (.int p3), .val .null, .val (.ref p5), .val .null] [(.int p0), (.ref a)])) rfl rfl (hb hby d1_6)
  have N2 := Fr.snoc X2 N0 ga
  have f := Exa.wr W2 E0
  have f_1 := Fld.other W2 F_version (Or.inr (slot_ne (Or.inr (hw _ (List.mem_of_getElem? (i := 13) rfl))) (Or.inr (hw _ (List.mem_of_getElem? (i := 11) rfl))) (by decide) (t := .int) (t' := .int) (by decide) (by decide)))
  have f_2 := Fld.other W2 F_opaque (Or.inr (slot_ne (Or.inr (hw _ (List.mem_of_getElem? (i := 15) rfl))) (Or.inr (hw _ (List.mem_of_getElem? (i := 11) rfl))) (by decide) (t := .int) (t' := .int) (by decide) (by decide)))
  have f_3 := Fld.other W2 F_flag (Or.inr (slot_ne (Or.inr (hw _ (List.mem_of_getElem? (i := 17) rfl))) (Or.inr (hw _ (List.mem_of_getElem? (i := 11) rfl))) (by decide) (t := .int) (t' := .int) (by decide) (by decide)))
  have f_4 := Fld.other W2 F_remark (Or.inr (slot_ne (Or.inr (hw _ (List.mem_of_getElem? (i := 19) rfl))) (Or.inr (hw _ (List.mem_of_getElem? (i := 11) rfl))) (by decide) (t := (.object "java/lang/String")) (t' := .int) (by decide) (by decide)))
  have f_5 := Fld.other W2 F_extFields (Or.inr (slot_ne (Or.inr (hw _ (List.mem_of_getElem? (i := 21) rfl))) (Or.inr (hw _ (List.mem_of_getElem? (i := 11) rfl))) (by decide) (t := (.object "java/util/Map")) (t' := .int) (by decide) (by decide)))
  have f_6 := Fld.other W2 F_body (Or.inr (slot_ne (Or.inr (hw _ (List.mem_of_getElem? (i := 23) rfl))) (Or.inr (hw _ (List.mem_of_getElem? (i := 11) rfl))) (by decide) (t := (.array .byte)) (t' := .int) (by decide) (by decide)))
  have f_7 := Fld.same W2 F_code
  have Z2 : n0 ≤ h2.size := by rw [W2.size]; exact Z0
  have K2 := K0.wr W2 (Or.inl (List.mem_of_getElem? (i := 0) rfl))
  refine Goes.go (st2) ?_
  show Goes _ _ _ _ _ _ _ (T2.setTop (mkF m 9 _ []))
  refine Goes.go (fun _ kk => XS.aloadN X2.here hx rfl (hb hby d1_9) rfl rfl kk) ?_
  show Goes _ _ _ _ _ _ _ (T2.setTop (mkF m 10 _ [(.ref a)]))
  refine Goes.go (fun _ kk => XS.iloadN X2.here hx rfl (hb hby d1_10) rfl kk) ?_
  show Goes _ _ _ _ _ _ _ (T2.setTop (mkF m 11 _ [(.int p1), (.ref a)]))
  obtain ⟨T3, h3, X3, e3, W3, st3⟩ := putF X2 hx hZ hown (host := "") (Or.inl (hw _ (List.mem_of_getElem? (i := 12) rfl))) Via.refl e2 f_1 f (Or.inr ⟨(hw _ (List.mem_of_getElem? (i := 13) rfl)), rfl, hnm⟩) (hw _ (List.mem_of_getElem? (i := 1) rfl)) (ty := .int) (by decide) rfl rfl (g := (mkF m 11 #[.val (.ref a), .val (.int p0), .val (.int p1), .val (.int p2), .val (.int p3), .val .null, .val (.ref p5), .val .null] [(.int p1), (.ref a)])) rfl rfl (hb hby d1_11)
  have N3 := Fr.snoc X3 N2 ga
  have f_8 := Exa.wr W3 f
  have f_9 := Fld.other W3 f_7 (Or.inr (slot_ne (Or.inr (hw _ (List.mem_of_getElem? (i := 11) rfl))) (Or.inr (hw _ (List.mem_of_getElem? (i := 13) rfl))) (by decide) (t := .int) (t' := .int) (by decide) (by decide)))
  have f_10 := Fld.other W3 f_2 (Or.inr (slot_ne (Or.inr (hw _ (List.mem_of_getElem? (i := 15) rfl))) (Or.inr (hw _ (List.mem_of_getElem? (i := 13) rfl))) (by decide) (t := .int) (t' := .int) (by decide) (by decide)))
  have f_11 := Fld.other W3 f_3 (Or.inr (slot_ne (Or.inr (hw _ (List.mem_of_getElem? (i := 17) rfl))) (Or.inr (hw _ (List.mem_of_getElem? (i := 13) rfl))) (by decide) (t := .int) (t' := .int) (by decide) (by decide)))
  have f_12 := Fld.other W3 f_4 (Or.inr (slot_ne (Or.inr (hw _ (List.mem_of_getElem? (i := 19) rfl))) (Or.inr (hw _ (List.mem_of_getElem? (i := 13) rfl))) (by decide) (t := (.object "java/lang/String")) (t' := .int) (by decide) (by decide)))
  have f_13 := Fld.other W3 f_5 (Or.inr (slot_ne (Or.inr (hw _ (List.mem_of_getElem? (i := 21) rfl))) (Or.inr (hw _ (List.mem_of_getElem? (i := 13) rfl))) (by decide) (t := (.object "java/util/Map")) (t' := .int) (by decide) (by decide)))
  have f_14 := Fld.other W3 f_6 (Or.inr (slot_ne (Or.inr (hw _ (List.mem_of_getElem? (i := 23) rfl))) (Or.inr (hw _ (List.mem_of_getElem? (i := 13) rfl))) (by decide) (t := (.array .byte)) (t' := .int) (by decide) (by decide)))
  have f_15 := Fld.same W3 f_1
  have Z3 : n0 ≤ h3.size := by rw [W3.size]; exact Z2
  have K3 := K2.wr W3 (Or.inl (List.mem_of_getElem? (i := 0) rfl))
  refine Goes.go (st3) ?_
  show Goes _ _ _ _ _ _ _ (T3.setTop (mkF m 14 _ []))
  refine Goes.go (fun _ kk => XS.aloadN X3.here hx rfl (hb hby d1_14) rfl rfl kk) ?_
  show Goes _ _ _ _ _ _ _ (T3.setTop (mkF m 15 _ [(.ref a)]))
  refine Goes.go (fun _ kk => XS.iloadN X3.here hx rfl (hb hby d1_15) rfl kk) ?_
  show Goes _ _ _ _ _ _ _ (T3.setTop (mkF m 16 _ [(.int p2), (.ref a)]))
  obtain ⟨T4, h4, X4, e4, W4, st4⟩ := putF X3 hx hZ hown (host := "") (Or.inl (hw _ (List.mem_of_getElem? (i := 14) rfl))) Via.refl e3 f_10 f_8 (Or.inr ⟨(hw _ (List.mem_of_getElem? (i := 15) rfl)), rfl, hnm⟩) (hw _ (List.mem_of_getElem? (i := 1) rfl)) (ty := .int) (by decide) rfl rfl (g := (mkF m 16 #[.val (.ref a), .val (.int p0), .val (.int p1), .val (.int p2), .val (.int p3), .val .null, .val (.ref p5), .val .null] [(.int p2), (.ref a)])) rfl rfl (hb hby d1_16)
  have N4 := Fr.snoc X4 N3 ga
  have f_16 := Exa.wr W4 f_8
  have f_17 := Fld.other W4 f_9 (Or.inr (slot_ne (Or.inr (hw _ (List.mem_of_getElem? (i := 11) rfl))) (Or.inr (hw _ (List.mem_of_getElem? (i := 15) rfl))) (by decide) (t := .int) (t' := .int) (by decide) (by decide)))
  have f_18 := Fld.other W4 f_15 (Or.inr (slot_ne (Or.inr (hw _ (List.mem_of_getElem? (i := 13) rfl))) (Or.inr (hw _ (List.mem_of_getElem? (i := 15) rfl))) (by decide) (t := .int) (t' := .int) (by decide) (by decide)))
  have f_19 := Fld.other W4 f_11 (Or.inr (slot_ne (Or.inr (hw _ (List.mem_of_getElem? (i := 17) rfl))) (Or.inr (hw _ (List.mem_of_getElem? (i := 15) rfl))) (by decide) (t := .int) (t' := .int) (by decide) (by decide)))
  have f_20 := Fld.other W4 f_12 (Or.inr (slot_ne (Or.inr (hw _ (List.mem_of_getElem? (i := 19) rfl))) (Or.inr (hw _ (List.mem_of_getElem? (i := 15) rfl))) (by decide) (t := (.object "java/lang/String")) (t' := .int) (by decide) (by decide)))
  have f_21 := Fld.other W4 f_13 (Or.inr (slot_ne (Or.inr (hw _ (List.mem_of_getElem? (i := 21) rfl))) (Or.inr (hw _ (List.mem_of_getElem? (i := 15) rfl))) (by decide) (t := (.object "java/util/Map")) (t' := .int) (by decide) (by decide)))
  have f_22 := Fld.other W4 f_14 (Or.inr (slot_ne (Or.inr (hw _ (List.mem_of_getElem? (i := 23) rfl))) (Or.inr (hw _ (List.mem_of_getElem? (i := 15) rfl))) (by decide) (t := (.array .byte)) (t' := .int) (by decide) (by decide)))
  have f_23 := Fld.same W4 f_10
  have Z4 : n0 ≤ h4.size := by rw [W4.size]; exact Z3
  have K4 := K3.wr W4 (Or.inl (List.mem_of_getElem? (i := 0) rfl))
  refine Goes.go (st4) ?_
  show Goes _ _ _ _ _ _ _ (T4.setTop (mkF m 19 _ []))
  refine Goes.go (fun _ kk => XS.aloadN X4.here hx rfl (hb hby d1_19) rfl rfl kk) ?_
  show Goes _ _ _ _ _ _ _ (T4.setTop (mkF m 20 _ [(.ref a)]))
  refine Goes.go (fun _ kk => XS.iload X4.here hx rfl (hb hby d1_20) rfl kk) ?_
  show Goes _ _ _ _ _ _ _ (T4.setTop (mkF m 22 _ [(.int p3), (.ref a)]))
  obtain ⟨T5, h5, X5, e5, W5, st5⟩ := putF X4 hx hZ hown (host := "") (Or.inl (hw _ (List.mem_of_getElem? (i := 16) rfl))) Via.refl e4 f_19 f_16 (Or.inr ⟨(hw _ (List.mem_of_getElem? (i := 17) rfl)), rfl, hnm⟩) (hw _ (List.mem_of_getElem? (i := 1) rfl)) (ty := .int) (by decide) rfl rfl (g := (mkF m 22 #[.val (.ref a), .val (.int p0), .val (.int p1), .val (.int p2), .val (.int p3), .val .null, .val (.ref p5), .val .null] [(.int p3), (.ref a)])) rfl rfl (hb hby d1_22)
  have N5 := Fr.snoc X5 N4 ga
  have f_24 := Exa.wr W5 f_16
  have f_25 := Fld.other W5 f_17 (Or.inr (slot_ne (Or.inr (hw _ (List.mem_of_getElem? (i := 11) rfl))) (Or.inr (hw _ (List.mem_of_getElem? (i := 17) rfl))) (by decide) (t := .int) (t' := .int) (by decide) (by decide)))
  have f_26 := Fld.other W5 f_18 (Or.inr (slot_ne (Or.inr (hw _ (List.mem_of_getElem? (i := 13) rfl))) (Or.inr (hw _ (List.mem_of_getElem? (i := 17) rfl))) (by decide) (t := .int) (t' := .int) (by decide) (by decide)))
  have f_27 := Fld.other W5 f_23 (Or.inr (slot_ne (Or.inr (hw _ (List.mem_of_getElem? (i := 15) rfl))) (Or.inr (hw _ (List.mem_of_getElem? (i := 17) rfl))) (by decide) (t := .int) (t' := .int) (by decide) (by decide)))
  have f_28 := Fld.other W5 f_20 (Or.inr (slot_ne (Or.inr (hw _ (List.mem_of_getElem? (i := 19) rfl))) (Or.inr (hw _ (List.mem_of_getElem? (i := 17) rfl))) (by decide) (t := (.object "java/lang/String")) (t' := .int) (by decide) (by decide)))
  have f_29 := Fld.other W5 f_21 (Or.inr (slot_ne (Or.inr (hw _ (List.mem_of_getElem? (i := 21) rfl))) (Or.inr (hw _ (List.mem_of_getElem? (i := 17) rfl))) (by decide) (t := (.object "java/util/Map")) (t' := .int) (by decide) (by decide)))
  have f_30 := Fld.other W5 f_22 (Or.inr (slot_ne (Or.inr (hw _ (List.mem_of_getElem? (i := 23) rfl))) (Or.inr (hw _ (List.mem_of_getElem? (i := 17) rfl))) (by decide) (t := (.array .byte)) (t' := .int) (by decide) (by decide)))
  have f_31 := Fld.same W5 f_19
  have Z5 : n0 ≤ h5.size := by rw [W5.size]; exact Z4
  have K5 := K4.wr W5 (Or.inl (List.mem_of_getElem? (i := 0) rfl))
  refine Goes.go (st5) ?_
  show Goes _ _ _ _ _ _ _ (T5.setTop (mkF m 25 _ []))
  refine Goes.go (fun _ kk => XS.aloadN X5.here hx rfl (hb hby d1_25) rfl rfl kk) ?_
  show Goes _ _ _ _ _ _ _ (T5.setTop (mkF m 26 _ [(.ref a)]))
  refine Goes.go (fun _ kk => XS.aload X5.here hx rfl (hb hby d1_26) rfl rfl kk) ?_
  show Goes _ _ _ _ _ _ _ (T5.setTop (mkF m 28 _ [.null, (.ref a)]))
  obtain ⟨T6, h6, X6, e6, W6, st6⟩ := putF X5 hx hZ hown (host := "") (Or.inl (hw _ (List.mem_of_getElem? (i := 18) rfl))) Via.refl e5 f_28 f_24 (Or.inr ⟨(hw _ (List.mem_of_getElem? (i := 19) rfl)), rfl, hnm⟩) (hw _ (List.mem_of_getElem? (i := 1) rfl)) (ty := (.object "java/lang/String")) (by decide) rfl rfl (g := (mkF m 28 #[.val (.ref a), .val (.int p0), .val (.int p1), .val (.int p2), .val (.int p3), .val .null, .val (.ref p5), .val .null] [.null, (.ref a)])) rfl rfl (hb hby d1_28)
  have N6 := Fr.snoc X6 N5 ga
  have f_32 := Exa.wr W6 f_24
  have f_33 := Fld.other W6 f_25 (Or.inr (slot_ne (Or.inr (hw _ (List.mem_of_getElem? (i := 11) rfl))) (Or.inr (hw _ (List.mem_of_getElem? (i := 19) rfl))) (by decide) (t := .int) (t' := (.object "java/lang/String")) (by decide) (by decide)))
  have f_34 := Fld.other W6 f_26 (Or.inr (slot_ne (Or.inr (hw _ (List.mem_of_getElem? (i := 13) rfl))) (Or.inr (hw _ (List.mem_of_getElem? (i := 19) rfl))) (by decide) (t := .int) (t' := (.object "java/lang/String")) (by decide) (by decide)))
  have f_35 := Fld.other W6 f_27 (Or.inr (slot_ne (Or.inr (hw _ (List.mem_of_getElem? (i := 15) rfl))) (Or.inr (hw _ (List.mem_of_getElem? (i := 19) rfl))) (by decide) (t := .int) (t' := (.object "java/lang/String")) (by decide) (by decide)))
  have f_36 := Fld.other W6 f_31 (Or.inr (slot_ne (Or.inr (hw _ (List.mem_of_getElem? (i := 17) rfl))) (Or.inr (hw _ (List.mem_of_getElem? (i := 19) rfl))) (by decide) (t := .int) (t' := (.object "java/lang/String")) (by decide) (by decide)))
  have f_37 := Fld.other W6 f_29 (Or.inr (slot_ne (Or.inr (hw _ (List.mem_of_getElem? (i := 21) rfl))) (Or.inr (hw _ (List.mem_of_getElem? (i := 19) rfl))) (by decide) (t := (.object "java/util/Map")) (t' := (.object "java/lang/String")) (by decide) (by decide)))
  have f_38 := Fld.other W6 f_30 (Or.inr (slot_ne (Or.inr (hw _ (List.mem_of_getElem? (i := 23) rfl))) (Or.inr (hw _ (List.mem_of_getElem? (i := 19) rfl))) (by decide) (t := (.array .byte)) (t' := (.object "java/lang/String")) (by decide) (by decide)))
  have f_39 := Fld.same W6 f_28
  have Z6 : n0 ≤ h6.size := by rw [W6.size]; exact Z5
  have K6 := K5.wr W6 (Or.inl (List.mem_of_getElem? (i := 0) rfl))
  refine Goes.go (st6) ?_
  show Goes _ _ _ _ _ _ _ (T6.setTop (mkF m 31 _ []))
  refine Goes.go (fun _ kk => XS.aloadN X6.here hx rfl (hb hby d1_31) rfl rfl kk) ?_
  show Goes _ _ _ _ _ _ _ (T6.setTop (mkF m 32 _ [(.ref a)]))
  refine Goes.go (fun _ kk => XS.aload X6.here hx rfl (hb hby d1_32) rfl rfl kk) ?_
  show Goes _ _ _ _ _ _ _ (T6.setTop (mkF m 34 _ [(.ref p5), (.ref a)]))
  obtain ⟨T7, h7, X7, e7, W7, st7⟩ := putF X6 hx hZ hown (host := "") (Or.inl (hw _ (List.mem_of_getElem? (i := 20) rfl))) Via.refl e6 f_37 f_32 (Or.inr ⟨(hw _ (List.mem_of_getElem? (i := 21) rfl)), rfl, hnm⟩) (hw _ (List.mem_of_getElem? (i := 1) rfl)) (ty := (.object "java/util/Map")) (by decide) rfl rfl (g := (mkF m 34 #[.val (.ref a), .val (.int p0), .val (.int p1), .val (.int p2), .val (.int p3), .val .null, .val (.ref p5), .val .null] [(.ref p5), (.ref a)])) rfl rfl (hb hby d1_34)
  have N7 := Fr.snoc X7 N6 ga
  have f_40 := Exa.wr W7 f_32
  have f_41 := Fld.other W7 f_33 (Or.inr (slot_ne (Or.inr (hw _ (List.mem_of_getElem? (i := 11) rfl))) (Or.inr (hw _ (List.mem_of_getElem? (i := 21) rfl))) (by decide) (t := .int) (t' := (.object "java/util/Map")) (by decide) (by decide)))
  have f_42 := Fld.other W7 f_34 (Or.inr (slot_ne (Or.inr (hw _ (List.mem_of_getElem? (i := 13) rfl))) (Or.inr (hw _ (List.mem_of_getElem? (i := 21) rfl))) (by decide) (t := .int) (t' := (.object "java/util/Map")) (by decide) (by decide)))
  have f_43 := Fld.other W7 f_35 (Or.inr (slot_ne (Or.inr (hw _ (List.mem_of_getElem? (i := 15) rfl))) (Or.inr (hw _ (List.mem_of_getElem? (i := 21) rfl))) (by decide) (t := .int) (t' := (.object "java/util/Map")) (by decide) (by decide)))
  have f_44 := Fld.other W7 f_36 (Or.inr (slot_ne (Or.inr (hw _ (List.mem_of_getElem? (i := 17) rfl))) (Or.inr (hw _ (List.mem_of_getElem? (i := 21) rfl))) (by decide) (t := .int) (t' := (.object "java/util/Map")) (by decide) (by decide)))
  have f_45 := Fld.other W7 f_39 (Or.inr (slot_ne (Or.inr (hw _ (List.mem_of_getElem? (i := 19) rfl))) (Or.inr (hw _ (List.mem_of_getElem? (i := 21) rfl))) (by decide) (t := (.object "java/lang/String")) (t' := (.object "java/util/Map")) (by decide) (by decide)))
  have f_46 := Fld.other W7 f_38 (Or.inr (slot_ne (Or.inr (hw _ (List.mem_of_getElem? (i := 23) rfl))) (Or.inr (hw _ (List.mem_of_getElem? (i := 21) rfl))) (by decide) (t := (.array .byte)) (t' := (.object "java/util/Map")) (by decide) (by decide)))
  have f_47 := Fld.same W7 f_37
  have Z7 : n0 ≤ h7.size := by rw [W7.size]; exact Z6
  have K7 := K6.wr W7 (Or.inl (List.mem_of_getElem? (i := 0) rfl))
  refine Goes.go (st7) ?_
  show Goes _ _ _ _ _ _ _ (T7.setTop (mkF m 37 _ []))
  refine Goes.go (fun _ kk => XS.aloadN X7.here hx rfl (hb hby d1_37) rfl rfl kk) ?_
  show Goes _ _ _ _ _ _ _ (T7.setTop (mkF m 38 _ [(.ref a)]))
  refine Goes.go (fun _ kk => XS.aload X7.here hx rfl (hb hby d1_38) rfl rfl kk) ?_
  show Goes _ _ _ _ _ _ _ (T7.setTop (mkF m 40 _ [.null, (.ref a)]))
  obtain ⟨T8, h8, X8, e8, W8, st8⟩ := putF X7 hx hZ hown (host := "") (Or.inl (hw _ (List.mem_of_getElem? (i := 22) rfl))) Via.refl e7 f_46 f_40 (Or.inr ⟨(hw _ (List.mem_of_getElem? (i := 23) rfl)), rfl, hnm⟩) (hw _ (List.mem_of_getElem? (i := 1) rfl)) (ty := (.array .byte)) (by decide) rfl rfl (g := (mkF m 40 #[.val (.ref a), .val (.int p0), .val (.int p1), .val (.int p2), .val (.int p3), .val .null, .val (.ref p5), .val .null] [.null, (.ref a)])) rfl rfl (hb hby d1_40)
  have N8 := Fr.snoc X8 N7 ga
  have f_48 := Exa.wr W8 f_40
  have f_49 := Fld.other W8 f_41 (Or.inr (slot_ne (Or.inr (hw _ (List.mem_of_getElem? (i := 11) rfl))) (Or.inr (hw _ (List.mem_of_getElem? (i := 23) rfl))) (by decide) (t := .int) (t' := (.array .byte)) (by decide) (by decide)))
  have f_50 := Fld.other W8 f_42 (Or.inr (slot_ne (Or.inr (hw _ (List.mem_of_getElem? (i := 13) rfl))) (Or.inr (hw _ (List.mem_of_getElem? (i := 23) rfl))) (by decide) (t := .int) (t' := (.array .byte)) (by decide) (by decide)))
  have f_51 := Fld.other W8 f_43 (Or.inr (slot_ne (Or.inr (hw _ (List.mem_of_getElem? (i := 15) rfl))) (Or.inr (hw _ (List.mem_of_getElem? (i := 23) rfl))) (by decide) (t := .int) (t' := (.array .byte)) (by decide) (by decide)))
  have f_52 := Fld.other W8 f_44 (Or.inr (slot_ne (Or.inr (hw _ (List.mem_of_getElem? (i := 17) rfl))) (Or.inr (hw _ (List.mem_of_getElem? (i := 23) rfl))) (by decide) (t := .int) (t' := (.array .byte)) (by decide) (by decide)))
  have f_53 := Fld.other W8 f_45 (Or.inr (slot_ne (Or.inr (hw _ (List.mem_of_getElem? (i := 19) rfl))) (Or.inr (hw _ (List.mem_of_getElem? (i := 23) rfl))) (by decide) (t := (.object "java/lang/String")) (t' := (.array .byte)) (by decide) (by decide)))
  have f_54 := Fld.other W8 f_47 (Or.inr (slot_ne (Or.inr (hw _ (List.mem_of_getElem? (i := 21) rfl))) (Or.inr (hw _ (List.mem_of_getElem? (i := 23) rfl))) (by decide) (t := (.object "java/util/Map")) (t' := (.array .byte)) (by decide) (by decide)))
  have f_55 := Fld.same W8 f_46
  have Z8 : n0 ≤ h8.size := by rw [W8.size]; exact Z7
  have K8 := K7.wr W8 (Or.inl (List.mem_of_getElem? (i := 0) rfl))
  refine Goes.go (st8) ?_
  show Goes _ _ _ _ _ _ _ (T8.setTop (mkF m 43 _ []))
  exact Goes.outV X8 hx hlk hret (hb hby d1_43) e8 ⟨rfl, N8, K8, f_48, f_49, f_50, f_51, f_52, f_53, f_54, f_55⟩ (by decide) (by decide)
theorem d3_0 : decode prog_2_method_13_code 0 = .ok (.aload_n 0, 1) := by decide +kernel
theorem d3_1 : decode prog_2_method_13_code 1 = .ok (.getfield 19, 3) := by decide +kernel
theorem d3_4 : decode prog_2_method_13_code 4 = .ok (.iconst 1, 1) := by decide +kernel
theorem d3_5 : decode prog_2_method_13_code 5 = .ok (.iand, 1) := by decide +kernel
theorem d3_6 : decode prog_2_method_13_code 6 = .ok (.ifCond .eq 7, 3) := by decide +kernel
theorem d3_9 : decode prog_2_method_13_code 9 = .ok (.iconst 1, 1) := by decide +kernel
theorem d3_10 : decode prog_2_method_13_code 10 = .ok (.goto 4, 3) := by decide +kernel
theorem d3_13 : decode prog_2_method_13_code 13 = .ok (.iconst 0, 1) := by decide +kernel
theorem d3_14 : decode prog_2_method_13_code 14 = .ok (.ireturn, 1) := by decide +kernel
theorem ef_rmR (m : MethodId) (a : Addr) : entryFrame m #[(.ref a)] 1 = mkF m 0 #[.val (.ref a)] [] := by first | (simp [entryFrame, mkF, argsToLocals, Value.category]; done) | rfl
def Q_rmR (Z : State) (a : Addr) (g : Int32) (h0 : Heap) (n0 : Nat) (v : Option Value) (h : Heap) (L : List Loc) : Prop := v = some (.int (rsF g)) ∧ Fr n0 L ∧ h = h0
set_option maxRecDepth 65536 in
set_option maxHeartbeats 40000000 in
theorem rmR (l : Launch) (Z : State) (a0 : Array Value) (hw : ∀ d ∈ tables_1, d.before a0 Z = true) (ws : List Jvm.Cond) (a : Addr) (g : Int32) (h0 : Heap) (n0 : Nat) (Z0 : n0 ≤ h0.size) (F0 : Fld Z h0 a "com/example/xixi/xixi/remoting/RemotingCommand" "flag" "I" (.int g)) :
    MetFree l (⟨"com/example/xixi/xixi/remoting/RemotingCommand", "isResponse", "()Z"⟩ : MethodName) (head1 (Jvm.Cond.code (⟨"com/example/xixi/xixi/remoting/RemotingCommand", "isResponse", "()Z"⟩ : MethodName) prog_2_method_13_code 1 (some .boolean) :: ws) ({ frames := 0, cells := 0, slots := 0, locals := 0 } : Room)) (fun aa U => aa = #[(.ref a)] ∧ Z.Warmed39 U.vm ∧ U.heap = h0) (fun _ _ _ _ _ => True) (fun _ U oo U' => ∃ v L, oo = .returned v ∧ Q_rmR Z a g h0 n0 v U'.heap L ∧ FrameEnd U oo U' L ({ frames := 0, cells := 0, slots := 0, locals := 0 } : Room).cells ({ frames := 0, cells := 0, slots := 0, locals := 0 } : Room).slots) := by
  refine MetFree.of_bodySF (plainFor_of_name pn0) hisR ?_
  intro p e s m args below meth c s₁ Bd hml0 hP hK
  obtain ⟨rfl, hZ, hh⟩ := hP
  have hx := Bd.exec
  have hby := Bd.bytes
  have hml : c.maxLocals = 1 := hml0
  have hown : s.vm.findClass "com/example/xixi/xixi/remoting/RemotingCommand" = some m.cls := findClass_of_methodNamed Bd.named
  have hnm := (name_of_methodNamed Bd.named Bd.method).1
  have hlk : meth.locks = false := Bd.notSynchronized
  have hret := Bd.returns
  have X0 : Stand p l e ({ frames := 0, cells := 0, slots := 0, locals := 0 } : Room) s m #[(.ref a)] below meth c s₁ [] 0 0 := Stand.of_body Bd
  have e0 : s₁.heap = h0 := by rw [← hh, Bd.state]; rfl
  have N0 := Fr.nil n0
  have K0 : Keep h0 h0 [] := Keep.refl _ _
  show Goes p e below s (Q_rmR Z a g h0 n0) ({ frames := 0, cells := 0, slots := 0, locals := 0 } : Room).cells ({ frames := 0, cells := 0, slots := 0, locals := 0 } : Room).slots _
  refine Goes.go (fun _ kk => castTop (ef_rmR m a) kk) ?_
  show Goes _ _ _ _ _ _ _ (s₁.setTop (mkF m 0 #[.val (.ref a)] []))
  refine Goes.go (fun _ kk => XS.aloadN X0.here hx rfl (hb hby d3_0) rfl rfl kk) ?_
  show Goes _ _ _ _ _ _ _ (s₁.setTop (mkF m 1 _ [(.ref a)]))
  obtain ⟨T1, X1, e1, st1⟩ := getF X0 hx hZ hown (host := "") (Or.inl (hw _ (List.mem_of_getElem? (i := 16) rfl))) Via.refl e0 F0 (g := (mkF m 1 #[.val (.ref a)] [(.ref a)])) rfl rfl (hb hby d3_1)
  refine Goes.go (st1) ?_
  show Goes _ _ _ _ _ _ _ (T1.setTop (mkF m 4 _ [(.int g)]))
  refine Goes.go (fun _ kk => XS.iconst X1.here hx rfl (hb hby d3_4) kk) ?_
  show Goes _ _ _ _ _ _ _ (T1.setTop (mkF m 5 _ [(.int (1 : Int32)), (.int g)]))
  refine Goes.go (fun _ kk => XS.iand X1.here hx rfl (hb hby d3_5) rfl kk) ?_
  show Goes _ _ _ _ _ _ _ (T1.setTop (mkF m 6 _ [(.int (g &&& (1 : Int32)))]))
  by_cases c6 : (g &&& (1 : Int32)) = 0
  · skip
    refine Goes.go (fun _ kk => XS.ifYes X1.here hx rfl (pc0 := 6) (pc' := 13) rfl (hb hby d3_6) rfl (XT.i0_eq_t c6) (by decide) (by decide) kk) ?_
    show Goes _ _ _ _ _ _ _ (T1.setTop (mkF m 13 _ []))
    refine Goes.go (fun _ kk => XS.iconst X1.here hx rfl (hb hby d3_13) kk) ?_
    show Goes _ _ _ _ _ _ _ (T1.setTop (mkF m 14 _ [(.int (0 : Int32))]))
    exact Goes.outZ X1 hx hlk hret rfl (hb hby d3_14) e1 ⟨by simp [rsF, c6], N0, rfl⟩ (by decide) (by decide)
  · skip
    refine Goes.go (fun _ kk => XS.ifNo X1.here hx rfl (hb hby d3_6) rfl (XT.i0_eq_f c6) kk) ?_
    show Goes _ _ _ _ _ _ _ (T1.setTop (mkF m 9 _ []))
    refine Goes.go (fun _ kk => XS.iconst X1.here hx rfl (hb hby d3_9) kk) ?_
    show Goes _ _ _ _ _ _ _ (T1.setTop (mkF m 10 _ [(.int (1 : Int32))]))
    refine Goes.go (fun _ kk => XS.goto X1.here hx rfl (pc0 := 10) (pc' := 14) rfl (hb hby d3_10) (by decide) (by decide) kk) ?_
    show Goes _ _ _ _ _ _ _ (T1.setTop (mkF m 14 _ [(.int (1 : Int32))]))
    exact Goes.outZ X1 hx hlk hret rfl (hb hby d3_14) e1 ⟨by simp [rsF, c6], N0, rfl⟩ (by decide) (by decide)
theorem d5_0 : decode prog_2_method_14_code 0 = .ok (.aload_n 0, 1) := by decide +kernel
theorem d5_1 : decode prog_2_method_14_code 1 = .ok (.invokevirtual 57, 3) := by decide +kernel
theorem d5_4 : decode prog_2_method_14_code 4 = .ok (.ifCond .ne 16, 3) := by decide +kernel
theorem d5_7 : decode prog_2_method_14_code 7 = .ok (.aload_n 0, 1) := by decide +kernel
theorem d5_8 : decode prog_2_method_14_code 8 = .ok (.getfield 19, 3) := by decide +kernel
theorem d5_11 : decode prog_2_method_14_code 11 = .ok (.iconst 2, 1) := by decide +kernel
theorem d5_12 : decode prog_2_method_14_code 12 = .ok (.iand, 1) := by decide +kernel
theorem d5_13 : decode prog_2_method_14_code 13 = .ok (.ifCond .eq 7, 3) := by decide +kernel
theorem d5_16 : decode prog_2_method_14_code 16 = .ok (.iconst 1, 1) := by decide +kernel
theorem d5_17 : decode prog_2_method_14_code 17 = .ok (.goto 4, 3) := by decide +kernel
theorem d5_20 : decode prog_2_method_14_code 20 = .ok (.iconst 0, 1) := by decide +kernel
theorem d5_21 : decode prog_2_method_14_code 21 = .ok (.ireturn, 1) := by decide +kernel
theorem ef_rmO (m : MethodId) (a : Addr) : entryFrame m #[(.ref a)] 1 = mkF m 0 #[.val (.ref a)] [] := by first | (simp [entryFrame, mkF, argsToLocals, Value.category]; done) | rfl
def Q_rmO (Z : State) (a : Addr) (g : Int32) (h0 : Heap) (n0 : Nat) (v : Option Value) (h : Heap) (L : List Loc) : Prop := v = some (.int (owF g)) ∧ Fr n0 L ∧ h = h0
set_option maxRecDepth 65536 in
set_option maxHeartbeats 40000000 in
theorem rmO (l : Launch) (Z : State) (a0 : Array Value) (hw : ∀ d ∈ tables_1, d.before a0 Z = true) (ws : List Jvm.Cond) (a : Addr) (g : Int32) (h0 : Heap) (n0 : Nat) (Z0 : n0 ≤ h0.size) (F0 : Fld Z h0 a "com/example/xixi/xixi/remoting/RemotingCommand" "flag" "I" (.int g)) (E0 : Exa Z h0 a "com/example/xixi/xixi/remoting/RemotingCommand") :
    MetFree l (⟨"com/example/xixi/xixi/remoting/RemotingCommand", "isOneWay", "()Z"⟩ : MethodName) (head1 (Jvm.Cond.code (⟨"com/example/xixi/xixi/remoting/RemotingCommand", "isOneWay", "()Z"⟩ : MethodName) prog_2_method_14_code 1 (some .boolean) :: ws) ({ frames := 1, cells := 0, slots := 0, locals := 12 } : Room)) (fun aa U => aa = #[(.ref a)] ∧ Z.Warmed39 U.vm ∧ U.heap = h0) (fun _ _ _ _ _ => True) (fun _ U oo U' => ∃ v L, oo = .returned v ∧ Q_rmO Z a g h0 n0 v U'.heap L ∧ FrameEnd U oo U' L ({ frames := 1, cells := 0, slots := 0, locals := 12 } : Room).cells ({ frames := 1, cells := 0, slots := 0, locals := 12 } : Room).slots) := by
  refine MetFree.of_bodySF (plainFor_of_name pn0) hisR ?_
  intro p e s m args below meth c s₁ Bd hml0 hP hK
  obtain ⟨rfl, hZ, hh⟩ := hP
  have hx := Bd.exec
  have hby := Bd.bytes
  have hml : c.maxLocals = 1 := hml0
  have hown : s.vm.findClass "com/example/xixi/xixi/remoting/RemotingCommand" = some m.cls := findClass_of_methodNamed Bd.named
  have hnm := (name_of_methodNamed Bd.named Bd.method).1
  have hlk : meth.locks = false := Bd.notSynchronized
  have hret := Bd.returns
  have X0 : Stand p l e ({ frames := 1, cells := 0, slots := 0, locals := 12 } : Room) s m #[(.ref a)] below meth c s₁ [] 0 0 := Stand.of_body Bd
  have e0 : s₁.heap = h0 := by rw [← hh, Bd.state]; rfl
  have N0 := Fr.nil n0
  have K0 : Keep h0 h0 [] := Keep.refl _ _
  show Goes p e below s (Q_rmO Z a g h0 n0) ({ frames := 1, cells := 0, slots := 0, locals := 12 } : Room).cells ({ frames := 1, cells := 0, slots := 0, locals := 12 } : Room).slots _
  refine Goes.go (fun _ kk => castTop (ef_rmO m a) kk) ?_
  show Goes _ _ _ _ _ _ _ (s₁.setTop (mkF m 0 #[.val (.ref a)] []))
  refine Goes.go (fun _ kk => XS.aloadN X0.here hx rfl (hb hby d5_0) rfl rfl kk) ?_
  show Goes _ _ _ _ _ _ _ (s₁.setTop (mkF m 1 _ [(.ref a)]))
  obtain ⟨cq1, kq1, qa1, qb1, qc1⟩ := isOf hZ e0 E0
  obtain ⟨_, _, ⟨T1, L1, k1, n1⟩, -, X1, ⟨Lc1, hQ1, l1, y1, z1⟩, st1⟩ := X0.virtualBack hx (y := (⟨"com/example/xixi/xixi/remoting/RemotingCommand", "isResponse", "()Z"⟩ : MethodName)) (z := (⟨"com/example/xixi/xixi/remoting/RemotingCommand", "isResponse", "()Z"⟩ : MethodName)) hown (mvT hZ (hw _ (List.mem_of_getElem? (i := 41) rfl))) (mvT hZ (hw _ (List.mem_of_getElem? (i := 25) rfl))) (notFace_of_selects (args := #[]) (mvT hZ (hw _ (List.mem_of_getElem? (i := 27) rfl)))) (mvT hZ (hw _ (List.mem_of_getElem? (i := 27) rfl))) (mvT hZ (hw _ (List.mem_of_getElem? (i := 26) rfl))) (by decide) (backOf (W := 0) (rmR l Z a0 hw [] a g h0 n0 Z0 F0) hZ (hw _ (List.mem_of_getElem? (i := 28) rfl)) (hw _ (List.mem_of_getElem? (i := 2) rfl)) (by decide) (by decide)) qa1 qc1 (g := (mkF m 1 #[.val (.ref a)] [(.ref a)])) rfl (by rw [hml]; rfl) (Steps.refl _) (argsL := []) (rest := []) (lenOf pd2 rfl) rfl (by show 2 * 0 + _ ≤ _; exact Nat.le_of_eq rfl) (hb hby d5_1) (fun _ _ => ⟨rfl, e0, (by decide : 0 + 0 ≤ _), (by decide : 0 + 0 ≤ _)⟩)
  dsimp only [Pt.U, Pt.locs, Pt.cells, Pt.slots] at X1 l1 y1 z1 st1 hQ1
  subst l1 y1 z1
  obtain ⟨rfl, Nq1, hh1⟩ := hQ1
  have N1 := Fr.app N0 Nq1
  refine Goes.go (fun _ kk => st1.trans kk) ?_
  show Goes _ _ _ _ _ _ _ (T1.setTop (mkF m 4 _ [(.int (rsF g))]))
  by_cases c4 : (rsF g) = 0
  · skip
    refine Goes.go (fun _ kk => XS.ifNo X1.here hx rfl (hb hby d5_4) rfl (XT.i0_ne_f c4) kk) ?_
    show Goes _ _ _ _ _ _ _ (T1.setTop (mkF m 7 _ []))
    refine Goes.go (fun _ kk => XS.aloadN X1.here hx rfl (hb hby d5_7) rfl rfl kk) ?_
    show Goes _ _ _ _ _ _ _ (T1.setTop (mkF m 8 _ [(.ref a)]))
    obtain ⟨T2, X2, e2, st2⟩ := getF X1 hx hZ hown (host := "") (Or.inl (hw _ (List.mem_of_getElem? (i := 16) rfl))) Via.refl hh1 F0 (g := (mkF m 8 #[.val (.ref a)] [(.ref a)])) rfl rfl (hb hby d5_8)
    refine Goes.go (st2) ?_
    show Goes _ _ _ _ _ _ _ (T2.setTop (mkF m 11 _ [(.int g)]))
    refine Goes.go (fun _ kk => XS.iconst X2.here hx rfl (hb hby d5_11) kk) ?_
    show Goes _ _ _ _ _ _ _ (T2.setTop (mkF m 12 _ [(.int (2 : Int32)), (.int g)]))
    refine Goes.go (fun _ kk => XS.iand X2.here hx rfl (hb hby d5_12) rfl kk) ?_
    show Goes _ _ _ _ _ _ _ (T2.setTop (mkF m 13 _ [(.int (g &&& (2 : Int32)))]))
    by_cases c13 : (g &&& (2 : Int32)) = 0
    · skip
      refine Goes.go (fun _ kk => XS.ifYes X2.here hx rfl (pc0 := 13) (pc' := 20) rfl (hb hby d5_13) rfl (XT.i0_eq_t c13) (by decide) (by decide) kk) ?_
      show Goes _ _ _ _ _ _ _ (T2.setTop (mkF m 20 _ []))
      refine Goes.go (fun _ kk => XS.iconst X2.here hx rfl (hb hby d5_20) kk) ?_
      show Goes _ _ _ _ _ _ _ (T2.setTop (mkF m 21 _ [(.int (0 : Int32))]))
      exact Goes.outZ X2 hx hlk hret rfl (hb hby d5_21) e2 ⟨by simp [owF, c4, c13], N1, rfl⟩ (by decide) (by decide)
    · skip
      refine Goes.go (fun _ kk => XS.ifNo X2.here hx rfl (hb hby d5_13) rfl (XT.i0_eq_f c13) kk) ?_
      show Goes _ _ _ _ _ _ _ (T2.setTop (mkF m 16 _ []))
      refine Goes.go (fun _ kk => XS.iconst X2.here hx rfl (hb hby d5_16) kk) ?_
      show Goes _ _ _ _ _ _ _ (T2.setTop (mkF m 17 _ [(.int (1 : Int32))]))
      refine Goes.go (fun _ kk => XS.goto X2.here hx rfl (pc0 := 17) (pc' := 21) rfl (hb hby d5_17) (by decide) (by decide) kk) ?_
      show Goes _ _ _ _ _ _ _ (T2.setTop (mkF m 21 _ [(.int (1 : Int32))]))
      exact Goes.outZ X2 hx hlk hret rfl (hb hby d5_21) e2 ⟨by simp [owF, c4, c13], N1, rfl⟩ (by decide) (by decide)
  · skip
    refine Goes.go (fun _ kk => XS.ifYes X1.here hx rfl (pc0 := 4) (pc' := 20) rfl (hb hby d5_4) rfl (XT.i0_ne_t c4) (by decide) (by decide) kk) ?_
    show Goes _ _ _ _ _ _ _ (T1.setTop (mkF m 20 _ []))
    refine Goes.go (fun _ kk => XS.iconst X1.here hx rfl (hb hby d5_20) kk) ?_
    show Goes _ _ _ _ _ _ _ (T1.setTop (mkF m 21 _ [(.int (0 : Int32))]))
    exact Goes.outZ X1 hx hlk hret rfl (hb hby d5_21) hh1 ⟨by simp [owF, c4], N1, rfl⟩ (by decide) (by decide)
theorem d4_0 : decode prog_2_method_8_code 0 = .ok (.new 8, 3) := by decide +kernel
theorem d4_3 : decode prog_2_method_8_code 3 = .ok (.dup, 1) := by decide +kernel
theorem d4_4 : decode prog_2_method_8_code 4 = .ok (.aload_n 0, 1) := by decide +kernel
theorem d4_5 : decode prog_2_method_8_code 5 = .ok (.getfield 7, 3) := by decide +kernel
theorem d4_8 : decode prog_2_method_8_code 8 = .ok (.aload_n 0, 1) := by decide +kernel
theorem d4_9 : decode prog_2_method_8_code 9 = .ok (.getfield 13, 3) := by decide +kernel
theorem d4_12 : decode prog_2_method_8_code 12 = .ok (.iload_n 1, 1) := by decide +kernel
theorem d4_13 : decode prog_2_method_8_code 13 = .ok (.aload_n 0, 1) := by decide +kernel
theorem d4_14 : decode prog_2_method_8_code 14 = .ok (.getfield 19, 3) := by decide +kernel
theorem d4_17 : decode prog_2_method_8_code 17 = .ok (.aload_n 0, 1) := by decide +kernel
theorem d4_18 : decode prog_2_method_8_code 18 = .ok (.getfield 22, 3) := by decide +kernel
theorem d4_21 : decode prog_2_method_8_code 21 = .ok (.aload_n 0, 1) := by decide +kernel
theorem d4_22 : decode prog_2_method_8_code 22 = .ok (.getfield 26, 3) := by decide +kernel
theorem d4_25 : decode prog_2_method_8_code 25 = .ok (.aload_n 0, 1) := by decide +kernel
theorem d4_26 : decode prog_2_method_8_code 26 = .ok (.getfield 30, 3) := by decide +kernel
theorem d4_29 : decode prog_2_method_8_code 29 = .ok (.invokespecial 40, 3) := by decide +kernel
theorem d4_32 : decode prog_2_method_8_code 32 = .ok (.areturn, 1) := by decide +kernel
theorem ef_rmW (m : MethodId) (a : Addr) (p0 : Int32) : entryFrame m #[(.ref a), (.int p0)] 2 = mkF m 0 #[.val (.ref a), .val (.int p0)] [] := by first | (simp [entryFrame, mkF, argsToLocals, Value.category]; done) | rfl
def Q_rmW (Z : State) (a : Addr) (p0 : Int32) (ck : Int32) (ve : Int32) (g : Int32) (bb : Addr) (h0 : Heap) (n0 : Nat) (v : Option Value) (h : Heap) (L : List Loc) : Prop := ∃ x : Addr, v = some (.ref x) ∧ Fr n0 L ∧ Keep h0 h [] ∧ Exa Z h x "com/example/xixi/xixi/remoting/RemotingCommand" ∧ Fld Z h x "com/example/xixi/xixi/remoting/RemotingCommand" "flag" "I" (.int g)
set_option maxRecDepth 65536 in
set_option maxHeartbeats 40000000 in
theorem rmW (l : Launch) (Z : State) (a0 : Array Value) (hw : ∀ d ∈ tables_1, d.before a0 Z = true) (ws : List Jvm.Cond) (a : Addr) (p0 : Int32) (ck : Int32) (ve : Int32) (g : Int32) (bb : Addr) (h0 : Heap) (n0 : Nat) (Z0 : n0 ≤ h0.size) (F_code : Fld Z h0 a "com/example/xixi/xixi/remoting/RemotingCommand" "code" "I" (.int ck)) (F_version : Fld Z h0 a "com/example/xixi/xixi/remoting/RemotingCommand" "version" "I" (.int ve)) (F_flag : Fld Z h0 a "com/example/xixi/xixi/remoting/RemotingCommand" "flag" "I" (.int g)) (F_remark : Fld Z h0 a "com/example/xixi/xixi/remoting/RemotingCommand" "remark" "Ljava/lang/String;" .null) (F_extFields : Fld Z h0 a "com/example/xixi/xixi/remoting/RemotingCommand" "extFields" "Ljava/util/Map;" .null) (F_body : Fld Z h0 a "com/example/xixi/xixi/remoting/RemotingCommand" "body" "[B" (.ref bb)) :
    MetFree l (⟨"com/example/xixi/xixi/remoting/RemotingCommand", "withOpaque", "(I)Lcom/example/xixi/xixi/remoting/RemotingCommand;"⟩ : MethodName) (head1 (Jvm.Cond.code (⟨"com/example/xixi/xixi/remoting/RemotingCommand", "withOpaque", "(I)Lcom/example/xixi/xixi/remoting/RemotingCommand;"⟩ : MethodName) prog_2_method_8_code 2 (some (.object "com/example/xixi/xixi/remoting/RemotingCommand")) :: ws) ({ frames := 2, cells := 1, slots := 7, locals := 40 } : Room)) (fun aa U => aa = #[(.ref a), (.int p0)] ∧ Z.Warmed39 U.vm ∧ U.heap = h0) (fun _ _ _ _ _ => True) (fun _ U oo U' => ∃ v L, oo = .returned v ∧ Q_rmW Z a p0 ck ve g bb h0 n0 v U'.heap L ∧ FrameEnd U oo U' L ({ frames := 2, cells := 1, slots := 7, locals := 40 } : Room).cells ({ frames := 2, cells := 1, slots := 7, locals := 40 } : Room).slots) := by
  refine MetFree.of_bodySF (plainFor_of_name pn0) hisR ?_
  intro p e s m args below meth c s₁ Bd hml0 hP hK
  obtain ⟨rfl, hZ, hh⟩ := hP
  have hx := Bd.exec
  have hby := Bd.bytes
  have hml : c.maxLocals = 2 := hml0
  have hown : s.vm.findClass "com/example/xixi/xixi/remoting/RemotingCommand" = some m.cls := findClass_of_methodNamed Bd.named
  have hnm := (name_of_methodNamed Bd.named Bd.method).1
  have hlk : meth.locks = false := Bd.notSynchronized
  have hret := Bd.returns
  have X0 : Stand p l e ({ frames := 2, cells := 1, slots := 7, locals := 40 } : Room) s m #[(.ref a), (.int p0)] below meth c s₁ [] 0 0 := Stand.of_body Bd
  have e0 : s₁.heap = h0 := by rw [← hh, Bd.state]; rfl
  have N0 := Fr.nil n0
  have K0 : Keep h0 h0 [] := Keep.refl _ _
  show Goes p e below s (Q_rmW Z a p0 ck ve g bb h0 n0) ({ frames := 2, cells := 1, slots := 7, locals := 40 } : Room).cells ({ frames := 2, cells := 1, slots := 7, locals := 40 } : Room).slots _
  refine Goes.go (fun _ kk => castTop (ef_rmW m a p0) kk) ?_
  show Goes _ _ _ _ _ _ _ (s₁.setTop (mkF m 0 #[.val (.ref a), .val (.int p0)] []))
  obtain ⟨T1, h1, X1, e1, E1, A1, D1, -, st1⟩ := newO X0 hx hZ hown (hw _ (List.mem_of_getElem? (i := 34) rfl)) (hw _ (List.mem_of_getElem? (i := 1) rfl)) (hw _ (List.mem_of_getElem? (i := 2) rfl)) e0 (g := (mkF m 0 #[.val (.ref a), .val (.int p0)] [])) rfl (hb hby d4_0) (by decide) (by decide)
  obtain ⟨ob0, gob0⟩ : ∃ z, z = h0.size := ⟨_, rfl⟩
  rw [← gob0] at A1 D1 st1
  have ne_a_ob0 : a ≠ ob0 := by rw [gob0]; exact Nat.ne_of_lt F_code.lt
  have f := Fld.ext E1 F_code
  have f_1 := Fld.ext E1 F_version
  have f_2 := Fld.ext E1 F_flag
  have f_3 := Fld.ext E1 F_remark
  have f_4 := Fld.ext E1 F_extFields
  have f_5 := Fld.ext E1 F_body
  have Z1 : n0 ≤ h1.size := Nat.le_trans Z0 E1.1
  have ge_ob0 : n0 ≤ ob0 := Nat.le_trans Z0 (Nat.le_of_eq gob0.symm)
  have kge_ob0 : h0.size ≤ ob0 := by rw [gob0]; exact K0.1
  have f_6 : Fld Z h1 ob0 "com/example/xixi/xixi/remoting/RemotingCommand" "code" "I" (.int (0 : Int32)) := D1 (Or.inr (hw _ (List.mem_of_getElem? (i := 11) rfl))) (ty := .int) (by decide)
  have f_7 : Fld Z h1 ob0 "com/example/xixi/xixi/remoting/RemotingCommand" "version" "I" (.int (0 : Int32)) := D1 (Or.inr (hw _ (List.mem_of_getElem? (i := 13) rfl))) (ty := .int) (by decide)
  have f_8 : Fld Z h1 ob0 "com/example/xixi/xixi/remoting/RemotingCommand" "opaque" "I" (.int (0 : Int32)) := D1 (Or.inr (hw _ (List.mem_of_getElem? (i := 15) rfl))) (ty := .int) (by decide)
  have f_9 : Fld Z h1 ob0 "com/example/xixi/xixi/remoting/RemotingCommand" "flag" "I" (.int (0 : Int32)) := D1 (Or.inr (hw _ (List.mem_of_getElem? (i := 17) rfl))) (ty := .int) (by decide)
  have f_10 : Fld Z h1 ob0 "com/example/xixi/xixi/remoting/RemotingCommand" "remark" "Ljava/lang/String;" .null := D1 (Or.inr (hw _ (List.mem_of_getElem? (i := 19) rfl))) (ty := (.object "java/lang/String")) (by decide)
  have f_11 : Fld Z h1 ob0 "com/example/xixi/xixi/remoting/RemotingCommand" "extFields" "Ljava/util/Map;" .null := D1 (Or.inr (hw _ (List.mem_of_getElem? (i := 21) rfl))) (ty := (.object "java/util/Map")) (by decide)
  have f_12 : Fld Z h1 ob0 "com/example/xixi/xixi/remoting/RemotingCommand" "body" "[B" .null := D1 (Or.inr (hw _ (List.mem_of_getElem? (i := 23) rfl))) (ty := (.array .byte)) (by decide)
  have K1 := K0.ext E1
  refine Goes.go (st1) ?_
  show Goes _ _ _ _ _ _ _ (T1.setTop (mkF m 3 _ [(.ref ob0)]))
  refine Goes.go (fun _ kk => XS.dup X1.here hx rfl (hb hby d4_3) rfl rfl kk) ?_
  show Goes _ _ _ _ _ _ _ (T1.setTop (mkF m 4 _ [(.ref ob0), (.ref ob0)]))
  refine Goes.go (fun _ kk => XS.aloadN X1.here hx rfl (hb hby d4_4) rfl rfl kk) ?_
  show Goes _ _ _ _ _ _ _ (T1.setTop (mkF m 5 _ [(.ref a), (.ref ob0), (.ref ob0)]))
  obtain ⟨T2, X2, e2, st2⟩ := getF X1 hx hZ hown (host := "") (Or.inl (hw _ (List.mem_of_getElem? (i := 10) rfl))) Via.refl e1 f (g := (mkF m 5 #[.val (.ref a), .val (.int p0)] [(.ref a), (.ref ob0), (.ref ob0)])) rfl rfl (hb hby d4_5)
  refine Goes.go (st2) ?_
  show Goes _ _ _ _ _ _ _ (T2.setTop (mkF m 8 _ [(.int ck), (.ref ob0), (.ref ob0)]))
  refine Goes.go (fun _ kk => XS.aloadN X2.here hx rfl (hb hby d4_8) rfl rfl kk) ?_
  show Goes _ _ _ _ _ _ _ (T2.setTop (mkF m 9 _ [(.ref a), (.int ck), (.ref ob0), (.ref ob0)]))
  obtain ⟨T3, X3, e3, st3⟩ := getF X2 hx hZ hown (host := "") (Or.inl (hw _ (List.mem_of_getElem? (i := 12) rfl))) Via.refl e2 f_1 (g := (mkF m 9 #[.val (.ref a), .val (.int p0)] [(.ref a), (.int ck), (.ref ob0), (.ref ob0)])) rfl rfl (hb hby d4_9)
  refine Goes.go (st3) ?_
  show Goes _ _ _ _ _ _ _ (T3.setTop (mkF m 12 _ [(.int ve), (.int ck), (.ref ob0), (.ref ob0)]))
  refine Goes.go (fun _ kk => XS.iloadN X3.here hx rfl (hb hby d4_12) rfl kk) ?_
  show Goes _ _ _ _ _ _ _ (T3.setTop (mkF m 13 _ [(.int p0), (.int ve), (.int ck), (.ref ob0), (.ref ob0)]))
  refine Goes.go (fun _ kk => XS.aloadN X3.here hx rfl (hb hby d4_13) rfl rfl kk) ?_
  show Goes _ _ _ _ _ _ _ (T3.setTop (mkF m 14 _ [(.ref a), (.int p0), (.int ve), (.int ck), (.ref ob0), (.ref ob0)]))
  obtain ⟨T4, X4, e4, st4⟩ := getF X3 hx hZ hown (host := "") (Or.inl (hw _ (List.mem_of_getElem? (i := 16) rfl))) Via.refl e3 f_2 (g := (mkF m 14 #[.val (.ref a), .val (.int p0)] [(.ref a), (.int p0), (.int ve), (.int ck), (.ref ob0), (.ref ob0)])) rfl rfl (hb hby d4_14)
  refine Goes.go (st4) ?_
  show Goes _ _ _ _ _ _ _ (T4.setTop (mkF m 17 _ [(.int g), (.int p0), (.int ve), (.int ck), (.ref ob0), (.ref ob0)]))
  refine Goes.go (fun _ kk => XS.aloadN X4.here hx rfl (hb hby d4_17) rfl rfl kk) ?_
  show Goes _ _ _ _ _ _ _ (T4.setTop (mkF m 18 _ [(.ref a), (.int g), (.int p0), (.int ve), (.int ck), (.ref ob0), (.ref ob0)]))
  obtain ⟨T5, X5, e5, st5⟩ := getF X4 hx hZ hown (host := "") (Or.inl (hw _ (List.mem_of_getElem? (i := 18) rfl))) Via.refl e4 f_3 (g := (mkF m 18 #[.val (.ref a), .val (.int p0)] [(.ref a), (.int g), (.int p0), (.int ve), (.int ck), (.ref ob0), (.ref ob0)])) rfl rfl (hb hby d4_18)
  refine Goes.go (st5) ?_
  show Goes _ _ _ _ _ _ _ (T5.setTop (mkF m 21 _ [.null, (.int g), (.int p0), (.int ve), (.int ck), (.ref ob0), (.ref ob0)]))
  refine Goes.go (fun _ kk => XS.aloadN X5.here hx rfl (hb hby d4_21) rfl rfl kk) ?_
  show Goes _ _ _ _ _ _ _ (T5.setTop (mkF m 22 _ [(.ref a), .null, (.int g), (.int p0), (.int ve), (.int ck), (.ref ob0), (.ref ob0)]))
  obtain ⟨T6, X6, e6, st6⟩ := getF X5 hx hZ hown (host := "") (Or.inl (hw _ (List.mem_of_getElem? (i := 20) rfl))) Via.refl e5 f_4 (g := (mkF m 22 #[.val (.ref a), .val (.int p0)] [(.ref a), .null, (.int g), (.int p0), (.int ve), (.int ck), (.ref ob0), (.ref ob0)])) rfl rfl (hb hby d4_22)
  refine Goes.go (st6) ?_
  show Goes _ _ _ _ _ _ _ (T6.setTop (mkF m 25 _ [.null, .null, (.int g), (.int p0), (.int ve), (.int ck), (.ref ob0), (.ref ob0)]))
  refine Goes.go (fun _ kk => XS.aloadN X6.here hx rfl (hb hby d4_25) rfl rfl kk) ?_
  show Goes _ _ _ _ _ _ _ (T6.setTop (mkF m 26 _ [(.ref a), .null, .null, (.int g), (.int p0), (.int ve), (.int ck), (.ref ob0), (.ref ob0)]))
  obtain ⟨T7, X7, e7, st7⟩ := getF X6 hx hZ hown (host := "") (Or.inl (hw _ (List.mem_of_getElem? (i := 22) rfl))) Via.refl e6 f_5 (g := (mkF m 26 #[.val (.ref a), .val (.int p0)] [(.ref a), .null, .null, (.int g), (.int p0), (.int ve), (.int ck), (.ref ob0), (.ref ob0)])) rfl rfl (hb hby d4_26)
  refine Goes.go (st7) ?_
  show Goes _ _ _ _ _ _ _ (T7.setTop (mkF m 29 _ [(.ref bb), .null, .null, (.int g), (.int p0), (.int ve), (.int ck), (.ref ob0), (.ref ob0)]))
  obtain ⟨_, _, ⟨T8, L8, k8, n8⟩, -, X8, ⟨Lc8, hQ8, l8, y8, z8⟩, st8⟩ := X7.specialBack hx (y := (⟨"com/example/xixi/xixi/remoting/RemotingCommand", "<init>", "(IIIILjava/lang/String;Ljava/util/Map;[B)V"⟩ : MethodName)) rfl hown (mvT hZ (hw _ (List.mem_of_getElem? (i := 35) rfl))) (mvT hZ (hw _ (List.mem_of_getElem? (i := 5) rfl))) (mvT hZ (hw _ (List.mem_of_getElem? (i := 6) rfl))) (by decide) (backOf (W := 1) (rmC1 l Z a0 hw [] ob0 ck ve p0 g bb h1 n0 Z1 A1 f_6 f_7 f_8 f_9 f_10 f_11 f_12 ge_ob0) hZ (hw _ (List.mem_of_getElem? (i := 6) rfl)) (hw _ (List.mem_of_getElem? (i := 2) rfl)) (by decide) (by decide)) (g := (mkF m 29 #[.val (.ref a), .val (.int p0)] [(.ref bb), .null, .null, (.int g), (.int p0), (.int ve), (.int ck), (.ref ob0), (.ref ob0)])) rfl (by rw [hml]; rfl) (Steps.refl _) (a := ob0) (argsL := [(.int ck), (.int ve), (.int p0), (.int g), .null, .null, (.ref bb)]) (rest := [(.ref ob0)]) (lenOf pd0 rfl) rfl (by show 2 * 0 + _ ≤ _; exact Nat.le_of_eq rfl) (hb hby d4_29) (fun _ _ => ⟨rfl, e7, (by decide : 1 + 0 ≤ _), (by decide : 7 + 0 ≤ _)⟩)
  dsimp only [Pt.U, Pt.locs, Pt.cells, Pt.slots] at X8 l8 y8 z8 st8 hQ8
  subst l8 y8 z8
  obtain ⟨rfl, Nq8, Kq8, Eq8, Fq8_0, Fq8_1, Fq8_2, Fq8_3, Fq8_4, Fq8_5, Fq8_6⟩ := hQ8
  have N8 := Fr.app N0 Nq8
  have Z8 : n0 ≤ T8.heap.size := Nat.le_trans Z1 Kq8.1
  have f_13 := Fld.keep f Kq8 (ninS ne_a_ob0 nin0)
  have f_14 := Fld.keep f_1 Kq8 (ninS ne_a_ob0 nin0)
  have f_15 := Fld.keep f_2 Kq8 (ninS ne_a_ob0 nin0)
  have f_16 := Fld.keep f_3 Kq8 (ninS ne_a_ob0 nin0)
  have f_17 := Fld.keep f_4 Kq8 (ninS ne_a_ob0 nin0)
  have f_18 := Fld.keep f_5 Kq8 (ninS ne_a_ob0 nin0)
  have K8 := K1.trans Kq8 (allS (Or.inr kge_ob0) all0)
  refine Goes.go (fun _ kk => st8.trans kk) ?_
  show Goes _ _ _ _ _ _ _ (T8.setTop (mkF m 32 _ [(.ref ob0)]))
  exact Goes.outA X8 hx hlk hret rfl rfl (hb hby d4_32) rfl ⟨ob0, rfl, N8, K8, Eq8, Fq8_3⟩ (by decide) (by decide)
theorem d8_0 : decode jdk_72_method_26_code 0 = .ok (.getstatic 81, 3) := by decide +kernel
theorem d8_3 : decode jdk_72_method_26_code 3 = .ok (.areturn, 1) := by decide +kernel
theorem pn1 : plainName "java/util/Map" = true := by first | (simp [plainName, overriddenIn]; done) | decide +kernel
theorem ef_rmM (m : MethodId)  : entryFrame m #[] 0 = mkF m 0 #[] [] := by first | (simp [entryFrame, mkF, argsToLocals, Value.category]; done) | rfl
def Q_rmM (Z : State) (mp : Addr) (h0 : Heap) (n0 : Nat) (v : Option Value) (h : Heap) (L : List Loc) : Prop := v = some (.ref mp) ∧ Fr n0 L ∧ h = h0
set_option maxRecDepth 65536 in
set_option maxHeartbeats 40000000 in
theorem rmM (l : Launch) (Z : State) (a0 : Array Value) (hw : ∀ d ∈ tables_1, d.before a0 Z = true) (ws : List Jvm.Cond) (mp : Addr) (h0 : Heap) (n0 : Nat) (Z0 : n0 ≤ h0.size) (S0 : Sta Z h0 "java/util/ImmutableCollections" "EMPTY_MAP" "Ljava/util/ImmutableCollections$MapN;" (.ref mp)) :
    MetFree l (⟨"java/util/Map", "of", "()Ljava/util/Map;"⟩ : MethodName) (head1 (Jvm.Cond.code (⟨"java/util/Map", "of", "()Ljava/util/Map;"⟩ : MethodName) jdk_72_method_26_code 0 (some (.object "java/util/Map")) :: ws) ({ frames := 0, cells := 0, slots := 0, locals := 0 } : Room)) (fun aa U => aa = #[] ∧ Z.Warmed39 U.vm ∧ U.heap = h0) (fun _ _ _ _ _ => True) (fun _ U oo U' => ∃ v L, oo = .returned v ∧ Q_rmM Z mp h0 n0 v U'.heap L ∧ FrameEnd U oo U' L ({ frames := 0, cells := 0, slots := 0, locals := 0 } : Room).cells ({ frames := 0, cells := 0, slots := 0, locals := 0 } : Room).slots) := by
  refine MetFree.of_bodySF (plainFor_of_name pn1) hisR ?_
  intro p e s m args below meth c s₁ Bd hml0 hP hK
  obtain ⟨rfl, hZ, hh⟩ := hP
  have hx := Bd.exec
  have hby := Bd.bytes
  have hml : c.maxLocals = 0 := hml0
  have hown : s.vm.findClass "java/util/Map" = some m.cls := findClass_of_methodNamed Bd.named
  have hnm := (name_of_methodNamed Bd.named Bd.method).1
  have hlk : meth.locks = false := Bd.notSynchronized
  have hret := Bd.returns
  have X0 : Stand p l e ({ frames := 0, cells := 0, slots := 0, locals := 0 } : Room) s m #[] below meth c s₁ [] 0 0 := Stand.of_body Bd
  have e0 : s₁.heap = h0 := by rw [← hh, Bd.state]; rfl
  have N0 := Fr.nil n0
  have K0 : Keep h0 h0 [] := Keep.refl _ _
  show Goes p e below s (Q_rmM Z mp h0 n0) ({ frames := 0, cells := 0, slots := 0, locals := 0 } : Room).cells ({ frames := 0, cells := 0, slots := 0, locals := 0 } : Room).slots _
  refine Goes.go (fun _ kk => castTop (ef_rmM m ) kk) ?_
  show Goes _ _ _ _ _ _ _ (s₁.setTop (mkF m 0 #[] []))
  obtain ⟨T1, X1, e1, st1⟩ := getS X0 hx hZ hown (host := "") (hw _ (List.mem_of_getElem? (i := 58) rfl)) Via.refl e0 S0 (g := (mkF m 0 #[] [])) rfl (hb hby d8_0)
  refine Goes.go (st1) ?_
  show Goes _ _ _ _ _ _ _ (T1.setTop (mkF m 3 _ [(.ref mp)]))
  exact Goes.outA X1 hx hlk hret rfl rfl (hb hby d8_3) e1 ⟨rfl, N0, rfl⟩ (by decide) (by decide)
theorem d10_0 : decode jdk_72_method_39_code 0 = .ok (.aload_n 0, 1) := by decide +kernel
theorem d10_1 : decode jdk_72_method_39_code 1 = .ok (.instanceof 101, 3) := by decide +kernel
theorem d10_4 : decode jdk_72_method_39_code 4 = .ok (.ifCond .eq 5, 3) := by decide +kernel
theorem d10_7 : decode jdk_72_method_39_code 7 = .ok (.aload_n 0, 1) := by decide +kernel
theorem d10_8 : decode jdk_72_method_39_code 8 = .ok (.areturn, 1) := by decide +kernel
theorem d10_9 : decode jdk_72_method_39_code 9 = .ok (.aload_n 0, 1) := by decide +kernel
theorem d10_10 : decode jdk_72_method_39_code 10 = .ok (.invokeinterface 103 1, 5) := by decide +kernel
theorem d10_15 : decode jdk_72_method_39_code 15 = .ok (.ifCond .eq 7, 3) := by decide +kernel
theorem d10_18 : decode jdk_72_method_39_code 18 = .ok (.invokestatic 106, 3) := by decide +kernel
theorem d10_21 : decode jdk_72_method_39_code 21 = .ok (.areturn, 1) := by decide +kernel
theorem d10_22 : decode jdk_72_method_39_code 22 = .ok (.aload_n 0, 1) := by decide +kernel
theorem d10_23 : decode jdk_72_method_39_code 23 = .ok (.invokeinterface 16 1, 5) := by decide +kernel
theorem d10_28 : decode jdk_72_method_39_code 28 = .ok (.iconst 0, 1) := by decide +kernel
theorem d10_29 : decode jdk_72_method_39_code 29 = .ok (.anewarray 36, 3) := by decide +kernel
theorem d10_32 : decode jdk_72_method_39_code 32 = .ok (.invokeinterface 110 2, 5) := by decide +kernel
theorem d10_37 : decode jdk_72_method_39_code 37 = .ok (.checkcast 114, 3) := by decide +kernel
theorem d10_40 : decode jdk_72_method_39_code 40 = .ok (.invokestatic 116, 3) := by decide +kernel
theorem d10_43 : decode jdk_72_method_39_code 43 = .ok (.areturn, 1) := by decide +kernel
theorem ef_rmC (m : MethodId) (mp : Addr) : entryFrame m #[(.ref mp)] 1 = mkF m 0 #[.val (.ref mp)] [] := by first | (simp [entryFrame, mkF, argsToLocals, Value.category]; done) | rfl
def Q_rmC (Z : State) (mp : Addr) (h0 : Heap) (n0 : Nat) (v : Option Value) (h : Heap) (L : List Loc) : Prop := v = some (.ref mp) ∧ Fr n0 L ∧ h = h0
set_option maxRecDepth 65536 in
set_option maxHeartbeats 40000000 in
theorem rmC (l : Launch) (Z : State) (a0 : Array Value) (hw : ∀ d ∈ tables_1, d.before a0 Z = true) (ws : List Jvm.Cond) (mp : Addr) (h0 : Heap) (n0 : Nat) (Z0 : n0 ≤ h0.size) (E0 : Exa Z h0 mp "java/util/ImmutableCollections$MapN") :
    MetFree l (⟨"java/util/Map", "copyOf", "(Ljava/util/Map;)Ljava/util/Map;"⟩ : MethodName) (head1 (Jvm.Cond.code (⟨"java/util/Map", "copyOf", "(Ljava/util/Map;)Ljava/util/Map;"⟩ : MethodName) jdk_72_method_39_code 1 (some (.object "java/util/Map")) :: ws) ({ frames := 0, cells := 0, slots := 0, locals := 0 } : Room)) (fun aa U => aa = #[(.ref mp)] ∧ Z.Warmed39 U.vm ∧ U.heap = h0) (fun _ _ _ _ _ => True) (fun _ U oo U' => ∃ v L, oo = .returned v ∧ Q_rmC Z mp h0 n0 v U'.heap L ∧ FrameEnd U oo U' L ({ frames := 0, cells := 0, slots := 0, locals := 0 } : Room).cells ({ frames := 0, cells := 0, slots := 0, locals := 0 } : Room).slots) := by
  refine MetFree.of_bodySF (plainFor_of_name pn1) hisR ?_
  intro p e s m args below meth c s₁ Bd hml0 hP hK
  obtain ⟨rfl, hZ, hh⟩ := hP
  have hx := Bd.exec
  have hby := Bd.bytes
  have hml : c.maxLocals = 1 := hml0
  have hown : s.vm.findClass "java/util/Map" = some m.cls := findClass_of_methodNamed Bd.named
  have hnm := (name_of_methodNamed Bd.named Bd.method).1
  have hlk : meth.locks = false := Bd.notSynchronized
  have hret := Bd.returns
  have X0 : Stand p l e ({ frames := 0, cells := 0, slots := 0, locals := 0 } : Room) s m #[(.ref mp)] below meth c s₁ [] 0 0 := Stand.of_body Bd
  have e0 : s₁.heap = h0 := by rw [← hh, Bd.state]; rfl
  have N0 := Fr.nil n0
  have K0 : Keep h0 h0 [] := Keep.refl _ _
  show Goes p e below s (Q_rmC Z mp h0 n0) ({ frames := 0, cells := 0, slots := 0, locals := 0 } : Room).cells ({ frames := 0, cells := 0, slots := 0, locals := 0 } : Room).slots _
  refine Goes.go (fun _ kk => castTop (ef_rmC m mp) kk) ?_
  show Goes _ _ _ _ _ _ _ (s₁.setTop (mkF m 0 #[.val (.ref mp)] []))
  refine Goes.go (fun _ kk => XS.aloadN X0.here hx rfl (hb hby d10_0) rfl rfl kk) ?_
  show Goes _ _ _ _ _ _ _ (s₁.setTop (mkF m 1 _ [(.ref mp)]))
  obtain ⟨T1, X1, e1, st1⟩ := instY X0 hx hZ hown (hw _ (List.mem_of_getElem? (i := 68) rfl)) e0 (Ins.of_exa E0 (hw _ (List.mem_of_getElem? (i := 69) rfl))) (g := (mkF m 1 #[.val (.ref mp)] [(.ref mp)])) rfl rfl (hb hby d10_1)
  refine Goes.go (st1) ?_
  show Goes _ _ _ _ _ _ _ (T1.setTop (mkF m 4 _ [(.int (1 : Int32))]))
  refine Goes.go (fun _ kk => XS.ifNo X1.here hx rfl (hb hby d10_4) rfl (XT.i0_eq_f (by decide)) kk) ?_
  show Goes _ _ _ _ _ _ _ (T1.setTop (mkF m 7 _ []))
  refine Goes.go (fun _ kk => XS.aloadN X1.here hx rfl (hb hby d10_7) rfl rfl kk) ?_
  show Goes _ _ _ _ _ _ _ (T1.setTop (mkF m 8 _ [(.ref mp)]))
  exact Goes.outA X1 hx hlk hret rfl rfl (hb hby d10_8) e1 ⟨rfl, N0, rfl⟩ (by decide) (by decide)
theorem d9_0 : decode prog_2_method_7_code 0 = .ok (.aload_n 0, 1) := by decide +kernel
theorem d9_1 : decode prog_2_method_7_code 1 = .ok (.invokevirtual 57, 3) := by decide +kernel
theorem d9_4 : decode prog_2_method_7_code 4 = .ok (.ifCond .eq 20, 3) := by decide +kernel
theorem d9_7 : decode prog_2_method_7_code 7 = .ok (.new 61, 3) := by decide +kernel
theorem d9_10 : decode prog_2_method_7_code 10 = .ok (.dup, 1) := by decide +kernel
theorem d9_11 : decode prog_2_method_7_code 11 = .ok (.aload_n 0, 1) := by decide +kernel
theorem d9_12 : decode prog_2_method_7_code 12 = .ok (.invokestatic 63, 3) := by decide +kernel
theorem d9_15 : decode prog_2_method_7_code 15 = .ok (.invokedynamic 69, 5) := by decide +kernel
theorem d9_20 : decode prog_2_method_7_code 20 = .ok (.invokespecial 73, 3) := by decide +kernel
theorem d9_23 : decode prog_2_method_7_code 23 = .ok (.athrow, 1) := by decide +kernel
theorem d9_24 : decode prog_2_method_7_code 24 = .ok (.new 8, 3) := by decide +kernel
theorem d9_27 : decode prog_2_method_7_code 27 = .ok (.dup, 1) := by decide +kernel
theorem d9_28 : decode prog_2_method_7_code 28 = .ok (.iload_n 1, 1) := by decide +kernel
theorem d9_29 : decode prog_2_method_7_code 29 = .ok (.aload_n 0, 1) := by decide +kernel
theorem d9_30 : decode prog_2_method_7_code 30 = .ok (.getfield 13, 3) := by decide +kernel
theorem d9_33 : decode prog_2_method_7_code 33 = .ok (.aload_n 0, 1) := by decide +kernel
theorem d9_34 : decode prog_2_method_7_code 34 = .ok (.getfield 16, 3) := by decide +kernel
theorem d9_37 : decode prog_2_method_7_code 37 = .ok (.iconst 1, 1) := by decide +kernel
theorem d9_38 : decode prog_2_method_7_code 38 = .ok (.aload_n 2, 1) := by decide +kernel
theorem d9_39 : decode prog_2_method_7_code 39 = .ok (.aload_n 3, 1) := by decide +kernel
theorem d9_40 : decode prog_2_method_7_code 40 = .ok (.invokestatic 34, 3) := by decide +kernel
theorem d9_43 : decode prog_2_method_7_code 43 = .ok (.aload 4, 2) := by decide +kernel
theorem d9_45 : decode prog_2_method_7_code 45 = .ok (.invokespecial 40, 3) := by decide +kernel
theorem d9_48 : decode prog_2_method_7_code 48 = .ok (.areturn, 1) := by decide +kernel
theorem ef_rm4null (m : MethodId) (a : Addr) (p0 : Int32) (mp : Addr) : entryFrame m #[(.ref a), (.int p0), .null, (.ref mp), .null] 5 = mkF m 0 #[.val (.ref a), .val (.int p0), .val .null, .val (.ref mp), .val .null] [] := by first | (simp [entryFrame, mkF, argsToLocals, Value.category]; done) | rfl
def Q_rm4null (Z : State) (a : Addr) (p0 : Int32) (mp : Addr) (ve : Int32) (oq : Int32) (g : Int32) (h0 : Heap) (n0 : Nat) (v : Option Value) (h : Heap) (L : List Loc) : Prop := ∃ x : Addr, v = some (.ref x) ∧ Fr n0 L ∧ Keep h0 h [] ∧ Exa Z h x "com/example/xixi/xixi/remoting/RemotingCommand" ∧ Fld Z h x "com/example/xixi/xixi/remoting/RemotingCommand" "flag" "I" (.int (1 : Int32))
set_option maxRecDepth 65536 in
set_option maxHeartbeats 40000000 in
theorem rm4null (l : Launch) (Z : State) (a0 : Array Value) (hw : ∀ d ∈ tables_1, d.before a0 Z = true) (ws : List Jvm.Cond) (a : Addr) (p0 : Int32) (mp : Addr) (ve : Int32) (oq : Int32) (g : Int32) (h0 : Heap) (n0 : Nat) (Z0 : n0 ≤ h0.size) (E0 : Exa Z h0 a "com/example/xixi/xixi/remoting/RemotingCommand") (F_version : Fld Z h0 a "com/example/xixi/xixi/remoting/RemotingCommand" "version" "I" (.int ve)) (F_opaque : Fld Z h0 a "com/example/xixi/xixi/remoting/RemotingCommand" "opaque" "I" (.int oq)) (F_flag : Fld Z h0 a "com/example/xixi/xixi/remoting/RemotingCommand" "flag" "I" (.int g)) (hg : rsF g = 0) (EM : Exa Z h0 mp "java/util/ImmutableCollections$MapN") :
    MetFree l (⟨"com/example/xixi/xixi/remoting/RemotingCommand", "respond", "(ILjava/lang/String;Ljava/util/Map;[B)Lcom/example/xixi/xixi/remoting/RemotingCommand;"⟩ : MethodName) (head1 (Jvm.Cond.code (⟨"com/example/xixi/xixi/remoting/RemotingCommand", "respond", "(ILjava/lang/String;Ljava/util/Map;[B)Lcom/example/xixi/xixi/remoting/RemotingCommand;"⟩ : MethodName) prog_2_method_7_code 5 (some (.object "com/example/xixi/xixi/remoting/RemotingCommand")) :: ws) ({ frames := 2, cells := 1, slots := 7, locals := 48 } : Room)) (fun aa U => aa = #[(.ref a), (.int p0), .null, (.ref mp), .null] ∧ Z.Warmed39 U.vm ∧ U.heap = h0) (fun _ _ _ _ _ => True) (fun _ U oo U' => ∃ v L, oo = .returned v ∧ Q_rm4null Z a p0 mp ve oq g h0 n0 v U'.heap L ∧ FrameEnd U oo U' L ({ frames := 2, cells := 1, slots := 7, locals := 48 } : Room).cells ({ frames := 2, cells := 1, slots := 7, locals := 48 } : Room).slots) := by
  refine MetFree.of_bodySF (plainFor_of_name pn0) hisR ?_
  intro p e s m args below meth c s₁ Bd hml0 hP hK
  obtain ⟨rfl, hZ, hh⟩ := hP
  have hx := Bd.exec
  have hby := Bd.bytes
  have hml : c.maxLocals = 5 := hml0
  have hown : s.vm.findClass "com/example/xixi/xixi/remoting/RemotingCommand" = some m.cls := findClass_of_methodNamed Bd.named
  have hnm := (name_of_methodNamed Bd.named Bd.method).1
  have hlk : meth.locks = false := Bd.notSynchronized
  have hret := Bd.returns
  have X0 : Stand p l e ({ frames := 2, cells := 1, slots := 7, locals := 48 } : Room) s m #[(.ref a), (.int p0), .null, (.ref mp), .null] below meth c s₁ [] 0 0 := Stand.of_body Bd
  have e0 : s₁.heap = h0 := by rw [← hh, Bd.state]; rfl
  have N0 := Fr.nil n0
  have K0 : Keep h0 h0 [] := Keep.refl _ _
  show Goes p e below s (Q_rm4null Z a p0 mp ve oq g h0 n0) ({ frames := 2, cells := 1, slots := 7, locals := 48 } : Room).cells ({ frames := 2, cells := 1, slots := 7, locals := 48 } : Room).slots _
  refine Goes.go (fun _ kk => castTop (ef_rm4null m a p0 mp) kk) ?_
  show Goes _ _ _ _ _ _ _ (s₁.setTop (mkF m 0 #[.val (.ref a), .val (.int p0), .val .null, .val (.ref mp), .val .null] []))
  refine Goes.go (fun _ kk => XS.aloadN X0.here hx rfl (hb hby d9_0) rfl rfl kk) ?_
  show Goes _ _ _ _ _ _ _ (s₁.setTop (mkF m 1 _ [(.ref a)]))
  obtain ⟨cq1, kq1, qa1, qb1, qc1⟩ := isOf hZ e0 E0
  obtain ⟨_, _, ⟨T1, L1, k1, n1⟩, -, X1, ⟨Lc1, hQ1, l1, y1, z1⟩, st1⟩ := X0.virtualBack hx (y := (⟨"com/example/xixi/xixi/remoting/RemotingCommand", "isResponse", "()Z"⟩ : MethodName)) (z := (⟨"com/example/xixi/xixi/remoting/RemotingCommand", "isResponse", "()Z"⟩ : MethodName)) hown (mvT hZ (hw _ (List.mem_of_getElem? (i := 41) rfl))) (mvT hZ (hw _ (List.mem_of_getElem? (i := 25) rfl))) (notFace_of_selects (args := #[]) (mvT hZ (hw _ (List.mem_of_getElem? (i := 27) rfl)))) (mvT hZ (hw _ (List.mem_of_getElem? (i := 27) rfl))) (mvT hZ (hw _ (List.mem_of_getElem? (i := 26) rfl))) (by decide) (backOf (W := 0) (rmR l Z a0 hw [] a g h0 n0 Z0 F_flag) hZ (hw _ (List.mem_of_getElem? (i := 28) rfl)) (hw _ (List.mem_of_getElem? (i := 2) rfl)) (by decide) (by decide)) qa1 qc1 (g := (mkF m 1 #[.val (.ref a), .val (.int p0), .val .null, .val (.ref mp), .val .null] [(.ref a)])) rfl (by rw [hml]; rfl) (Steps.refl _) (argsL := []) (rest := []) (lenOf pd2 rfl) rfl (by show 2 * 0 + _ ≤ _; exact Nat.le_of_eq rfl) (hb hby d9_1) (fun _ _ => ⟨rfl, e0, (by decide : 0 + 0 ≤ _), (by decide : 0 + 0 ≤ _)⟩)
  dsimp only [Pt.U, Pt.locs, Pt.cells, Pt.slots] at X1 l1 y1 z1 st1 hQ1
  subst l1 y1 z1
  obtain ⟨rfl, Nq1, hh1⟩ := hQ1
  have N1 := Fr.app N0 Nq1
  refine Goes.go (fun _ kk => st1.trans kk) ?_
  show Goes _ _ _ _ _ _ _ (T1.setTop (mkF m 4 _ [(.int (rsF g))]))
  refine Goes.go (fun _ kk => XS.ifYes X1.here hx rfl (pc0 := 4) (pc' := 24) rfl (hb hby d9_4) rfl (XT.i0_eq_t hg) (by decide) (by decide) kk) ?_
  show Goes _ _ _ _ _ _ _ (T1.setTop (mkF m 24 _ []))
  obtain ⟨T2, h2, X2, e2, E2, A2, D2, -, st2⟩ := newO X1 hx hZ hown (hw _ (List.mem_of_getElem? (i := 34) rfl)) (hw _ (List.mem_of_getElem? (i := 1) rfl)) (hw _ (List.mem_of_getElem? (i := 2) rfl)) hh1 (g := (mkF m 24 #[.val (.ref a), .val (.int p0), .val .null, .val (.ref mp), .val .null] [])) rfl (hb hby d9_24) (by decide) (by decide)
  obtain ⟨ob24, gob24⟩ : ∃ z, z = h0.size := ⟨_, rfl⟩
  rw [← gob24] at A2 D2 st2
  have ne_a_ob24 : a ≠ ob24 := by rw [gob24]; exact Nat.ne_of_lt E0.lt
  have ne_mp_ob24 : mp ≠ ob24 := by rw [gob24]; exact Nat.ne_of_lt EM.lt
  have f := Exa.ext E2 E0
  have f_1 := Fld.ext E2 F_version
  have f_2 := Fld.ext E2 F_opaque
  have f_3 := Fld.ext E2 F_flag
  have f_4 := Exa.ext E2 EM
  have Z2 : n0 ≤ h2.size := Nat.le_trans Z0 E2.1
  have ge_ob24 : n0 ≤ ob24 := Nat.le_trans Z0 (Nat.le_of_eq gob24.symm)
  have kge_ob24 : h0.size ≤ ob24 := by rw [gob24]; exact K0.1
  have f_5 : Fld Z h2 ob24 "com/example/xixi/xixi/remoting/RemotingCommand" "code" "I" (.int (0 : Int32)) := D2 (Or.inr (hw _ (List.mem_of_getElem? (i := 11) rfl))) (ty := .int) (by decide)
  have f_6 : Fld Z h2 ob24 "com/example/xixi/xixi/remoting/RemotingCommand" "version" "I" (.int (0 : Int32)) := D2 (Or.inr (hw _ (List.mem_of_getElem? (i := 13) rfl))) (ty := .int) (by decide)
  have f_7 : Fld Z h2 ob24 "com/example/xixi/xixi/remoting/RemotingCommand" "opaque" "I" (.int (0 : Int32)) := D2 (Or.inr (hw _ (List.mem_of_getElem? (i := 15) rfl))) (ty := .int) (by decide)
  have f_8 : Fld Z h2 ob24 "com/example/xixi/xixi/remoting/RemotingCommand" "flag" "I" (.int (0 : Int32)) := D2 (Or.inr (hw _ (List.mem_of_getElem? (i := 17) rfl))) (ty := .int) (by decide)
  have f_9 : Fld Z h2 ob24 "com/example/xixi/xixi/remoting/RemotingCommand" "remark" "Ljava/lang/String;" .null := D2 (Or.inr (hw _ (List.mem_of_getElem? (i := 19) rfl))) (ty := (.object "java/lang/String")) (by decide)
  have f_10 : Fld Z h2 ob24 "com/example/xixi/xixi/remoting/RemotingCommand" "extFields" "Ljava/util/Map;" .null := D2 (Or.inr (hw _ (List.mem_of_getElem? (i := 21) rfl))) (ty := (.object "java/util/Map")) (by decide)
  have f_11 : Fld Z h2 ob24 "com/example/xixi/xixi/remoting/RemotingCommand" "body" "[B" .null := D2 (Or.inr (hw _ (List.mem_of_getElem? (i := 23) rfl))) (ty := (.array .byte)) (by decide)
  have K2 := K0.ext E2
  refine Goes.go (st2) ?_
  show Goes _ _ _ _ _ _ _ (T2.setTop (mkF m 27 _ [(.ref ob24)]))
  refine Goes.go (fun _ kk => XS.dup X2.here hx rfl (hb hby d9_27) rfl rfl kk) ?_
  show Goes _ _ _ _ _ _ _ (T2.setTop (mkF m 28 _ [(.ref ob24), (.ref ob24)]))
  refine Goes.go (fun _ kk => XS.iloadN X2.here hx rfl (hb hby d9_28) rfl kk) ?_
  show Goes _ _ _ _ _ _ _ (T2.setTop (mkF m 29 _ [(.int p0), (.ref ob24), (.ref ob24)]))
  refine Goes.go (fun _ kk => XS.aloadN X2.here hx rfl (hb hby d9_29) rfl rfl kk) ?_
  show Goes _ _ _ _ _ _ _ (T2.setTop (mkF m 30 _ [(.ref a), (.int p0), (.ref ob24), (.ref ob24)]))
  obtain ⟨T3, X3, e3, st3⟩ := getF X2 hx hZ hown (host := "") (Or.inl (hw _ (List.mem_of_getElem? (i := 12) rfl))) Via.refl e2 f_1 (g := (mkF m 30 #[.val (.ref a), .val (.int p0), .val .null, .val (.ref mp), .val .null] [(.ref a), (.int p0), (.ref ob24), (.ref ob24)])) rfl rfl (hb hby d9_30)
  refine Goes.go (st3) ?_
  show Goes _ _ _ _ _ _ _ (T3.setTop (mkF m 33 _ [(.int ve), (.int p0), (.ref ob24), (.ref ob24)]))
  refine Goes.go (fun _ kk => XS.aloadN X3.here hx rfl (hb hby d9_33) rfl rfl kk) ?_
  show Goes _ _ _ _ _ _ _ (T3.setTop (mkF m 34 _ [(.ref a), (.int ve), (.int p0), (.ref ob24), (.ref ob24)]))
  obtain ⟨T4, X4, e4, st4⟩ := getF X3 hx hZ hown (host := "") (Or.inl (hw _ (List.mem_of_getElem? (i := 14) rfl))) Via.refl e3 f_2 (g := (mkF m 34 #[.val (.ref a), .val (.int p0), .val .null, .val (.ref mp), .val .null] [(.ref a), (.int ve), (.int p0), (.ref ob24), (.ref ob24)])) rfl rfl (hb hby d9_34)
  refine Goes.go (st4) ?_
  show Goes _ _ _ _ _ _ _ (T4.setTop (mkF m 37 _ [(.int oq), (.int ve), (.int p0), (.ref ob24), (.ref ob24)]))
  refine Goes.go (fun _ kk => XS.iconst X4.here hx rfl (hb hby d9_37) kk) ?_
  show Goes _ _ _ _ _ _ _ (T4.setTop (mkF m 38 _ [(.int (1 : Int32)), (.int oq), (.int ve), (.int p0), (.ref ob24), (.ref ob24)]))
  refine Goes.go (fun _ kk => XS.aloadN X4.here hx rfl (hb hby d9_38) rfl rfl kk) ?_
  show Goes _ _ _ _ _ _ _ (T4.setTop (mkF m 39 _ [.null, (.int (1 : Int32)), (.int oq), (.int ve), (.int p0), (.ref ob24), (.ref ob24)]))
  refine Goes.go (fun _ kk => XS.aloadN X4.here hx rfl (hb hby d9_39) rfl rfl kk) ?_
  show Goes _ _ _ _ _ _ _ (T4.setTop (mkF m 40 _ [(.ref mp), .null, (.int (1 : Int32)), (.int oq), (.int ve), (.int p0), (.ref ob24), (.ref ob24)]))
  obtain ⟨_, _, ⟨T5, L5, k5, n5⟩, -, X5, ⟨Lc5, hQ5, l5, y5, z5⟩, st5⟩ := Jvm.LawKit.callS X4 hx (y := (⟨"java/util/Map", "copyOf", "(Ljava/util/Map;)Ljava/util/Map;"⟩ : MethodName)) hown (mvT hZ (hw _ (List.mem_of_getElem? (i := 65) rfl))) (mvT hZ (hw _ (List.mem_of_getElem? (i := 66) rfl))) (mvT hZ (hw _ (List.mem_of_getElem? (i := 56) rfl))) (mvT hZ (hw _ (List.mem_of_getElem? (i := 67) rfl))) (by decide) (backOf (W := 7) (rmC l Z a0 hw [] mp h2 n0 Z2 f_4) hZ (hw _ (List.mem_of_getElem? (i := 67) rfl)) (hw _ (List.mem_of_getElem? (i := 56) rfl)) (by decide) (by decide)) (g := (mkF m 40 #[.val (.ref a), .val (.int p0), .val .null, .val (.ref mp), .val .null] [(.ref mp), .null, (.int (1 : Int32)), (.int oq), (.int ve), (.int p0), (.ref ob24), (.ref ob24)])) rfl (by rw [hml]; rfl) (argsL := [(.ref mp)]) (rest := [.null, (.int (1 : Int32)), (.int oq), (.int ve), (.int p0), (.ref ob24), (.ref ob24)]) (lenOf pd8 rfl) rfl (by show 2 * 0 + _ ≤ _; exact Nat.le_of_eq rfl) (hb hby d9_40) (fun _ _ => ⟨rfl, e4, (by decide : 1 + 0 ≤ _), (by decide : 7 + 0 ≤ _)⟩)
  dsimp only [Pt.U, Pt.locs, Pt.cells, Pt.slots] at X5 l5 y5 z5 st5 hQ5
  subst l5 y5 z5
  obtain ⟨rfl, Nq5, hh5⟩ := hQ5
  have N5 := Fr.app N1 Nq5
  refine Goes.go (st5) ?_
  show Goes _ _ _ _ _ _ _ (T5.setTop (mkF m 43 _ [(.ref mp), .null, (.int (1 : Int32)), (.int oq), (.int ve), (.int p0), (.ref ob24), (.ref ob24)]))
  refine Goes.go (fun _ kk => XS.aload X5.here hx rfl (hb hby d9_43) rfl rfl kk) ?_
  show Goes _ _ _ _ _ _ _ (T5.setTop (mkF m 45 _ [.null, (.ref mp), .null, (.int (1 : Int32)), (.int oq), (.int ve), (.int p0), (.ref ob24), (.ref ob24)]))
  obtain ⟨_, _, ⟨T6, L6, k6, n6⟩, -, X6, ⟨Lc6, hQ6, l6, y6, z6⟩, st6⟩ := X5.specialBack hx (y := (⟨"com/example/xixi/xixi/remoting/RemotingCommand", "<init>", "(IIIILjava/lang/String;Ljava/util/Map;[B)V"⟩ : MethodName)) rfl hown (mvT hZ (hw _ (List.mem_of_getElem? (i := 35) rfl))) (mvT hZ (hw _ (List.mem_of_getElem? (i := 5) rfl))) (mvT hZ (hw _ (List.mem_of_getElem? (i := 6) rfl))) (by decide) (backOf (W := 1) (rmC3 l Z a0 hw [] ob24 p0 ve oq (1 : Int32) mp h2 n0 Z2 A2 f_5 f_6 f_7 f_8 f_9 f_10 f_11 ge_ob24) hZ (hw _ (List.mem_of_getElem? (i := 6) rfl)) (hw _ (List.mem_of_getElem? (i := 2) rfl)) (by decide) (by decide)) (g := (mkF m 45 #[.val (.ref a), .val (.int p0), .val .null, .val (.ref mp), .val .null] [.null, (.ref mp), .null, (.int (1 : Int32)), (.int oq), (.int ve), (.int p0), (.ref ob24), (.ref ob24)])) rfl (by rw [hml]; rfl) (Steps.refl _) (a := ob24) (argsL := [(.int p0), (.int ve), (.int oq), (.int (1 : Int32)), .null, (.ref mp), .null]) (rest := [(.ref ob24)]) (lenOf pd0 rfl) rfl (by show 2 * 0 + _ ≤ _; exact Nat.le_of_eq rfl) (hb hby d9_45) (fun _ _ => ⟨rfl, hh5, (by decide : 1 + 0 ≤ _), (by decide : 7 + 0 ≤ _)⟩)
  dsimp only [Pt.U, Pt.locs, Pt.cells, Pt.slots] at X6 l6 y6 z6 st6 hQ6
  subst l6 y6 z6
  obtain ⟨rfl, Nq6, Kq6, Eq6, Fq6_0, Fq6_1, Fq6_2, Fq6_3, Fq6_4, Fq6_5, Fq6_6⟩ := hQ6
  have N6 := Fr.app N5 Nq6
  have Z6 : n0 ≤ T6.heap.size := Nat.le_trans Z2 Kq6.1
  have f_12 := Exa.keep f Kq6
  have f_13 := Fld.keep f_1 Kq6 (ninS ne_a_ob24 nin0)
  have f_14 := Fld.keep f_2 Kq6 (ninS ne_a_ob24 nin0)
  have f_15 := Fld.keep f_3 Kq6 (ninS ne_a_ob24 nin0)
  have f_16 := Exa.keep f_4 Kq6
  have K6 := K2.trans Kq6 (allS (Or.inr kge_ob24) all0)
  refine Goes.go (fun _ kk => st6.trans kk) ?_
  show Goes _ _ _ _ _ _ _ (T6.setTop (mkF m 48 _ [(.ref ob24)]))
  exact Goes.outA X6 hx hlk hret rfl rfl (hb hby d9_48) rfl ⟨ob24, rfl, N6, K6, Eq6, Fq6_3⟩ (by decide) (by decide)
theorem d7_0 : decode prog_2_method_5_code 0 = .ok (.aload_n 0, 1) := by decide +kernel
theorem d7_1 : decode prog_2_method_5_code 1 = .ok (.iload_n 1, 1) := by decide +kernel
theorem d7_2 : decode prog_2_method_5_code 2 = .ok (.aload_n 2, 1) := by decide +kernel
theorem d7_3 : decode prog_2_method_5_code 3 = .ok (.invokestatic 50, 3) := by decide +kernel
theorem d7_6 : decode prog_2_method_5_code 6 = .ok (.aload_n 3, 1) := by decide +kernel
theorem d7_7 : decode prog_2_method_5_code 7 = .ok (.invokevirtual 54, 3) := by decide +kernel
theorem d7_10 : decode prog_2_method_5_code 10 = .ok (.areturn, 1) := by decide +kernel
theorem ef_rm3null (m : MethodId) (a : Addr) (p0 : Int32) : entryFrame m #[(.ref a), (.int p0), .null, .null] 4 = mkF m 0 #[.val (.ref a), .val (.int p0), .val .null, .val .null] [] := by first | (simp [entryFrame, mkF, argsToLocals, Value.category]; done) | rfl
def Q_rm3null (Z : State) (a : Addr) (p0 : Int32) (mp : Addr) (ve : Int32) (oq : Int32) (g : Int32) (h0 : Heap) (n0 : Nat) (v : Option Value) (h : Heap) (L : List Loc) : Prop := ∃ x : Addr, v = some (.ref x) ∧ Fr n0 L ∧ Keep h0 h [] ∧ Exa Z h x "com/example/xixi/xixi/remoting/RemotingCommand" ∧ Fld Z h x "com/example/xixi/xixi/remoting/RemotingCommand" "flag" "I" (.int (1 : Int32))
set_option maxRecDepth 65536 in
set_option maxHeartbeats 40000000 in
theorem rm3null (l : Launch) (Z : State) (a0 : Array Value) (hw : ∀ d ∈ tables_1, d.before a0 Z = true) (ws : List Jvm.Cond) (a : Addr) (p0 : Int32) (mp : Addr) (ve : Int32) (oq : Int32) (g : Int32) (h0 : Heap) (n0 : Nat) (Z0 : n0 ≤ h0.size) (E0 : Exa Z h0 a "com/example/xixi/xixi/remoting/RemotingCommand") (F_version : Fld Z h0 a "com/example/xixi/xixi/remoting/RemotingCommand" "version" "I" (.int ve)) (F_opaque : Fld Z h0 a "com/example/xixi/xixi/remoting/RemotingCommand" "opaque" "I" (.int oq)) (F_flag : Fld Z h0 a "com/example/xixi/xixi/remoting/RemotingCommand" "flag" "I" (.int g)) (hg : rsF g = 0) (EM : Exa Z h0 mp "java/util/ImmutableCollections$MapN") (S0 : Sta Z h0 "java/util/ImmutableCollections" "EMPTY_MAP" "Ljava/util/ImmutableCollections$MapN;" (.ref mp)) :
    MetFree l (⟨"com/example/xixi/xixi/remoting/RemotingCommand", "respond", "(ILjava/lang/String;[B)Lcom/example/xixi/xixi/remoting/RemotingCommand;"⟩ : MethodName) (head1 (Jvm.Cond.code (⟨"com/example/xixi/xixi/remoting/RemotingCommand", "respond", "(ILjava/lang/String;[B)Lcom/example/xixi/xixi/remoting/RemotingCommand;"⟩ : MethodName) prog_2_method_5_code 4 (some (.object "com/example/xixi/xixi/remoting/RemotingCommand")) :: ws) ({ frames := 3, cells := 1, slots := 7, locals := 80 } : Room)) (fun aa U => aa = #[(.ref a), (.int p0), .null, .null] ∧ Z.Warmed39 U.vm ∧ U.heap = h0) (fun _ _ _ _ _ => True) (fun _ U oo U' => ∃ v L, oo = .returned v ∧ Q_rm3null Z a p0 mp ve oq g h0 n0 v U'.heap L ∧ FrameEnd U oo U' L ({ frames := 3, cells := 1, slots := 7, locals := 80 } : Room).cells ({ frames := 3, cells := 1, slots := 7, locals := 80 } : Room).slots) := by
  refine MetFree.of_bodySF (plainFor_of_name pn0) hisR ?_
  intro p e s m args below meth c s₁ Bd hml0 hP hK
  obtain ⟨rfl, hZ, hh⟩ := hP
  have hx := Bd.exec
  have hby := Bd.bytes
  have hml : c.maxLocals = 4 := hml0
  have hown : s.vm.findClass "com/example/xixi/xixi/remoting/RemotingCommand" = some m.cls := findClass_of_methodNamed Bd.named
  have hnm := (name_of_methodNamed Bd.named Bd.method).1
  have hlk : meth.locks = false := Bd.notSynchronized
  have hret := Bd.returns
  have X0 : Stand p l e ({ frames := 3, cells := 1, slots := 7, locals := 80 } : Room) s m #[(.ref a), (.int p0), .null, .null] below meth c s₁ [] 0 0 := Stand.of_body Bd
  have e0 : s₁.heap = h0 := by rw [← hh, Bd.state]; rfl
  have N0 := Fr.nil n0
  have K0 : Keep h0 h0 [] := Keep.refl _ _
  show Goes p e below s (Q_rm3null Z a p0 mp ve oq g h0 n0) ({ frames := 3, cells := 1, slots := 7, locals := 80 } : Room).cells ({ frames := 3, cells := 1, slots := 7, locals := 80 } : Room).slots _
  refine Goes.go (fun _ kk => castTop (ef_rm3null m a p0) kk) ?_
  show Goes _ _ _ _ _ _ _ (s₁.setTop (mkF m 0 #[.val (.ref a), .val (.int p0), .val .null, .val .null] []))
  refine Goes.go (fun _ kk => XS.aloadN X0.here hx rfl (hb hby d7_0) rfl rfl kk) ?_
  show Goes _ _ _ _ _ _ _ (s₁.setTop (mkF m 1 _ [(.ref a)]))
  refine Goes.go (fun _ kk => XS.iloadN X0.here hx rfl (hb hby d7_1) rfl kk) ?_
  show Goes _ _ _ _ _ _ _ (s₁.setTop (mkF m 2 _ [(.int p0), (.ref a)]))
  refine Goes.go (fun _ kk => XS.aloadN X0.here hx rfl (hb hby d7_2) rfl rfl kk) ?_
  show Goes _ _ _ _ _ _ _ (s₁.setTop (mkF m 3 _ [.null, (.int p0), (.ref a)]))
  obtain ⟨_, _, ⟨T1, L1, k1, n1⟩, -, X1, ⟨Lc1, hQ1, l1, y1, z1⟩, st1⟩ := Jvm.LawKit.callS X0 hx (y := (⟨"java/util/Map", "of", "()Ljava/util/Map;"⟩ : MethodName)) hown (mvT hZ (hw _ (List.mem_of_getElem? (i := 54) rfl))) (mvT hZ (hw _ (List.mem_of_getElem? (i := 55) rfl))) (mvT hZ (hw _ (List.mem_of_getElem? (i := 56) rfl))) (mvT hZ (hw _ (List.mem_of_getElem? (i := 57) rfl))) (by decide) (backOf (W := 3) (rmM l Z a0 hw [] mp h0 n0 Z0 S0) hZ (hw _ (List.mem_of_getElem? (i := 57) rfl)) (hw _ (List.mem_of_getElem? (i := 56) rfl)) (by decide) (by decide)) (g := (mkF m 3 #[.val (.ref a), .val (.int p0), .val .null, .val .null] [.null, (.int p0), (.ref a)])) rfl (by rw [hml]; rfl) (argsL := []) (rest := [.null, (.int p0), (.ref a)]) (lenOf pd6 rfl) rfl (by show 2 * 0 + _ ≤ _; exact Nat.le_of_eq rfl) (hb hby d7_3) (fun _ _ => ⟨rfl, e0, (by decide : 0 + 0 ≤ _), (by decide : 0 + 0 ≤ _)⟩)
  dsimp only [Pt.U, Pt.locs, Pt.cells, Pt.slots] at X1 l1 y1 z1 st1 hQ1
  subst l1 y1 z1
  obtain ⟨rfl, Nq1, hh1⟩ := hQ1
  have N1 := Fr.app N0 Nq1
  refine Goes.go (st1) ?_
  show Goes _ _ _ _ _ _ _ (T1.setTop (mkF m 6 _ [(.ref mp), .null, (.int p0), (.ref a)]))
  refine Goes.go (fun _ kk => XS.aloadN X1.here hx rfl (hb hby d7_6) rfl rfl kk) ?_
  show Goes _ _ _ _ _ _ _ (T1.setTop (mkF m 7 _ [.null, (.ref mp), .null, (.int p0), (.ref a)]))
  obtain ⟨cq2, kq2, qa2, qb2, qc2⟩ := isOf hZ hh1 E0
  obtain ⟨_, _, ⟨T2, L2, k2, n2⟩, -, X2, ⟨Lc2, hQ2, l2, y2, z2⟩, st2⟩ := X1.virtualBack hx (y := (⟨"com/example/xixi/xixi/remoting/RemotingCommand", "respond", "(ILjava/lang/String;Ljava/util/Map;[B)Lcom/example/xixi/xixi/remoting/RemotingCommand;"⟩ : MethodName)) (z := (⟨"com/example/xixi/xixi/remoting/RemotingCommand", "respond", "(ILjava/lang/String;Ljava/util/Map;[B)Lcom/example/xixi/xixi/remoting/RemotingCommand;"⟩ : MethodName)) hown (mvT hZ (hw _ (List.mem_of_getElem? (i := 60) rfl))) (mvT hZ (hw _ (List.mem_of_getElem? (i := 61) rfl))) (notFace_of_selects (args := #[]) (mvT hZ (hw _ (List.mem_of_getElem? (i := 63) rfl)))) (mvT hZ (hw _ (List.mem_of_getElem? (i := 63) rfl))) (mvT hZ (hw _ (List.mem_of_getElem? (i := 62) rfl))) (by decide) (backOf (W := 0) (rm4null l Z a0 hw [] a p0 mp ve oq g h0 n0 Z0 E0 F_version F_opaque F_flag hg EM) hZ (hw _ (List.mem_of_getElem? (i := 64) rfl)) (hw _ (List.mem_of_getElem? (i := 2) rfl)) (by decide) (by decide)) qa2 qc2 (g := (mkF m 7 #[.val (.ref a), .val (.int p0), .val .null, .val .null] [.null, (.ref mp), .null, (.int p0), (.ref a)])) rfl (by rw [hml]; rfl) (Steps.refl _) (argsL := [(.int p0), .null, (.ref mp), .null]) (rest := []) (lenOf pd7 rfl) rfl (by show 2 * 0 + _ ≤ _; exact Nat.le_of_eq rfl) (hb hby d7_7) (fun _ _ => ⟨rfl, hh1, (by decide : 0 + 1 ≤ _), (by decide : 0 + 7 ≤ _)⟩)
  dsimp only [Pt.U, Pt.locs, Pt.cells, Pt.slots] at X2 l2 y2 z2 st2 hQ2
  subst l2 y2 z2
  obtain ⟨xr2, rfl, Nq2, Kq2, Eq2, Fq2⟩ := hQ2
  have N2 := Fr.app N1 Nq2
  have Z2 : n0 ≤ T2.heap.size := Nat.le_trans Z0 Kq2.1
  have f := Exa.keep E0 Kq2
  have f_1 := Fld.keep F_version Kq2 nin0
  have f_2 := Fld.keep F_opaque Kq2 nin0
  have f_3 := Fld.keep F_flag Kq2 nin0
  have f_4 := Exa.keep EM Kq2
  have K2 := K0.trans Kq2 all0
  refine Goes.go (fun _ kk => st2.trans kk) ?_
  show Goes _ _ _ _ _ _ _ (T2.setTop (mkF m 10 _ [(.ref xr2)]))
  exact Goes.outA X2 hx hlk hret rfl rfl (hb hby d7_10) rfl ⟨xr2, rfl, N2, K2, Eq2, Fq2⟩ (by decide) (by decide)
theorem d6_0 : decode prog_2_method_4_code 0 = .ok (.aload_n 0, 1) := by decide +kernel
theorem d6_1 : decode prog_2_method_4_code 1 = .ok (.iload_n 1, 1) := by decide +kernel
theorem d6_2 : decode prog_2_method_4_code 2 = .ok (.aload_n 2, 1) := by decide +kernel
theorem d6_3 : decode prog_2_method_4_code 3 = .ok (.getstatic 43, 3) := by decide +kernel
theorem d6_6 : decode prog_2_method_4_code 6 = .ok (.invokevirtual 46, 3) := by decide +kernel
theorem d6_9 : decode prog_2_method_4_code 9 = .ok (.areturn, 1) := by decide +kernel
theorem ef_rm2null (m : MethodId) (a : Addr) (p0 : Int32) : entryFrame m #[(.ref a), (.int p0), .null] 3 = mkF m 0 #[.val (.ref a), .val (.int p0), .val .null] [] := by first | (simp [entryFrame, mkF, argsToLocals, Value.category]; done) | rfl
def Q_rm2null (Z : State) (a : Addr) (p0 : Int32) (mp : Addr) (ve : Int32) (oq : Int32) (g : Int32) (h0 : Heap) (n0 : Nat) (v : Option Value) (h : Heap) (L : List Loc) : Prop := ∃ x : Addr, v = some (.ref x) ∧ Fr n0 L ∧ Keep h0 h [] ∧ Exa Z h x "com/example/xixi/xixi/remoting/RemotingCommand" ∧ Fld Z h x "com/example/xixi/xixi/remoting/RemotingCommand" "flag" "I" (.int (1 : Int32))
set_option maxRecDepth 65536 in
set_option maxHeartbeats 40000000 in
theorem rm2null (l : Launch) (Z : State) (a0 : Array Value) (hw : ∀ d ∈ tables_1, d.before a0 Z = true) (ws : List Jvm.Cond) (a : Addr) (p0 : Int32) (mp : Addr) (ve : Int32) (oq : Int32) (g : Int32) (h0 : Heap) (n0 : Nat) (Z0 : n0 ≤ h0.size) (E0 : Exa Z h0 a "com/example/xixi/xixi/remoting/RemotingCommand") (F_version : Fld Z h0 a "com/example/xixi/xixi/remoting/RemotingCommand" "version" "I" (.int ve)) (F_opaque : Fld Z h0 a "com/example/xixi/xixi/remoting/RemotingCommand" "opaque" "I" (.int oq)) (F_flag : Fld Z h0 a "com/example/xixi/xixi/remoting/RemotingCommand" "flag" "I" (.int g)) (hg : rsF g = 0) (EM : Exa Z h0 mp "java/util/ImmutableCollections$MapN") (S0 : Sta Z h0 "java/util/ImmutableCollections" "EMPTY_MAP" "Ljava/util/ImmutableCollections$MapN;" (.ref mp)) (S1 : Sta Z h0 "com/example/xixi/xixi/remoting/RemotingCommand" "NO_BODY" "[B" .null) :
    MetFree l (⟨"com/example/xixi/xixi/remoting/RemotingCommand", "respond", "(ILjava/lang/String;)Lcom/example/xixi/xixi/remoting/RemotingCommand;"⟩ : MethodName) (head1 (Jvm.Cond.code (⟨"com/example/xixi/xixi/remoting/RemotingCommand", "respond", "(ILjava/lang/String;)Lcom/example/xixi/xixi/remoting/RemotingCommand;"⟩ : MethodName) prog_2_method_4_code 3 (some (.object "com/example/xixi/xixi/remoting/RemotingCommand")) :: ws) ({ frames := 4, cells := 1, slots := 7, locals := 110 } : Room)) (fun aa U => aa = #[(.ref a), (.int p0), .null] ∧ Z.Warmed39 U.vm ∧ U.heap = h0) (fun _ _ _ _ _ => True) (fun _ U oo U' => ∃ v L, oo = .returned v ∧ Q_rm2null Z a p0 mp ve oq g h0 n0 v U'.heap L ∧ FrameEnd U oo U' L ({ frames := 4, cells := 1, slots := 7, locals := 110 } : Room).cells ({ frames := 4, cells := 1, slots := 7, locals := 110 } : Room).slots) := by
  refine MetFree.of_bodySF (plainFor_of_name pn0) hisR ?_
  intro p e s m args below meth c s₁ Bd hml0 hP hK
  obtain ⟨rfl, hZ, hh⟩ := hP
  have hx := Bd.exec
  have hby := Bd.bytes
  have hml : c.maxLocals = 3 := hml0
  have hown : s.vm.findClass "com/example/xixi/xixi/remoting/RemotingCommand" = some m.cls := findClass_of_methodNamed Bd.named
  have hnm := (name_of_methodNamed Bd.named Bd.method).1
  have hlk : meth.locks = false := Bd.notSynchronized
  have hret := Bd.returns
  have X0 : Stand p l e ({ frames := 4, cells := 1, slots := 7, locals := 110 } : Room) s m #[(.ref a), (.int p0), .null] below meth c s₁ [] 0 0 := Stand.of_body Bd
  have e0 : s₁.heap = h0 := by rw [← hh, Bd.state]; rfl
  have N0 := Fr.nil n0
  have K0 : Keep h0 h0 [] := Keep.refl _ _
  show Goes p e below s (Q_rm2null Z a p0 mp ve oq g h0 n0) ({ frames := 4, cells := 1, slots := 7, locals := 110 } : Room).cells ({ frames := 4, cells := 1, slots := 7, locals := 110 } : Room).slots _
  refine Goes.go (fun _ kk => castTop (ef_rm2null m a p0) kk) ?_
  show Goes _ _ _ _ _ _ _ (s₁.setTop (mkF m 0 #[.val (.ref a), .val (.int p0), .val .null] []))
  refine Goes.go (fun _ kk => XS.aloadN X0.here hx rfl (hb hby d6_0) rfl rfl kk) ?_
  show Goes _ _ _ _ _ _ _ (s₁.setTop (mkF m 1 _ [(.ref a)]))
  refine Goes.go (fun _ kk => XS.iloadN X0.here hx rfl (hb hby d6_1) rfl kk) ?_
  show Goes _ _ _ _ _ _ _ (s₁.setTop (mkF m 2 _ [(.int p0), (.ref a)]))
  refine Goes.go (fun _ kk => XS.aloadN X0.here hx rfl (hb hby d6_2) rfl rfl kk) ?_
  show Goes _ _ _ _ _ _ _ (s₁.setTop (mkF m 3 _ [.null, (.int p0), (.ref a)]))
  obtain ⟨T1, X1, e1, st1⟩ := getS X0 hx hZ hown (host := "") (hw _ (List.mem_of_getElem? (i := 47) rfl)) Via.refl e0 S1 (g := (mkF m 3 #[.val (.ref a), .val (.int p0), .val .null] [.null, (.int p0), (.ref a)])) rfl (hb hby d6_3)
  refine Goes.go (st1) ?_
  show Goes _ _ _ _ _ _ _ (T1.setTop (mkF m 6 _ [.null, .null, (.int p0), (.ref a)]))
  obtain ⟨cq2, kq2, qa2, qb2, qc2⟩ := isOf hZ e1 E0
  obtain ⟨_, _, ⟨T2, L2, k2, n2⟩, -, X2, ⟨Lc2, hQ2, l2, y2, z2⟩, st2⟩ := X1.virtualBack hx (y := (⟨"com/example/xixi/xixi/remoting/RemotingCommand", "respond", "(ILjava/lang/String;[B)Lcom/example/xixi/xixi/remoting/RemotingCommand;"⟩ : MethodName)) (z := (⟨"com/example/xixi/xixi/remoting/RemotingCommand", "respond", "(ILjava/lang/String;[B)Lcom/example/xixi/xixi/remoting/RemotingCommand;"⟩ : MethodName)) hown (mvT hZ (hw _ (List.mem_of_getElem? (i := 49) rfl))) (mvT hZ (hw _ (List.mem_of_getElem? (i := 50) rfl))) (notFace_of_selects (args := #[]) (mvT hZ (hw _ (List.mem_of_getElem? (i := 52) rfl)))) (mvT hZ (hw _ (List.mem_of_getElem? (i := 52) rfl))) (mvT hZ (hw _ (List.mem_of_getElem? (i := 51) rfl))) (by decide) (backOf (W := 0) (rm3null l Z a0 hw [] a p0 mp ve oq g h0 n0 Z0 E0 F_version F_opaque F_flag hg EM S0) hZ (hw _ (List.mem_of_getElem? (i := 53) rfl)) (hw _ (List.mem_of_getElem? (i := 2) rfl)) (by decide) (by decide)) qa2 qc2 (g := (mkF m 6 #[.val (.ref a), .val (.int p0), .val .null] [.null, .null, (.int p0), (.ref a)])) rfl (by rw [hml]; rfl) (Steps.refl _) (argsL := [(.int p0), .null, .null]) (rest := []) (lenOf pd5 rfl) rfl (by show 2 * 0 + _ ≤ _; exact Nat.le_of_eq rfl) (hb hby d6_6) (fun _ _ => ⟨rfl, e1, (by decide : 0 + 1 ≤ _), (by decide : 0 + 7 ≤ _)⟩)
  dsimp only [Pt.U, Pt.locs, Pt.cells, Pt.slots] at X2 l2 y2 z2 st2 hQ2
  subst l2 y2 z2
  obtain ⟨xr2, rfl, Nq2, Kq2, Eq2, Fq2⟩ := hQ2
  have N2 := Fr.app N0 Nq2
  have Z2 : n0 ≤ T2.heap.size := Nat.le_trans Z0 Kq2.1
  have f := Exa.keep E0 Kq2
  have f_1 := Fld.keep F_version Kq2 nin0
  have f_2 := Fld.keep F_opaque Kq2 nin0
  have f_3 := Fld.keep F_flag Kq2 nin0
  have f_4 := Exa.keep EM Kq2
  have K2 := K0.trans Kq2 all0
  refine Goes.go (fun _ kk => st2.trans kk) ?_
  show Goes _ _ _ _ _ _ _ (T2.setTop (mkF m 9 _ [(.ref xr2)]))
  exact Goes.outA X2 hx hlk hret rfl rfl (hb hby d6_9) rfl ⟨xr2, rfl, N2, K2, Eq2, Fq2⟩ (by decide) (by decide)
theorem ef_rm4ref (m : MethodId) (a : Addr) (p0 : Int32) (mp : Addr) (bb : Addr) : entryFrame m #[(.ref a), (.int p0), .null, (.ref mp), (.ref bb)] 5 = mkF m 0 #[.val (.ref a), .val (.int p0), .val .null, .val (.ref mp), .val (.ref bb)] [] := by first | (simp [entryFrame, mkF, argsToLocals, Value.category]; done) | rfl
def Q_rm4ref (Z : State) (a : Addr) (p0 : Int32) (mp : Addr) (bb : Addr) (ve : Int32) (oq : Int32) (g : Int32) (h0 : Heap) (n0 : Nat) (v : Option Value) (h : Heap) (L : List Loc) : Prop := ∃ x : Addr, v = some (.ref x) ∧ Fr n0 L ∧ Keep h0 h [] ∧ Exa Z h x "com/example/xixi/xixi/remoting/RemotingCommand" ∧ Fld Z h x "com/example/xixi/xixi/remoting/RemotingCommand" "flag" "I" (.int (1 : Int32))
set_option maxRecDepth 65536 in
set_option maxHeartbeats 40000000 in
theorem rm4ref (l : Launch) (Z : State) (a0 : Array Value) (hw : ∀ d ∈ tables_1, d.before a0 Z = true) (ws : List Jvm.Cond) (a : Addr) (p0 : Int32) (mp : Addr) (bb : Addr) (ve : Int32) (oq : Int32) (g : Int32) (h0 : Heap) (n0 : Nat) (Z0 : n0 ≤ h0.size) (E0 : Exa Z h0 a "com/example/xixi/xixi/remoting/RemotingCommand") (F_version : Fld Z h0 a "com/example/xixi/xixi/remoting/RemotingCommand" "version" "I" (.int ve)) (F_opaque : Fld Z h0 a "com/example/xixi/xixi/remoting/RemotingCommand" "opaque" "I" (.int oq)) (F_flag : Fld Z h0 a "com/example/xixi/xixi/remoting/RemotingCommand" "flag" "I" (.int g)) (hg : rsF g = 0) (EM : Exa Z h0 mp "java/util/ImmutableCollections$MapN") :
    MetFree l (⟨"com/example/xixi/xixi/remoting/RemotingCommand", "respond", "(ILjava/lang/String;Ljava/util/Map;[B)Lcom/example/xixi/xixi/remoting/RemotingCommand;"⟩ : MethodName) (head1 (Jvm.Cond.code (⟨"com/example/xixi/xixi/remoting/RemotingCommand", "respond", "(ILjava/lang/String;Ljava/util/Map;[B)Lcom/example/xixi/xixi/remoting/RemotingCommand;"⟩ : MethodName) prog_2_method_7_code 5 (some (.object "com/example/xixi/xixi/remoting/RemotingCommand")) :: ws) ({ frames := 2, cells := 1, slots := 7, locals := 48 } : Room)) (fun aa U => aa = #[(.ref a), (.int p0), .null, (.ref mp), (.ref bb)] ∧ Z.Warmed39 U.vm ∧ U.heap = h0) (fun _ _ _ _ _ => True) (fun _ U oo U' => ∃ v L, oo = .returned v ∧ Q_rm4ref Z a p0 mp bb ve oq g h0 n0 v U'.heap L ∧ FrameEnd U oo U' L ({ frames := 2, cells := 1, slots := 7, locals := 48 } : Room).cells ({ frames := 2, cells := 1, slots := 7, locals := 48 } : Room).slots) := by
  refine MetFree.of_bodySF (plainFor_of_name pn0) hisR ?_
  intro p e s m args below meth c s₁ Bd hml0 hP hK
  obtain ⟨rfl, hZ, hh⟩ := hP
  have hx := Bd.exec
  have hby := Bd.bytes
  have hml : c.maxLocals = 5 := hml0
  have hown : s.vm.findClass "com/example/xixi/xixi/remoting/RemotingCommand" = some m.cls := findClass_of_methodNamed Bd.named
  have hnm := (name_of_methodNamed Bd.named Bd.method).1
  have hlk : meth.locks = false := Bd.notSynchronized
  have hret := Bd.returns
  have X0 : Stand p l e ({ frames := 2, cells := 1, slots := 7, locals := 48 } : Room) s m #[(.ref a), (.int p0), .null, (.ref mp), (.ref bb)] below meth c s₁ [] 0 0 := Stand.of_body Bd
  have e0 : s₁.heap = h0 := by rw [← hh, Bd.state]; rfl
  have N0 := Fr.nil n0
  have K0 : Keep h0 h0 [] := Keep.refl _ _
  show Goes p e below s (Q_rm4ref Z a p0 mp bb ve oq g h0 n0) ({ frames := 2, cells := 1, slots := 7, locals := 48 } : Room).cells ({ frames := 2, cells := 1, slots := 7, locals := 48 } : Room).slots _
  refine Goes.go (fun _ kk => castTop (ef_rm4ref m a p0 mp bb) kk) ?_
  show Goes _ _ _ _ _ _ _ (s₁.setTop (mkF m 0 #[.val (.ref a), .val (.int p0), .val .null, .val (.ref mp), .val (.ref bb)] []))
  refine Goes.go (fun _ kk => XS.aloadN X0.here hx rfl (hb hby d9_0) rfl rfl kk) ?_
  show Goes _ _ _ _ _ _ _ (s₁.setTop (mkF m 1 _ [(.ref a)]))
  obtain ⟨cq1, kq1, qa1, qb1, qc1⟩ := isOf hZ e0 E0
  obtain ⟨_, _, ⟨T1, L1, k1, n1⟩, -, X1, ⟨Lc1, hQ1, l1, y1, z1⟩, st1⟩ := X0.virtualBack hx (y := (⟨"com/example/xixi/xixi/remoting/RemotingCommand", "isResponse", "()Z"⟩ : MethodName)) (z := (⟨"com/example/xixi/xixi/remoting/RemotingCommand", "isResponse", "()Z"⟩ : MethodName)) hown (mvT hZ (hw _ (List.mem_of_getElem? (i := 41) rfl))) (mvT hZ (hw _ (List.mem_of_getElem? (i := 25) rfl))) (notFace_of_selects (args := #[]) (mvT hZ (hw _ (List.mem_of_getElem? (i := 27) rfl)))) (mvT hZ (hw _ (List.mem_of_getElem? (i := 27) rfl))) (mvT hZ (hw _ (List.mem_of_getElem? (i := 26) rfl))) (by decide) (backOf (W := 0) (rmR l Z a0 hw [] a g h0 n0 Z0 F_flag) hZ (hw _ (List.mem_of_getElem? (i := 28) rfl)) (hw _ (List.mem_of_getElem? (i := 2) rfl)) (by decide) (by decide)) qa1 qc1 (g := (mkF m 1 #[.val (.ref a), .val (.int p0), .val .null, .val (.ref mp), .val (.ref bb)] [(.ref a)])) rfl (by rw [hml]; rfl) (Steps.refl _) (argsL := []) (rest := []) (lenOf pd2 rfl) rfl (by show 2 * 0 + _ ≤ _; exact Nat.le_of_eq rfl) (hb hby d9_1) (fun _ _ => ⟨rfl, e0, (by decide : 0 + 0 ≤ _), (by decide : 0 + 0 ≤ _)⟩)
  dsimp only [Pt.U, Pt.locs, Pt.cells, Pt.slots] at X1 l1 y1 z1 st1 hQ1
  subst l1 y1 z1
  obtain ⟨rfl, Nq1, hh1⟩ := hQ1
  have N1 := Fr.app N0 Nq1
  refine Goes.go (fun _ kk => st1.trans kk) ?_
  show Goes _ _ _ _ _ _ _ (T1.setTop (mkF m 4 _ [(.int (rsF g))]))
  refine Goes.go (fun _ kk => XS.ifYes X1.here hx rfl (pc0 := 4) (pc' := 24) rfl (hb hby d9_4) rfl (XT.i0_eq_t hg) (by decide) (by decide) kk) ?_
  show Goes _ _ _ _ _ _ _ (T1.setTop (mkF m 24 _ []))
  obtain ⟨T2, h2, X2, e2, E2, A2, D2, -, st2⟩ := newO X1 hx hZ hown (hw _ (List.mem_of_getElem? (i := 34) rfl)) (hw _ (List.mem_of_getElem? (i := 1) rfl)) (hw _ (List.mem_of_getElem? (i := 2) rfl)) hh1 (g := (mkF m 24 #[.val (.ref a), .val (.int p0), .val .null, .val (.ref mp), .val (.ref bb)] [])) rfl (hb hby d9_24) (by decide) (by decide)
  obtain ⟨ob24, gob24⟩ : ∃ z, z = h0.size := ⟨_, rfl⟩
  rw [← gob24] at A2 D2 st2
  have ne_a_ob24 : a ≠ ob24 := by rw [gob24]; exact Nat.ne_of_lt E0.lt
  have ne_mp_ob24 : mp ≠ ob24 := by rw [gob24]; exact Nat.ne_of_lt EM.lt
  have f := Exa.ext E2 E0
  have f_1 := Fld.ext E2 F_version
  have f_2 := Fld.ext E2 F_opaque
  have f_3 := Fld.ext E2 F_flag
  have f_4 := Exa.ext E2 EM
  have Z2 : n0 ≤ h2.size := Nat.le_trans Z0 E2.1
  have ge_ob24 : n0 ≤ ob24 := Nat.le_trans Z0 (Nat.le_of_eq gob24.symm)
  have kge_ob24 : h0.size ≤ ob24 := by rw [gob24]; exact K0.1
  have f_5 : Fld Z h2 ob24 "com/example/xixi/xixi/remoting/RemotingCommand" "code" "I" (.int (0 : Int32)) := D2 (Or.inr (hw _ (List.mem_of_getElem? (i := 11) rfl))) (ty := .int) (by decide)
  have f_6 : Fld Z h2 ob24 "com/example/xixi/xixi/remoting/RemotingCommand" "version" "I" (.int (0 : Int32)) := D2 (Or.inr (hw _ (List.mem_of_getElem? (i := 13) rfl))) (ty := .int) (by decide)
  have f_7 : Fld Z h2 ob24 "com/example/xixi/xixi/remoting/RemotingCommand" "opaque" "I" (.int (0 : Int32)) := D2 (Or.inr (hw _ (List.mem_of_getElem? (i := 15) rfl))) (ty := .int) (by decide)
  have f_8 : Fld Z h2 ob24 "com/example/xixi/xixi/remoting/RemotingCommand" "flag" "I" (.int (0 : Int32)) := D2 (Or.inr (hw _ (List.mem_of_getElem? (i := 17) rfl))) (ty := .int) (by decide)
  have f_9 : Fld Z h2 ob24 "com/example/xixi/xixi/remoting/RemotingCommand" "remark" "Ljava/lang/String;" .null := D2 (Or.inr (hw _ (List.mem_of_getElem? (i := 19) rfl))) (ty := (.object "java/lang/String")) (by decide)
  have f_10 : Fld Z h2 ob24 "com/example/xixi/xixi/remoting/RemotingCommand" "extFields" "Ljava/util/Map;" .null := D2 (Or.inr (hw _ (List.mem_of_getElem? (i := 21) rfl))) (ty := (.object "java/util/Map")) (by decide)
  have f_11 : Fld Z h2 ob24 "com/example/xixi/xixi/remoting/RemotingCommand" "body" "[B" .null := D2 (Or.inr (hw _ (List.mem_of_getElem? (i := 23) rfl))) (ty := (.array .byte)) (by decide)
  have K2 := K0.ext E2
  refine Goes.go (st2) ?_
  show Goes _ _ _ _ _ _ _ (T2.setTop (mkF m 27 _ [(.ref ob24)]))
  refine Goes.go (fun _ kk => XS.dup X2.here hx rfl (hb hby d9_27) rfl rfl kk) ?_
  show Goes _ _ _ _ _ _ _ (T2.setTop (mkF m 28 _ [(.ref ob24), (.ref ob24)]))
  refine Goes.go (fun _ kk => XS.iloadN X2.here hx rfl (hb hby d9_28) rfl kk) ?_
  show Goes _ _ _ _ _ _ _ (T2.setTop (mkF m 29 _ [(.int p0), (.ref ob24), (.ref ob24)]))
  refine Goes.go (fun _ kk => XS.aloadN X2.here hx rfl (hb hby d9_29) rfl rfl kk) ?_
  show Goes _ _ _ _ _ _ _ (T2.setTop (mkF m 30 _ [(.ref a), (.int p0), (.ref ob24), (.ref ob24)]))
  obtain ⟨T3, X3, e3, st3⟩ := getF X2 hx hZ hown (host := "") (Or.inl (hw _ (List.mem_of_getElem? (i := 12) rfl))) Via.refl e2 f_1 (g := (mkF m 30 #[.val (.ref a), .val (.int p0), .val .null, .val (.ref mp), .val (.ref bb)] [(.ref a), (.int p0), (.ref ob24), (.ref ob24)])) rfl rfl (hb hby d9_30)
  refine Goes.go (st3) ?_
  show Goes _ _ _ _ _ _ _ (T3.setTop (mkF m 33 _ [(.int ve), (.int p0), (.ref ob24), (.ref ob24)]))
  refine Goes.go (fun _ kk => XS.aloadN X3.here hx rfl (hb hby d9_33) rfl rfl kk) ?_
  show Goes _ _ _ _ _ _ _ (T3.setTop (mkF m 34 _ [(.ref a), (.int ve), (.int p0), (.ref ob24), (.ref ob24)]))
  obtain ⟨T4, X4, e4, st4⟩ := getF X3 hx hZ hown (host := "") (Or.inl (hw _ (List.mem_of_getElem? (i := 14) rfl))) Via.refl e3 f_2 (g := (mkF m 34 #[.val (.ref a), .val (.int p0), .val .null, .val (.ref mp), .val (.ref bb)] [(.ref a), (.int ve), (.int p0), (.ref ob24), (.ref ob24)])) rfl rfl (hb hby d9_34)
  refine Goes.go (st4) ?_
  show Goes _ _ _ _ _ _ _ (T4.setTop (mkF m 37 _ [(.int oq), (.int ve), (.int p0), (.ref ob24), (.ref ob24)]))
  refine Goes.go (fun _ kk => XS.iconst X4.here hx rfl (hb hby d9_37) kk) ?_
  show Goes _ _ _ _ _ _ _ (T4.setTop (mkF m 38 _ [(.int (1 : Int32)), (.int oq), (.int ve), (.int p0), (.ref ob24), (.ref ob24)]))
  refine Goes.go (fun _ kk => XS.aloadN X4.here hx rfl (hb hby d9_38) rfl rfl kk) ?_
  show Goes _ _ _ _ _ _ _ (T4.setTop (mkF m 39 _ [.null, (.int (1 : Int32)), (.int oq), (.int ve), (.int p0), (.ref ob24), (.ref ob24)]))
  refine Goes.go (fun _ kk => XS.aloadN X4.here hx rfl (hb hby d9_39) rfl rfl kk) ?_
  show Goes _ _ _ _ _ _ _ (T4.setTop (mkF m 40 _ [(.ref mp), .null, (.int (1 : Int32)), (.int oq), (.int ve), (.int p0), (.ref ob24), (.ref ob24)]))
  obtain ⟨_, _, ⟨T5, L5, k5, n5⟩, -, X5, ⟨Lc5, hQ5, l5, y5, z5⟩, st5⟩ := Jvm.LawKit.callS X4 hx (y := (⟨"java/util/Map", "copyOf", "(Ljava/util/Map;)Ljava/util/Map;"⟩ : MethodName)) hown (mvT hZ (hw _ (List.mem_of_getElem? (i := 65) rfl))) (mvT hZ (hw _ (List.mem_of_getElem? (i := 66) rfl))) (mvT hZ (hw _ (List.mem_of_getElem? (i := 56) rfl))) (mvT hZ (hw _ (List.mem_of_getElem? (i := 67) rfl))) (by decide) (backOf (W := 7) (rmC l Z a0 hw [] mp h2 n0 Z2 f_4) hZ (hw _ (List.mem_of_getElem? (i := 67) rfl)) (hw _ (List.mem_of_getElem? (i := 56) rfl)) (by decide) (by decide)) (g := (mkF m 40 #[.val (.ref a), .val (.int p0), .val .null, .val (.ref mp), .val (.ref bb)] [(.ref mp), .null, (.int (1 : Int32)), (.int oq), (.int ve), (.int p0), (.ref ob24), (.ref ob24)])) rfl (by rw [hml]; rfl) (argsL := [(.ref mp)]) (rest := [.null, (.int (1 : Int32)), (.int oq), (.int ve), (.int p0), (.ref ob24), (.ref ob24)]) (lenOf pd8 rfl) rfl (by show 2 * 0 + _ ≤ _; exact Nat.le_of_eq rfl) (hb hby d9_40) (fun _ _ => ⟨rfl, e4, (by decide : 1 + 0 ≤ _), (by decide : 7 + 0 ≤ _)⟩)
  dsimp only [Pt.U, Pt.locs, Pt.cells, Pt.slots] at X5 l5 y5 z5 st5 hQ5
  subst l5 y5 z5
  obtain ⟨rfl, Nq5, hh5⟩ := hQ5
  have N5 := Fr.app N1 Nq5
  refine Goes.go (st5) ?_
  show Goes _ _ _ _ _ _ _ (T5.setTop (mkF m 43 _ [(.ref mp), .null, (.int (1 : Int32)), (.int oq), (.int ve), (.int p0), (.ref ob24), (.ref ob24)]))
  refine Goes.go (fun _ kk => XS.aload X5.here hx rfl (hb hby d9_43) rfl rfl kk) ?_
  show Goes _ _ _ _ _ _ _ (T5.setTop (mkF m 45 _ [(.ref bb), (.ref mp), .null, (.int (1 : Int32)), (.int oq), (.int ve), (.int p0), (.ref ob24), (.ref ob24)]))
  obtain ⟨_, _, ⟨T6, L6, k6, n6⟩, -, X6, ⟨Lc6, hQ6, l6, y6, z6⟩, st6⟩ := X5.specialBack hx (y := (⟨"com/example/xixi/xixi/remoting/RemotingCommand", "<init>", "(IIIILjava/lang/String;Ljava/util/Map;[B)V"⟩ : MethodName)) rfl hown (mvT hZ (hw _ (List.mem_of_getElem? (i := 35) rfl))) (mvT hZ (hw _ (List.mem_of_getElem? (i := 5) rfl))) (mvT hZ (hw _ (List.mem_of_getElem? (i := 6) rfl))) (by decide) (backOf (W := 1) (rmC2 l Z a0 hw [] ob24 p0 ve oq (1 : Int32) mp bb h2 n0 Z2 A2 f_5 f_6 f_7 f_8 f_9 f_10 f_11 ge_ob24) hZ (hw _ (List.mem_of_getElem? (i := 6) rfl)) (hw _ (List.mem_of_getElem? (i := 2) rfl)) (by decide) (by decide)) (g := (mkF m 45 #[.val (.ref a), .val (.int p0), .val .null, .val (.ref mp), .val (.ref bb)] [(.ref bb), (.ref mp), .null, (.int (1 : Int32)), (.int oq), (.int ve), (.int p0), (.ref ob24), (.ref ob24)])) rfl (by rw [hml]; rfl) (Steps.refl _) (a := ob24) (argsL := [(.int p0), (.int ve), (.int oq), (.int (1 : Int32)), .null, (.ref mp), (.ref bb)]) (rest := [(.ref ob24)]) (lenOf pd0 rfl) rfl (by show 2 * 0 + _ ≤ _; exact Nat.le_of_eq rfl) (hb hby d9_45) (fun _ _ => ⟨rfl, hh5, (by decide : 1 + 0 ≤ _), (by decide : 7 + 0 ≤ _)⟩)
  dsimp only [Pt.U, Pt.locs, Pt.cells, Pt.slots] at X6 l6 y6 z6 st6 hQ6
  subst l6 y6 z6
  obtain ⟨rfl, Nq6, Kq6, Eq6, Fq6_0, Fq6_1, Fq6_2, Fq6_3, Fq6_4, Fq6_5, Fq6_6⟩ := hQ6
  have N6 := Fr.app N5 Nq6
  have Z6 : n0 ≤ T6.heap.size := Nat.le_trans Z2 Kq6.1
  have f_12 := Exa.keep f Kq6
  have f_13 := Fld.keep f_1 Kq6 (ninS ne_a_ob24 nin0)
  have f_14 := Fld.keep f_2 Kq6 (ninS ne_a_ob24 nin0)
  have f_15 := Fld.keep f_3 Kq6 (ninS ne_a_ob24 nin0)
  have f_16 := Exa.keep f_4 Kq6
  have K6 := K2.trans Kq6 (allS (Or.inr kge_ob24) all0)
  refine Goes.go (fun _ kk => st6.trans kk) ?_
  show Goes _ _ _ _ _ _ _ (T6.setTop (mkF m 48 _ [(.ref ob24)]))
  exact Goes.outA X6 hx hlk hret rfl rfl (hb hby d9_48) rfl ⟨ob24, rfl, N6, K6, Eq6, Fq6_3⟩ (by decide) (by decide)
theorem ef_rm3ref (m : MethodId) (a : Addr) (p0 : Int32) (bb : Addr) : entryFrame m #[(.ref a), (.int p0), .null, (.ref bb)] 4 = mkF m 0 #[.val (.ref a), .val (.int p0), .val .null, .val (.ref bb)] [] := by first | (simp [entryFrame, mkF, argsToLocals, Value.category]; done) | rfl
def Q_rm3ref (Z : State) (a : Addr) (p0 : Int32) (mp : Addr) (bb : Addr) (ve : Int32) (oq : Int32) (g : Int32) (h0 : Heap) (n0 : Nat) (v : Option Value) (h : Heap) (L : List Loc) : Prop := ∃ x : Addr, v = some (.ref x) ∧ Fr n0 L ∧ Keep h0 h [] ∧ Exa Z h x "com/example/xixi/xixi/remoting/RemotingCommand" ∧ Fld Z h x "com/example/xixi/xixi/remoting/RemotingCommand" "flag" "I" (.int (1 : Int32))
set_option maxRecDepth 65536 in
set_option maxHeartbeats 40000000 in
theorem rm3ref (l : Launch) (Z : State) (a0 : Array Value) (hw : ∀ d ∈ tables_1, d.before a0 Z = true) (ws : List Jvm.Cond) (a : Addr) (p0 : Int32) (mp : Addr) (bb : Addr) (ve : Int32) (oq : Int32) (g : Int32) (h0 : Heap) (n0 : Nat) (Z0 : n0 ≤ h0.size) (E0 : Exa Z h0 a "com/example/xixi/xixi/remoting/RemotingCommand") (F_version : Fld Z h0 a "com/example/xixi/xixi/remoting/RemotingCommand" "version" "I" (.int ve)) (F_opaque : Fld Z h0 a "com/example/xixi/xixi/remoting/RemotingCommand" "opaque" "I" (.int oq)) (F_flag : Fld Z h0 a "com/example/xixi/xixi/remoting/RemotingCommand" "flag" "I" (.int g)) (hg : rsF g = 0) (EM : Exa Z h0 mp "java/util/ImmutableCollections$MapN") (S0 : Sta Z h0 "java/util/ImmutableCollections" "EMPTY_MAP" "Ljava/util/ImmutableCollections$MapN;" (.ref mp)) :
    MetFree l (⟨"com/example/xixi/xixi/remoting/RemotingCommand", "respond", "(ILjava/lang/String;[B)Lcom/example/xixi/xixi/remoting/RemotingCommand;"⟩ : MethodName) (head1 (Jvm.Cond.code (⟨"com/example/xixi/xixi/remoting/RemotingCommand", "respond", "(ILjava/lang/String;[B)Lcom/example/xixi/xixi/remoting/RemotingCommand;"⟩ : MethodName) prog_2_method_5_code 4 (some (.object "com/example/xixi/xixi/remoting/RemotingCommand")) :: ws) ({ frames := 3, cells := 1, slots := 7, locals := 80 } : Room)) (fun aa U => aa = #[(.ref a), (.int p0), .null, (.ref bb)] ∧ Z.Warmed39 U.vm ∧ U.heap = h0) (fun _ _ _ _ _ => True) (fun _ U oo U' => ∃ v L, oo = .returned v ∧ Q_rm3ref Z a p0 mp bb ve oq g h0 n0 v U'.heap L ∧ FrameEnd U oo U' L ({ frames := 3, cells := 1, slots := 7, locals := 80 } : Room).cells ({ frames := 3, cells := 1, slots := 7, locals := 80 } : Room).slots) := by
  refine MetFree.of_bodySF (plainFor_of_name pn0) hisR ?_
  intro p e s m args below meth c s₁ Bd hml0 hP hK
  obtain ⟨rfl, hZ, hh⟩ := hP
  have hx := Bd.exec
  have hby := Bd.bytes
  have hml : c.maxLocals = 4 := hml0
  have hown : s.vm.findClass "com/example/xixi/xixi/remoting/RemotingCommand" = some m.cls := findClass_of_methodNamed Bd.named
  have hnm := (name_of_methodNamed Bd.named Bd.method).1
  have hlk : meth.locks = false := Bd.notSynchronized
  have hret := Bd.returns
  have X0 : Stand p l e ({ frames := 3, cells := 1, slots := 7, locals := 80 } : Room) s m #[(.ref a), (.int p0), .null, (.ref bb)] below meth c s₁ [] 0 0 := Stand.of_body Bd
  have e0 : s₁.heap = h0 := by rw [← hh, Bd.state]; rfl
  have N0 := Fr.nil n0
  have K0 : Keep h0 h0 [] := Keep.refl _ _
  show Goes p e below s (Q_rm3ref Z a p0 mp bb ve oq g h0 n0) ({ frames := 3, cells := 1, slots := 7, locals := 80 } : Room).cells ({ frames := 3, cells := 1, slots := 7, locals := 80 } : Room).slots _
  refine Goes.go (fun _ kk => castTop (ef_rm3ref m a p0 bb) kk) ?_
  show Goes _ _ _ _ _ _ _ (s₁.setTop (mkF m 0 #[.val (.ref a), .val (.int p0), .val .null, .val (.ref bb)] []))
  refine Goes.go (fun _ kk => XS.aloadN X0.here hx rfl (hb hby d7_0) rfl rfl kk) ?_
  show Goes _ _ _ _ _ _ _ (s₁.setTop (mkF m 1 _ [(.ref a)]))
  refine Goes.go (fun _ kk => XS.iloadN X0.here hx rfl (hb hby d7_1) rfl kk) ?_
  show Goes _ _ _ _ _ _ _ (s₁.setTop (mkF m 2 _ [(.int p0), (.ref a)]))
  refine Goes.go (fun _ kk => XS.aloadN X0.here hx rfl (hb hby d7_2) rfl rfl kk) ?_
  show Goes _ _ _ _ _ _ _ (s₁.setTop (mkF m 3 _ [.null, (.int p0), (.ref a)]))
  obtain ⟨_, _, ⟨T1, L1, k1, n1⟩, -, X1, ⟨Lc1, hQ1, l1, y1, z1⟩, st1⟩ := Jvm.LawKit.callS X0 hx (y := (⟨"java/util/Map", "of", "()Ljava/util/Map;"⟩ : MethodName)) hown (mvT hZ (hw _ (List.mem_of_getElem? (i := 54) rfl))) (mvT hZ (hw _ (List.mem_of_getElem? (i := 55) rfl))) (mvT hZ (hw _ (List.mem_of_getElem? (i := 56) rfl))) (mvT hZ (hw _ (List.mem_of_getElem? (i := 57) rfl))) (by decide) (backOf (W := 3) (rmM l Z a0 hw [] mp h0 n0 Z0 S0) hZ (hw _ (List.mem_of_getElem? (i := 57) rfl)) (hw _ (List.mem_of_getElem? (i := 56) rfl)) (by decide) (by decide)) (g := (mkF m 3 #[.val (.ref a), .val (.int p0), .val .null, .val (.ref bb)] [.null, (.int p0), (.ref a)])) rfl (by rw [hml]; rfl) (argsL := []) (rest := [.null, (.int p0), (.ref a)]) (lenOf pd6 rfl) rfl (by show 2 * 0 + _ ≤ _; exact Nat.le_of_eq rfl) (hb hby d7_3) (fun _ _ => ⟨rfl, e0, (by decide : 0 + 0 ≤ _), (by decide : 0 + 0 ≤ _)⟩)
  dsimp only [Pt.U, Pt.locs, Pt.cells, Pt.slots] at X1 l1 y1 z1 st1 hQ1
  subst l1 y1 z1
  obtain ⟨rfl, Nq1, hh1⟩ := hQ1
  have N1 := Fr.app N0 Nq1
  refine Goes.go (st1) ?_
  show Goes _ _ _ _ _ _ _ (T1.setTop (mkF m 6 _ [(.ref mp), .null, (.int p0), (.ref a)]))
  refine Goes.go (fun _ kk => XS.aloadN X1.here hx rfl (hb hby d7_6) rfl rfl kk) ?_
  show Goes _ _ _ _ _ _ _ (T1.setTop (mkF m 7 _ [(.ref bb), (.ref mp), .null, (.int p0), (.ref a)]))
  obtain ⟨cq2, kq2, qa2, qb2, qc2⟩ := isOf hZ hh1 E0
  obtain ⟨_, _, ⟨T2, L2, k2, n2⟩, -, X2, ⟨Lc2, hQ2, l2, y2, z2⟩, st2⟩ := X1.virtualBack hx (y := (⟨"com/example/xixi/xixi/remoting/RemotingCommand", "respond", "(ILjava/lang/String;Ljava/util/Map;[B)Lcom/example/xixi/xixi/remoting/RemotingCommand;"⟩ : MethodName)) (z := (⟨"com/example/xixi/xixi/remoting/RemotingCommand", "respond", "(ILjava/lang/String;Ljava/util/Map;[B)Lcom/example/xixi/xixi/remoting/RemotingCommand;"⟩ : MethodName)) hown (mvT hZ (hw _ (List.mem_of_getElem? (i := 60) rfl))) (mvT hZ (hw _ (List.mem_of_getElem? (i := 61) rfl))) (notFace_of_selects (args := #[]) (mvT hZ (hw _ (List.mem_of_getElem? (i := 63) rfl)))) (mvT hZ (hw _ (List.mem_of_getElem? (i := 63) rfl))) (mvT hZ (hw _ (List.mem_of_getElem? (i := 62) rfl))) (by decide) (backOf (W := 0) (rm4ref l Z a0 hw [] a p0 mp bb ve oq g h0 n0 Z0 E0 F_version F_opaque F_flag hg EM) hZ (hw _ (List.mem_of_getElem? (i := 64) rfl)) (hw _ (List.mem_of_getElem? (i := 2) rfl)) (by decide) (by decide)) qa2 qc2 (g := (mkF m 7 #[.val (.ref a), .val (.int p0), .val .null, .val (.ref bb)] [(.ref bb), (.ref mp), .null, (.int p0), (.ref a)])) rfl (by rw [hml]; rfl) (Steps.refl _) (argsL := [(.int p0), .null, (.ref mp), (.ref bb)]) (rest := []) (lenOf pd7 rfl) rfl (by show 2 * 0 + _ ≤ _; exact Nat.le_of_eq rfl) (hb hby d7_7) (fun _ _ => ⟨rfl, hh1, (by decide : 0 + 1 ≤ _), (by decide : 0 + 7 ≤ _)⟩)
  dsimp only [Pt.U, Pt.locs, Pt.cells, Pt.slots] at X2 l2 y2 z2 st2 hQ2
  subst l2 y2 z2
  obtain ⟨xr2, rfl, Nq2, Kq2, Eq2, Fq2⟩ := hQ2
  have N2 := Fr.app N1 Nq2
  have Z2 : n0 ≤ T2.heap.size := Nat.le_trans Z0 Kq2.1
  have f := Exa.keep E0 Kq2
  have f_1 := Fld.keep F_version Kq2 nin0
  have f_2 := Fld.keep F_opaque Kq2 nin0
  have f_3 := Fld.keep F_flag Kq2 nin0
  have f_4 := Exa.keep EM Kq2
  have K2 := K0.trans Kq2 all0
  refine Goes.go (fun _ kk => st2.trans kk) ?_
  show Goes _ _ _ _ _ _ _ (T2.setTop (mkF m 10 _ [(.ref xr2)]))
  exact Goes.outA X2 hx hlk hret rfl rfl (hb hby d7_10) rfl ⟨xr2, rfl, N2, K2, Eq2, Fq2⟩ (by decide) (by decide)
theorem ef_rm2ref (m : MethodId) (a : Addr) (p0 : Int32) : entryFrame m #[(.ref a), (.int p0), .null] 3 = mkF m 0 #[.val (.ref a), .val (.int p0), .val .null] [] := by first | (simp [entryFrame, mkF, argsToLocals, Value.category]; done) | rfl
def Q_rm2ref (Z : State) (a : Addr) (p0 : Int32) (mp : Addr) (bb : Addr) (ve : Int32) (oq : Int32) (g : Int32) (h0 : Heap) (n0 : Nat) (v : Option Value) (h : Heap) (L : List Loc) : Prop := ∃ x : Addr, v = some (.ref x) ∧ Fr n0 L ∧ Keep h0 h [] ∧ Exa Z h x "com/example/xixi/xixi/remoting/RemotingCommand" ∧ Fld Z h x "com/example/xixi/xixi/remoting/RemotingCommand" "flag" "I" (.int (1 : Int32))
set_option maxRecDepth 65536 in
set_option maxHeartbeats 40000000 in
theorem rm2ref (l : Launch) (Z : State) (a0 : Array Value) (hw : ∀ d ∈ tables_1, d.before a0 Z = true) (ws : List Jvm.Cond) (a : Addr) (p0 : Int32) (mp : Addr) (bb : Addr) (ve : Int32) (oq : Int32) (g : Int32) (h0 : Heap) (n0 : Nat) (Z0 : n0 ≤ h0.size) (E0 : Exa Z h0 a "com/example/xixi/xixi/remoting/RemotingCommand") (F_version : Fld Z h0 a "com/example/xixi/xixi/remoting/RemotingCommand" "version" "I" (.int ve)) (F_opaque : Fld Z h0 a "com/example/xixi/xixi/remoting/RemotingCommand" "opaque" "I" (.int oq)) (F_flag : Fld Z h0 a "com/example/xixi/xixi/remoting/RemotingCommand" "flag" "I" (.int g)) (hg : rsF g = 0) (EM : Exa Z h0 mp "java/util/ImmutableCollections$MapN") (S0 : Sta Z h0 "java/util/ImmutableCollections" "EMPTY_MAP" "Ljava/util/ImmutableCollections$MapN;" (.ref mp)) (S1 : Sta Z h0 "com/example/xixi/xixi/remoting/RemotingCommand" "NO_BODY" "[B" (.ref bb)) :
    MetFree l (⟨"com/example/xixi/xixi/remoting/RemotingCommand", "respond", "(ILjava/lang/String;)Lcom/example/xixi/xixi/remoting/RemotingCommand;"⟩ : MethodName) (head1 (Jvm.Cond.code (⟨"com/example/xixi/xixi/remoting/RemotingCommand", "respond", "(ILjava/lang/String;)Lcom/example/xixi/xixi/remoting/RemotingCommand;"⟩ : MethodName) prog_2_method_4_code 3 (some (.object "com/example/xixi/xixi/remoting/RemotingCommand")) :: ws) ({ frames := 4, cells := 1, slots := 7, locals := 110 } : Room)) (fun aa U => aa = #[(.ref a), (.int p0), .null] ∧ Z.Warmed39 U.vm ∧ U.heap = h0) (fun _ _ _ _ _ => True) (fun _ U oo U' => ∃ v L, oo = .returned v ∧ Q_rm2ref Z a p0 mp bb ve oq g h0 n0 v U'.heap L ∧ FrameEnd U oo U' L ({ frames := 4, cells := 1, slots := 7, locals := 110 } : Room).cells ({ frames := 4, cells := 1, slots := 7, locals := 110 } : Room).slots) := by
  refine MetFree.of_bodySF (plainFor_of_name pn0) hisR ?_
  intro p e s m args below meth c s₁ Bd hml0 hP hK
  obtain ⟨rfl, hZ, hh⟩ := hP
  have hx := Bd.exec
  have hby := Bd.bytes
  have hml : c.maxLocals = 3 := hml0
  have hown : s.vm.findClass "com/example/xixi/xixi/remoting/RemotingCommand" = some m.cls := findClass_of_methodNamed Bd.named
  have hnm := (name_of_methodNamed Bd.named Bd.method).1
  have hlk : meth.locks = false := Bd.notSynchronized
  have hret := Bd.returns
  have X0 : Stand p l e ({ frames := 4, cells := 1, slots := 7, locals := 110 } : Room) s m #[(.ref a), (.int p0), .null] below meth c s₁ [] 0 0 := Stand.of_body Bd
  have e0 : s₁.heap = h0 := by rw [← hh, Bd.state]; rfl
  have N0 := Fr.nil n0
  have K0 : Keep h0 h0 [] := Keep.refl _ _
  show Goes p e below s (Q_rm2ref Z a p0 mp bb ve oq g h0 n0) ({ frames := 4, cells := 1, slots := 7, locals := 110 } : Room).cells ({ frames := 4, cells := 1, slots := 7, locals := 110 } : Room).slots _
  refine Goes.go (fun _ kk => castTop (ef_rm2ref m a p0) kk) ?_
  show Goes _ _ _ _ _ _ _ (s₁.setTop (mkF m 0 #[.val (.ref a), .val (.int p0), .val .null] []))
  refine Goes.go (fun _ kk => XS.aloadN X0.here hx rfl (hb hby d6_0) rfl rfl kk) ?_
  show Goes _ _ _ _ _ _ _ (s₁.setTop (mkF m 1 _ [(.ref a)]))
  refine Goes.go (fun _ kk => XS.iloadN X0.here hx rfl (hb hby d6_1) rfl kk) ?_
  show Goes _ _ _ _ _ _ _ (s₁.setTop (mkF m 2 _ [(.int p0), (.ref a)]))
  refine Goes.go (fun _ kk => XS.aloadN X0.here hx rfl (hb hby d6_2) rfl rfl kk) ?_
  show Goes _ _ _ _ _ _ _ (s₁.setTop (mkF m 3 _ [.null, (.int p0), (.ref a)]))
  obtain ⟨T1, X1, e1, st1⟩ := getS X0 hx hZ hown (host := "") (hw _ (List.mem_of_getElem? (i := 47) rfl)) Via.refl e0 S1 (g := (mkF m 3 #[.val (.ref a), .val (.int p0), .val .null] [.null, (.int p0), (.ref a)])) rfl (hb hby d6_3)
  refine Goes.go (st1) ?_
  show Goes _ _ _ _ _ _ _ (T1.setTop (mkF m 6 _ [(.ref bb), .null, (.int p0), (.ref a)]))
  obtain ⟨cq2, kq2, qa2, qb2, qc2⟩ := isOf hZ e1 E0
  obtain ⟨_, _, ⟨T2, L2, k2, n2⟩, -, X2, ⟨Lc2, hQ2, l2, y2, z2⟩, st2⟩ := X1.virtualBack hx (y := (⟨"com/example/xixi/xixi/remoting/RemotingCommand", "respond", "(ILjava/lang/String;[B)Lcom/example/xixi/xixi/remoting/RemotingCommand;"⟩ : MethodName)) (z := (⟨"com/example/xixi/xixi/remoting/RemotingCommand", "respond", "(ILjava/lang/String;[B)Lcom/example/xixi/xixi/remoting/RemotingCommand;"⟩ : MethodName)) hown (mvT hZ (hw _ (List.mem_of_getElem? (i := 49) rfl))) (mvT hZ (hw _ (List.mem_of_getElem? (i := 50) rfl))) (notFace_of_selects (args := #[]) (mvT hZ (hw _ (List.mem_of_getElem? (i := 52) rfl)))) (mvT hZ (hw _ (List.mem_of_getElem? (i := 52) rfl))) (mvT hZ (hw _ (List.mem_of_getElem? (i := 51) rfl))) (by decide) (backOf (W := 0) (rm3ref l Z a0 hw [] a p0 mp bb ve oq g h0 n0 Z0 E0 F_version F_opaque F_flag hg EM S0) hZ (hw _ (List.mem_of_getElem? (i := 53) rfl)) (hw _ (List.mem_of_getElem? (i := 2) rfl)) (by decide) (by decide)) qa2 qc2 (g := (mkF m 6 #[.val (.ref a), .val (.int p0), .val .null] [(.ref bb), .null, (.int p0), (.ref a)])) rfl (by rw [hml]; rfl) (Steps.refl _) (argsL := [(.int p0), .null, (.ref bb)]) (rest := []) (lenOf pd5 rfl) rfl (by show 2 * 0 + _ ≤ _; exact Nat.le_of_eq rfl) (hb hby d6_6) (fun _ _ => ⟨rfl, e1, (by decide : 0 + 1 ≤ _), (by decide : 0 + 7 ≤ _)⟩)
  dsimp only [Pt.U, Pt.locs, Pt.cells, Pt.slots] at X2 l2 y2 z2 st2 hQ2
  subst l2 y2 z2
  obtain ⟨xr2, rfl, Nq2, Kq2, Eq2, Fq2⟩ := hQ2
  have N2 := Fr.app N0 Nq2
  have Z2 : n0 ≤ T2.heap.size := Nat.le_trans Z0 Kq2.1
  have f := Exa.keep E0 Kq2
  have f_1 := Fld.keep F_version Kq2 nin0
  have f_2 := Fld.keep F_opaque Kq2 nin0
  have f_3 := Fld.keep F_flag Kq2 nin0
  have f_4 := Exa.keep EM Kq2
  have K2 := K0.trans Kq2 all0
  refine Goes.go (fun _ kk => st2.trans kk) ?_
  show Goes _ _ _ _ _ _ _ (T2.setTop (mkF m 9 _ [(.ref xr2)]))
  exact Goes.outA X2 hx hlk hret rfl rfl (hb hby d6_9) rfl ⟨xr2, rfl, N2, K2, Eq2, Fq2⟩ (by decide) (by decide)
theorem pn2 : plainName "com/example/xixi/xixi/remoting/RemotingCommandIsResponsePinLaw" = true := by first | (simp [plainName, overriddenIn]; done) | decide +kernel
theorem ef_rm0null (m : MethodId) (p0 : Int32) (p1 : Int32) (p2 : Int32) (p3 : Int32) (p4 : Int32) (p5 : Int32) : entryFrame m #[(.int p0), (.int p1), (.int p2), (.int p3), (.int p4), (.int p5)] maxLocals = mkF m 0 #[.val (.int p0), .val (.int p1), .val (.int p2), .val (.int p3), .val (.int p4), .val (.int p5), .unset, .unset, .unset, .unset, .unset] [] := by first | (simp [entryFrame, mkF, argsToLocals, Value.category, maxLocals]; done) | rfl
def Q_rm0null (Z : State) (p0 : Int32) (p1 : Int32) (p2 : Int32) (p3 : Int32) (p4 : Int32) (p5 : Int32) (mp : Addr) (h0 : Heap) (n0 : Nat) (v : Option Value) (h : Heap) (L : List Loc) : Prop := v = some (.int 1) ∧ Fr n0 L
set_option maxRecDepth 65536 in
set_option maxHeartbeats 40000000 in
theorem rm0null (l : Launch) (Z : State) (a0 : Array Value) (hw : ∀ d ∈ tables_1, d.before a0 Z = true) (ws : List Jvm.Cond) (p0 : Int32) (p1 : Int32) (p2 : Int32) (p3 : Int32) (p4 : Int32) (p5 : Int32) (mp : Addr) (h0 : Heap) (n0 : Nat) (Z0 : n0 ≤ h0.size) (S0 : Sta Z h0 "java/util/ImmutableCollections" "EMPTY_MAP" "Ljava/util/ImmutableCollections$MapN;" (.ref mp)) (S1 : Sta Z h0 "com/example/xixi/xixi/remoting/RemotingCommand" "NO_BODY" "[B" .null) (EM : Exa Z h0 mp "java/util/ImmutableCollections$MapN") :
    MetFree l x (head1 (Jvm.Cond.code x code maxLocals ret :: ws) room_1) (fun aa U => aa = #[(.int p0), (.int p1), (.int p2), (.int p3), (.int p4), (.int p5)] ∧ Z.Warmed39 U.vm ∧ U.heap = h0) (fun _ _ _ _ _ => True) (fun _ U oo U' => ∃ v L, oo = .returned v ∧ Q_rm0null Z p0 p1 p2 p3 p4 p5 mp h0 n0 v U'.heap L ∧ FrameEnd U oo U' L room_1.cells room_1.slots) := by
  refine MetFree.of_bodySF (plainFor_of_name pn2) hisR ?_
  intro p e s m args below meth c s₁ Bd hml0 hP hK
  obtain ⟨rfl, hZ, hh⟩ := hP
  have hx := Bd.exec
  have hby := Bd.bytes
  have hml : c.maxLocals = 11 := hml0
  have hown : s.vm.findClass "com/example/xixi/xixi/remoting/RemotingCommandIsResponsePinLaw" = some m.cls := findClass_of_methodNamed Bd.named
  have hnm := (name_of_methodNamed Bd.named Bd.method).1
  have hlk : meth.locks = false := Bd.notSynchronized
  have hret := Bd.returns
  have X0 : Stand p l e room_1 s m #[(.int p0), (.int p1), (.int p2), (.int p3), (.int p4), (.int p5)] below meth c s₁ [] 0 0 := Stand.of_body Bd
  have e0 : s₁.heap = h0 := by rw [← hh, Bd.state]; rfl
  have N0 := Fr.nil n0
  have K0 : Keep h0 h0 [] := Keep.refl _ _
  show Goes p e below s (Q_rm0null Z p0 p1 p2 p3 p4 p5 mp h0 n0) room_1.cells room_1.slots _
  refine Goes.go (fun _ kk => castTop (ef_rm0null m p0 p1 p2 p3 p4 p5) kk) ?_
  show Goes _ _ _ _ _ _ _ (s₁.setTop (mkF m 0 #[.val (.int p0), .val (.int p1), .val (.int p2), .val (.int p3), .val (.int p4), .val (.int p5), .unset, .unset, .unset, .unset, .unset] []))
  obtain ⟨T1, h1, X1, e1, E1, A1, D1, -, st1⟩ := newO X0 hx hZ hown (hw _ (List.mem_of_getElem? (i := 0) rfl)) (hw _ (List.mem_of_getElem? (i := 1) rfl)) (hw _ (List.mem_of_getElem? (i := 2) rfl)) e0 (g := (mkF m 0 #[.val (.int p0), .val (.int p1), .val (.int p2), .val (.int p3), .val (.int p4), .val (.int p5), .unset, .unset, .unset, .unset, .unset] [])) rfl (hb hby at_0) (by decide) (by decide)
  obtain ⟨ob0, gob0⟩ : ∃ z, z = h0.size := ⟨_, rfl⟩
  rw [← gob0] at A1 D1 st1
  have ne_mp_ob0 : mp ≠ ob0 := by rw [gob0]; exact Nat.ne_of_lt EM.lt
  have f := Exa.ext E1 EM
  have Z1 : n0 ≤ h1.size := Nat.le_trans Z0 E1.1
  have ge_ob0 : n0 ≤ ob0 := Nat.le_trans Z0 (Nat.le_of_eq gob0.symm)
  have kge_ob0 : h0.size ≤ ob0 := by rw [gob0]; exact K0.1
  have f_1 : Fld Z h1 ob0 "com/example/xixi/xixi/remoting/RemotingCommand" "code" "I" (.int (0 : Int32)) := D1 (Or.inr (hw _ (List.mem_of_getElem? (i := 11) rfl))) (ty := .int) (by decide)
  have f_2 : Fld Z h1 ob0 "com/example/xixi/xixi/remoting/RemotingCommand" "version" "I" (.int (0 : Int32)) := D1 (Or.inr (hw _ (List.mem_of_getElem? (i := 13) rfl))) (ty := .int) (by decide)
  have f_3 : Fld Z h1 ob0 "com/example/xixi/xixi/remoting/RemotingCommand" "opaque" "I" (.int (0 : Int32)) := D1 (Or.inr (hw _ (List.mem_of_getElem? (i := 15) rfl))) (ty := .int) (by decide)
  have f_4 : Fld Z h1 ob0 "com/example/xixi/xixi/remoting/RemotingCommand" "flag" "I" (.int (0 : Int32)) := D1 (Or.inr (hw _ (List.mem_of_getElem? (i := 17) rfl))) (ty := .int) (by decide)
  have f_5 : Fld Z h1 ob0 "com/example/xixi/xixi/remoting/RemotingCommand" "remark" "Ljava/lang/String;" .null := D1 (Or.inr (hw _ (List.mem_of_getElem? (i := 19) rfl))) (ty := (.object "java/lang/String")) (by decide)
  have f_6 : Fld Z h1 ob0 "com/example/xixi/xixi/remoting/RemotingCommand" "extFields" "Ljava/util/Map;" .null := D1 (Or.inr (hw _ (List.mem_of_getElem? (i := 21) rfl))) (ty := (.object "java/util/Map")) (by decide)
  have f_7 : Fld Z h1 ob0 "com/example/xixi/xixi/remoting/RemotingCommand" "body" "[B" .null := D1 (Or.inr (hw _ (List.mem_of_getElem? (i := 23) rfl))) (ty := (.array .byte)) (by decide)
  have K1 := K0.ext E1
  refine Goes.go (st1) ?_
  show Goes _ _ _ _ _ _ _ (T1.setTop (mkF m 3 _ [(.ref ob0)]))
  refine Goes.go (fun _ kk => XS.dup X1.here hx rfl (hb hby at_3) rfl rfl kk) ?_
  show Goes _ _ _ _ _ _ _ (T1.setTop (mkF m 4 _ [(.ref ob0), (.ref ob0)]))
  refine Goes.go (fun _ kk => XS.iloadN X1.here hx rfl (hb hby at_4) rfl kk) ?_
  show Goes _ _ _ _ _ _ _ (T1.setTop (mkF m 5 _ [(.int p0), (.ref ob0), (.ref ob0)]))
  refine Goes.go (fun _ kk => XS.iloadN X1.here hx rfl (hb hby at_5) rfl kk) ?_
  show Goes _ _ _ _ _ _ _ (T1.setTop (mkF m 6 _ [(.int p1), (.int p0), (.ref ob0), (.ref ob0)]))
  refine Goes.go (fun _ kk => XS.iloadN X1.here hx rfl (hb hby at_6) rfl kk) ?_
  show Goes _ _ _ _ _ _ _ (T1.setTop (mkF m 7 _ [(.int p2), (.int p1), (.int p0), (.ref ob0), (.ref ob0)]))
  refine Goes.go (fun _ kk => XS.iloadN X1.here hx rfl (hb hby at_7) rfl kk) ?_
  show Goes _ _ _ _ _ _ _ (T1.setTop (mkF m 8 _ [(.int p3), (.int p2), (.int p1), (.int p0), (.ref ob0), (.ref ob0)]))
  refine Goes.go (fun _ kk => XS.aconstNull X1.here hx rfl (hb hby at_8) kk) ?_
  show Goes _ _ _ _ _ _ _ (T1.setTop (mkF m 9 _ [.null, (.int p3), (.int p2), (.int p1), (.int p0), (.ref ob0), (.ref ob0)]))
  refine Goes.go (fun _ kk => XS.aconstNull X1.here hx rfl (hb hby at_9) kk) ?_
  show Goes _ _ _ _ _ _ _ (T1.setTop (mkF m 10 _ [.null, .null, (.int p3), (.int p2), (.int p1), (.int p0), (.ref ob0), (.ref ob0)]))
  refine Goes.go (fun _ kk => XS.iconst X1.here hx rfl (hb hby at_10) kk) ?_
  show Goes _ _ _ _ _ _ _ (T1.setTop (mkF m 11 _ [(.int (0 : Int32)), .null, .null, (.int p3), (.int p2), (.int p1), (.int p0), (.ref ob0), (.ref ob0)]))
  obtain ⟨T2, h2, X2, e2, E2, A2, st2⟩ := own_newP X1 hx hZ (aty := .byte) (hw _ (List.mem_of_getElem? (i := 3) rfl)) e1 (g := (mkF m 11 #[.val (.int p0), .val (.int p1), .val (.int p2), .val (.int p3), .val (.int p4), .val (.int p5), .unset, .unset, .unset, .unset, .unset] [(.int (0 : Int32)), .null, .null, (.int p3), (.int p2), (.int p1), (.int p0), (.ref ob0), (.ref ob0)])) rfl (hb hby at_11) rfl (n := (0 : Int32)) (by decide) (cap := 0) (by decide) (by decide) (by decide) (by decide)
  obtain ⟨ar11, gar11⟩ : ∃ z, z = h1.size := ⟨_, rfl⟩
  rw [← gar11] at A2 st2
  have ne_mp_ar11 : mp ≠ ar11 := by rw [gar11]; exact Nat.ne_of_lt f.lt
  have ne_ob0_ar11 : ob0 ≠ ar11 := by rw [gar11]; exact Nat.ne_of_lt A1.lt
  have f_8 := Exa.ext E2 f
  have f_9 := Exa.ext E2 A1
  have f_10 := Fld.ext E2 f_1
  have f_11 := Fld.ext E2 f_2
  have f_12 := Fld.ext E2 f_3
  have f_13 := Fld.ext E2 f_4
  have f_14 := Fld.ext E2 f_5
  have f_15 := Fld.ext E2 f_6
  have f_16 := Fld.ext E2 f_7
  have Z2 : n0 ≤ h2.size := Nat.le_trans Z1 E2.1
  have ge_ar11 : n0 ≤ ar11 := Nat.le_trans Z1 (Nat.le_of_eq gar11.symm)
  have kge_ar11 : h0.size ≤ ar11 := by rw [gar11]; exact K1.1
  have f_17 : Arl Z h2 ar11 .byte [] := A2
  have K2 := K1.ext E2
  refine Goes.go (st2) ?_
  show Goes _ _ _ _ _ _ _ (T2.setTop (mkF m 13 _ [(.ref ar11), .null, .null, (.int p3), (.int p2), (.int p1), (.int p0), (.ref ob0), (.ref ob0)]))
  obtain ⟨_, _, ⟨T3, L3, k3, n3⟩, -, X3, ⟨Lc3, hQ3, l3, y3, z3⟩, st3⟩ := X2.specialBack hx (y := (⟨"com/example/xixi/xixi/remoting/RemotingCommand", "<init>", "(IIIILjava/lang/String;Ljava/util/Map;[B)V"⟩ : MethodName)) rfl hown (mvT hZ (hw _ (List.mem_of_getElem? (i := 4) rfl))) (mvT hZ (hw _ (List.mem_of_getElem? (i := 5) rfl))) (mvT hZ (hw _ (List.mem_of_getElem? (i := 6) rfl))) (by decide) (backOf (W := 1) (rmC1 l Z a0 hw [] ob0 p0 p1 p2 p3 ar11 h2 n0 Z2 f_9 f_10 f_11 f_12 f_13 f_14 f_15 f_16 ge_ob0) hZ (hw _ (List.mem_of_getElem? (i := 6) rfl)) (hw _ (List.mem_of_getElem? (i := 2) rfl)) (by decide) (by decide)) (g := (mkF m 13 #[.val (.int p0), .val (.int p1), .val (.int p2), .val (.int p3), .val (.int p4), .val (.int p5), .unset, .unset, .unset, .unset, .unset] [(.ref ar11), .null, .null, (.int p3), (.int p2), (.int p1), (.int p0), (.ref ob0), (.ref ob0)])) rfl (by rw [hml]; rfl) (Steps.refl _) (a := ob0) (argsL := [(.int p0), (.int p1), (.int p2), (.int p3), .null, .null, (.ref ar11)]) (rest := [(.ref ob0)]) (lenOf pd0 rfl) rfl (by show 2 * 0 + _ ≤ _; exact Nat.le_of_eq rfl) (hb hby at_13) (fun _ _ => ⟨rfl, e2, (by decide : 2 + 0 ≤ _), (by decide : 7 + 0 ≤ _)⟩)
  dsimp only [Pt.U, Pt.locs, Pt.cells, Pt.slots] at X3 l3 y3 z3 st3 hQ3
  subst l3 y3 z3
  obtain ⟨rfl, Nq3, Kq3, Eq3, Fq3_0, Fq3_1, Fq3_2, Fq3_3, Fq3_4, Fq3_5, Fq3_6⟩ := hQ3
  have N3 := Fr.app N0 Nq3
  have Z3 : n0 ≤ T3.heap.size := Nat.le_trans Z2 Kq3.1
  have f_18 := Exa.keep f_8 Kq3
  have f_19 := Arl.keep f_17 Kq3 (ninS ne_ob0_ar11.symm nin0)
  have K3 := K2.trans Kq3 (allS (Or.inr kge_ob0) all0)
  refine Goes.go (fun _ kk => st3.trans kk) ?_
  show Goes _ _ _ _ _ _ _ (T3.setTop (mkF m 16 _ [(.ref ob0)]))
  refine Goes.go (fun _ kk => XS.astore X3.here hx rfl (hb hby at_16) rfl rfl (l' := #[.val (.int p0), .val (.int p1), .val (.int p2), .val (.int p3), .val (.int p4), .val (.int p5), .val (.ref ob0), .unset, .unset, .unset, .unset]) rfl kk) ?_
  show Goes _ _ _ _ _ _ _ (T3.setTop (mkF m 18 #[.val (.int p0), .val (.int p1), .val (.int p2), .val (.int p3), .val (.int p4), .val (.int p5), .val (.ref ob0), .unset, .unset, .unset, .unset] []))
  refine Goes.go (fun _ kk => XS.aload X3.here hx rfl (hb hby at_18) rfl rfl kk) ?_
  show Goes _ _ _ _ _ _ _ (T3.setTop (mkF m 20 _ [(.ref ob0)]))
  obtain ⟨cq4, kq4, qa4, qb4, qc4⟩ := isOf hZ rfl Eq3
  obtain ⟨_, _, ⟨T4, L4, k4, n4⟩, -, X4, ⟨Lc4, hQ4, l4, y4, z4⟩, st4⟩ := X3.virtualBack hx (y := (⟨"com/example/xixi/xixi/remoting/RemotingCommand", "isResponse", "()Z"⟩ : MethodName)) (z := (⟨"com/example/xixi/xixi/remoting/RemotingCommand", "isResponse", "()Z"⟩ : MethodName)) hown (mvT hZ (hw _ (List.mem_of_getElem? (i := 24) rfl))) (mvT hZ (hw _ (List.mem_of_getElem? (i := 25) rfl))) (notFace_of_selects (args := #[]) (mvT hZ (hw _ (List.mem_of_getElem? (i := 27) rfl)))) (mvT hZ (hw _ (List.mem_of_getElem? (i := 27) rfl))) (mvT hZ (hw _ (List.mem_of_getElem? (i := 26) rfl))) (by decide) (backOf (W := 0) (rmR l Z a0 hw [] ob0 p3 T3.heap n0 Z3 Fq3_3) hZ (hw _ (List.mem_of_getElem? (i := 28) rfl)) (hw _ (List.mem_of_getElem? (i := 2) rfl)) (by decide) (by decide)) qa4 qc4 (g := (mkF m 20 #[.val (.int p0), .val (.int p1), .val (.int p2), .val (.int p3), .val (.int p4), .val (.int p5), .val (.ref ob0), .unset, .unset, .unset, .unset] [(.ref ob0)])) rfl (by rw [hml]; rfl) (Steps.refl _) (argsL := []) (rest := []) (lenOf pd2 rfl) rfl (by show 2 * 0 + _ ≤ _; exact Nat.le_of_eq rfl) (hb hby at_20) (fun _ _ => ⟨rfl, rfl, (by decide : 2 + 0 ≤ _), (by decide : 7 + 0 ≤ _)⟩)
  dsimp only [Pt.U, Pt.locs, Pt.cells, Pt.slots] at X4 l4 y4 z4 st4 hQ4
  subst l4 y4 z4
  obtain ⟨rfl, Nq4, hh4⟩ := hQ4
  have N4 := Fr.app N3 Nq4
  refine Goes.go (fun _ kk => st4.trans kk) ?_
  show Goes _ _ _ _ _ _ _ (T4.setTop (mkF m 23 _ [(.int (rsF p3))]))
  refine Goes.go (fun _ kk => XS.istore X4.here hx rfl (hb hby at_23) rfl (l' := #[.val (.int p0), .val (.int p1), .val (.int p2), .val (.int p3), .val (.int p4), .val (.int p5), .val (.ref ob0), .val (.int (rsF p3)), .unset, .unset, .unset]) rfl kk) ?_
  show Goes _ _ _ _ _ _ _ (T4.setTop (mkF m 25 #[.val (.int p0), .val (.int p1), .val (.int p2), .val (.int p3), .val (.int p4), .val (.int p5), .val (.ref ob0), .val (.int (rsF p3)), .unset, .unset, .unset] []))
  refine Goes.go (fun _ kk => XS.iloadN X4.here hx rfl (hb hby at_25) rfl kk) ?_
  show Goes _ _ _ _ _ _ _ (T4.setTop (mkF m 26 _ [(.int p3)]))
  refine Goes.go (fun _ kk => XS.iconst X4.here hx rfl (hb hby at_26) kk) ?_
  show Goes _ _ _ _ _ _ _ (T4.setTop (mkF m 27 _ [(.int (2 : Int32)), (.int p3)]))
  refine Goes.go (fun _ kk => iremM X4 hx rfl (hb hby at_27) rfl (by decide) kk) ?_
  show Goes _ _ _ _ _ _ _ (T4.setTop (mkF m 28 _ [(.int (p3 % (2 : Int32)))]))
  by_cases c28 : (p3 % (2 : Int32)) = 0
  · skip
    refine Goes.go (fun _ kk => XS.ifYes X4.here hx rfl (pc0 := 28) (pc' := 35) rfl (hb hby at_28) rfl (XT.i0_eq_t c28) (by decide) (by decide) kk) ?_
    show Goes _ _ _ _ _ _ _ (T4.setTop (mkF m 35 _ []))
    refine Goes.go (fun _ kk => XS.iconst X4.here hx rfl (hb hby at_35) kk) ?_
    show Goes _ _ _ _ _ _ _ (T4.setTop (mkF m 36 _ [(.int (0 : Int32))]))
    refine Goes.go (fun _ kk => XS.istore X4.here hx rfl (hb hby at_36) rfl (l' := #[.val (.int p0), .val (.int p1), .val (.int p2), .val (.int p3), .val (.int p4), .val (.int p5), .val (.ref ob0), .val (.int (rsF p3)), .val (.int (0 : Int32)), .unset, .unset]) rfl kk) ?_
    show Goes _ _ _ _ _ _ _ (T4.setTop (mkF m 38 #[.val (.int p0), .val (.int p1), .val (.int p2), .val (.int p3), .val (.int p4), .val (.int p5), .val (.ref ob0), .val (.int (rsF p3)), .val (.int (0 : Int32)), .unset, .unset] []))
    refine Goes.go (fun _ kk => XS.iload X4.here hx rfl (hb hby at_38) rfl kk) ?_
    show Goes _ _ _ _ _ _ _ (T4.setTop (mkF m 40 _ [(.int (rsF p3))]))
    refine Goes.go (fun _ kk => XS.iload X4.here hx rfl (hb hby at_40) rfl kk) ?_
    show Goes _ _ _ _ _ _ _ (T4.setTop (mkF m 42 _ [(.int (0 : Int32)), (.int (rsF p3))]))
    refine Goes.go (fun _ kk => XS.icmpYes X4.here hx rfl (pc0 := 42) (pc' := 47) rfl (hb hby at_42) rfl (XT.ii_eq_t (rs_even c28)) (by decide) (by decide) kk) ?_
    show Goes _ _ _ _ _ _ _ (T4.setTop (mkF m 47 _ []))
    refine Goes.go (fun _ kk => XS.aload X4.here hx rfl (hb hby at_47) rfl rfl kk) ?_
    show Goes _ _ _ _ _ _ _ (T4.setTop (mkF m 49 _ [(.ref ob0)]))
    refine Goes.go (fun _ kk => XS.iload X4.here hx rfl (hb hby at_49) rfl kk) ?_
    show Goes _ _ _ _ _ _ _ (T4.setTop (mkF m 51 _ [(.int p5), (.ref ob0)]))
    obtain ⟨cq5, kq5, qa5, qb5, qc5⟩ := isOf hZ hh4 Eq3
    obtain ⟨_, _, ⟨T5, L5, k5, n5⟩, -, X5, ⟨Lc5, hQ5, l5, y5, z5⟩, st5⟩ := X4.virtualBack hx (y := (⟨"com/example/xixi/xixi/remoting/RemotingCommand", "withOpaque", "(I)Lcom/example/xixi/xixi/remoting/RemotingCommand;"⟩ : MethodName)) (z := (⟨"com/example/xixi/xixi/remoting/RemotingCommand", "withOpaque", "(I)Lcom/example/xixi/xixi/remoting/RemotingCommand;"⟩ : MethodName)) hown (mvT hZ (hw _ (List.mem_of_getElem? (i := 29) rfl))) (mvT hZ (hw _ (List.mem_of_getElem? (i := 30) rfl))) (notFace_of_selects (args := #[]) (mvT hZ (hw _ (List.mem_of_getElem? (i := 32) rfl)))) (mvT hZ (hw _ (List.mem_of_getElem? (i := 32) rfl))) (mvT hZ (hw _ (List.mem_of_getElem? (i := 31) rfl))) (by decide) (backOf (W := 0) (rmW l Z a0 hw [] ob0 p5 p0 p1 p3 ar11 T3.heap n0 Z3 Fq3_0 Fq3_1 Fq3_3 Fq3_4 Fq3_5 Fq3_6) hZ (hw _ (List.mem_of_getElem? (i := 33) rfl)) (hw _ (List.mem_of_getElem? (i := 2) rfl)) (by decide) (by decide)) qa5 qc5 (g := (mkF m 51 #[.val (.int p0), .val (.int p1), .val (.int p2), .val (.int p3), .val (.int p4), .val (.int p5), .val (.ref ob0), .val (.int (rsF p3)), .val (.int (0 : Int32)), .unset, .unset] [(.int p5), (.ref ob0)])) rfl (by rw [hml]; rfl) (Steps.refl _) (argsL := [(.int p5)]) (rest := []) (lenOf pd3 rfl) rfl (by show 2 * 0 + _ ≤ _; exact Nat.le_of_eq rfl) (hb hby at_51) (fun _ _ => ⟨rfl, hh4, (by decide : 2 + 1 ≤ _), (by decide : 7 + 7 ≤ _)⟩)
    dsimp only [Pt.U, Pt.locs, Pt.cells, Pt.slots] at X5 l5 y5 z5 st5 hQ5
    subst l5 y5 z5
    obtain ⟨xr5, rfl, Nq5, Kq5, Eq5, Fq5⟩ := hQ5
    have N5 := Fr.app N4 Nq5
    have Z5 : n0 ≤ T5.heap.size := Nat.le_trans Z3 Kq5.1
    have f_20 := Exa.keep f_18 Kq5
    have f_21 := Exa.keep Eq3 Kq5
    have f_22 := Fld.keep Fq3_0 Kq5 nin0
    have f_23 := Fld.keep Fq3_1 Kq5 nin0
    have f_24 := Fld.keep Fq3_2 Kq5 nin0
    have f_25 := Fld.keep Fq3_3 Kq5 nin0
    have f_26 := Fld.keep Fq3_4 Kq5 nin0
    have f_27 := Fld.keep Fq3_5 Kq5 nin0
    have f_28 := Fld.keep Fq3_6 Kq5 nin0
    have f_29 := Arl.keep f_19 Kq5 nin0
    have K5 := K3.trans Kq5 all0
    refine Goes.go (fun _ kk => st5.trans kk) ?_
    show Goes _ _ _ _ _ _ _ (T5.setTop (mkF m 54 _ [(.ref xr5)]))
    refine Goes.go (fun _ kk => XS.astore X5.here hx rfl (hb hby at_54) rfl rfl (l' := #[.val (.int p0), .val (.int p1), .val (.int p2), .val (.int p3), .val (.int p4), .val (.int p5), .val (.ref ob0), .val (.int (rsF p3)), .val (.int (0 : Int32)), .val (.ref xr5), .unset]) rfl kk) ?_
    show Goes _ _ _ _ _ _ _ (T5.setTop (mkF m 56 #[.val (.int p0), .val (.int p1), .val (.int p2), .val (.int p3), .val (.int p4), .val (.int p5), .val (.ref ob0), .val (.int (rsF p3)), .val (.int (0 : Int32)), .val (.ref xr5), .unset] []))
    refine Goes.go (fun _ kk => XS.aload X5.here hx rfl (hb hby at_56) rfl rfl kk) ?_
    show Goes _ _ _ _ _ _ _ (T5.setTop (mkF m 58 _ [(.ref xr5)]))
    obtain ⟨cq6, kq6, qa6, qb6, qc6⟩ := isOf hZ rfl Eq5
    obtain ⟨_, _, ⟨T6, L6, k6, n6⟩, -, X6, ⟨Lc6, hQ6, l6, y6, z6⟩, st6⟩ := X5.virtualBack hx (y := (⟨"com/example/xixi/xixi/remoting/RemotingCommand", "isResponse", "()Z"⟩ : MethodName)) (z := (⟨"com/example/xixi/xixi/remoting/RemotingCommand", "isResponse", "()Z"⟩ : MethodName)) hown (mvT hZ (hw _ (List.mem_of_getElem? (i := 24) rfl))) (mvT hZ (hw _ (List.mem_of_getElem? (i := 25) rfl))) (notFace_of_selects (args := #[]) (mvT hZ (hw _ (List.mem_of_getElem? (i := 27) rfl)))) (mvT hZ (hw _ (List.mem_of_getElem? (i := 27) rfl))) (mvT hZ (hw _ (List.mem_of_getElem? (i := 26) rfl))) (by decide) (backOf (W := 0) (rmR l Z a0 hw [] xr5 p3 T5.heap n0 Z5 Fq5) hZ (hw _ (List.mem_of_getElem? (i := 28) rfl)) (hw _ (List.mem_of_getElem? (i := 2) rfl)) (by decide) (by decide)) qa6 qc6 (g := (mkF m 58 #[.val (.int p0), .val (.int p1), .val (.int p2), .val (.int p3), .val (.int p4), .val (.int p5), .val (.ref ob0), .val (.int (rsF p3)), .val (.int (0 : Int32)), .val (.ref xr5), .unset] [(.ref xr5)])) rfl (by rw [hml]; rfl) (Steps.refl _) (argsL := []) (rest := []) (lenOf pd2 rfl) rfl (by show 2 * 0 + _ ≤ _; exact Nat.le_of_eq rfl) (hb hby at_58) (fun _ _ => ⟨rfl, rfl, (by decide : 3 + 0 ≤ _), (by decide : 14 + 0 ≤ _)⟩)
    dsimp only [Pt.U, Pt.locs, Pt.cells, Pt.slots] at X6 l6 y6 z6 st6 hQ6
    subst l6 y6 z6
    obtain ⟨rfl, Nq6, hh6⟩ := hQ6
    have N6 := Fr.app N5 Nq6
    refine Goes.go (fun _ kk => st6.trans kk) ?_
    show Goes _ _ _ _ _ _ _ (T6.setTop (mkF m 61 _ [(.int (rsF p3))]))
    refine Goes.go (fun _ kk => XS.iload X6.here hx rfl (hb hby at_61) rfl kk) ?_
    show Goes _ _ _ _ _ _ _ (T6.setTop (mkF m 63 _ [(.int (rsF p3)), (.int (rsF p3))]))
    refine Goes.go (fun _ kk => XS.icmpYes X6.here hx rfl (pc0 := 63) (pc' := 68) rfl (hb hby at_63) rfl (XT.ii_eq_t rfl) (by decide) (by decide) kk) ?_
    show Goes _ _ _ _ _ _ _ (T6.setTop (mkF m 68 _ []))
    refine Goes.go (fun _ kk => XS.aload X6.here hx rfl (hb hby at_68) rfl rfl kk) ?_
    show Goes _ _ _ _ _ _ _ (T6.setTop (mkF m 70 _ [(.ref ob0)]))
    obtain ⟨cq7, kq7, qa7, qb7, qc7⟩ := isOf hZ hh6 f_21
    obtain ⟨_, _, ⟨T7, L7, k7, n7⟩, -, X7, ⟨Lc7, hQ7, l7, y7, z7⟩, st7⟩ := X6.virtualBack hx (y := (⟨"com/example/xixi/xixi/remoting/RemotingCommand", "isOneWay", "()Z"⟩ : MethodName)) (z := (⟨"com/example/xixi/xixi/remoting/RemotingCommand", "isOneWay", "()Z"⟩ : MethodName)) hown (mvT hZ (hw _ (List.mem_of_getElem? (i := 36) rfl))) (mvT hZ (hw _ (List.mem_of_getElem? (i := 37) rfl))) (notFace_of_selects (args := #[]) (mvT hZ (hw _ (List.mem_of_getElem? (i := 39) rfl)))) (mvT hZ (hw _ (List.mem_of_getElem? (i := 39) rfl))) (mvT hZ (hw _ (List.mem_of_getElem? (i := 38) rfl))) (by decide) (backOf (W := 0) (rmO l Z a0 hw [] ob0 p3 T5.heap n0 Z5 f_25 f_21) hZ (hw _ (List.mem_of_getElem? (i := 40) rfl)) (hw _ (List.mem_of_getElem? (i := 2) rfl)) (by decide) (by decide)) qa7 qc7 (g := (mkF m 70 #[.val (.int p0), .val (.int p1), .val (.int p2), .val (.int p3), .val (.int p4), .val (.int p5), .val (.ref ob0), .val (.int (rsF p3)), .val (.int (0 : Int32)), .val (.ref xr5), .unset] [(.ref ob0)])) rfl (by rw [hml]; rfl) (Steps.refl _) (argsL := []) (rest := []) (lenOf pd2 rfl) rfl (by show 2 * 0 + _ ≤ _; exact Nat.le_of_eq rfl) (hb hby at_70) (fun _ _ => ⟨rfl, hh6, (by decide : 3 + 0 ≤ _), (by decide : 14 + 0 ≤ _)⟩)
    dsimp only [Pt.U, Pt.locs, Pt.cells, Pt.slots] at X7 l7 y7 z7 st7 hQ7
    subst l7 y7 z7
    obtain ⟨rfl, Nq7, hh7⟩ := hQ7
    have N7 := Fr.app N6 Nq7
    refine Goes.go (fun _ kk => st7.trans kk) ?_
    show Goes _ _ _ _ _ _ _ (T7.setTop (mkF m 73 _ [(.int (owF p3))]))
    by_cases c73 : (owF p3) = 0
    · skip
      refine Goes.go (fun _ kk => XS.ifYes X7.here hx rfl (pc0 := 73) (pc' := 83) rfl (hb hby at_73) rfl (XT.i0_eq_t c73) (by decide) (by decide) kk) ?_
      show Goes _ _ _ _ _ _ _ (T7.setTop (mkF m 83 _ []))
      refine Goes.go (fun _ kk => XS.iload X7.here hx rfl (hb hby at_83) rfl kk) ?_
      show Goes _ _ _ _ _ _ _ (T7.setTop (mkF m 85 _ [(.int (rsF p3))]))
      refine Goes.go (fun _ kk => XS.ifNo X7.here hx rfl (hb hby at_85) rfl (XT.i0_ne_f (rs_even c28)) kk) ?_
      show Goes _ _ _ _ _ _ _ (T7.setTop (mkF m 88 _ []))
      have hg : rsF p3 = 0 := rs_even c28
      refine Goes.go (fun _ kk => XS.aload X7.here hx rfl (hb hby at_88) rfl rfl kk) ?_
      show Goes _ _ _ _ _ _ _ (T7.setTop (mkF m 90 _ [(.ref ob0)]))
      refine Goes.go (fun _ kk => XS.iload X7.here hx rfl (hb hby at_90) rfl kk) ?_
      show Goes _ _ _ _ _ _ _ (T7.setTop (mkF m 92 _ [(.int p4), (.ref ob0)]))
      refine Goes.go (fun _ kk => XS.aconstNull X7.here hx rfl (hb hby at_92) kk) ?_
      show Goes _ _ _ _ _ _ _ (T7.setTop (mkF m 93 _ [.null, (.int p4), (.ref ob0)]))
      obtain ⟨cq8, kq8, qa8, qb8, qc8⟩ := isOf hZ hh7 f_21
      obtain ⟨_, _, ⟨T8, L8, k8, n8⟩, -, X8, ⟨Lc8, hQ8, l8, y8, z8⟩, st8⟩ := X7.virtualBack hx (y := (⟨"com/example/xixi/xixi/remoting/RemotingCommand", "respond", "(ILjava/lang/String;)Lcom/example/xixi/xixi/remoting/RemotingCommand;"⟩ : MethodName)) (z := (⟨"com/example/xixi/xixi/remoting/RemotingCommand", "respond", "(ILjava/lang/String;)Lcom/example/xixi/xixi/remoting/RemotingCommand;"⟩ : MethodName)) hown (mvT hZ (hw _ (List.mem_of_getElem? (i := 42) rfl))) (mvT hZ (hw _ (List.mem_of_getElem? (i := 43) rfl))) (notFace_of_selects (args := #[]) (mvT hZ (hw _ (List.mem_of_getElem? (i := 45) rfl)))) (mvT hZ (hw _ (List.mem_of_getElem? (i := 45) rfl))) (mvT hZ (hw _ (List.mem_of_getElem? (i := 44) rfl))) (by decide) (backOf (W := 0) (rm2null l Z a0 hw [] ob0 p4 mp p1 p2 p3 T5.heap n0 Z5 f_21 f_23 f_24 f_25 hg f_20 (Sta.ext (own_ext K5) S0) (Sta.ext (own_ext K5) S1)) hZ (hw _ (List.mem_of_getElem? (i := 46) rfl)) (hw _ (List.mem_of_getElem? (i := 2) rfl)) (by decide) (by decide)) qa8 qc8 (g := (mkF m 93 #[.val (.int p0), .val (.int p1), .val (.int p2), .val (.int p3), .val (.int p4), .val (.int p5), .val (.ref ob0), .val (.int (rsF p3)), .val (.int (0 : Int32)), .val (.ref xr5), .unset] [.null, (.int p4), (.ref ob0)])) rfl (by rw [hml]; rfl) (Steps.refl _) (argsL := [(.int p4), .null]) (rest := []) (lenOf pd4 rfl) rfl (by show 2 * 0 + _ ≤ _; exact Nat.le_of_eq rfl) (hb hby at_93) (fun _ _ => ⟨rfl, hh7, (by decide : 3 + 1 ≤ _), (by decide : 14 + 7 ≤ _)⟩)
      dsimp only [Pt.U, Pt.locs, Pt.cells, Pt.slots] at X8 l8 y8 z8 st8 hQ8
      subst l8 y8 z8
      obtain ⟨xr8, rfl, Nq8, Kq8, Eq8, Fq8⟩ := hQ8
      have N8 := Fr.app N7 Nq8
      have Z8 : n0 ≤ T8.heap.size := Nat.le_trans Z5 Kq8.1
      have f_30 := Exa.keep f_20 Kq8
      have f_31 := Exa.keep f_21 Kq8
      have f_32 := Fld.keep f_22 Kq8 nin0
      have f_33 := Fld.keep f_23 Kq8 nin0
      have f_34 := Fld.keep f_24 Kq8 nin0
      have f_35 := Fld.keep f_25 Kq8 nin0
      have f_36 := Fld.keep f_26 Kq8 nin0
      have f_37 := Fld.keep f_27 Kq8 nin0
      have f_38 := Fld.keep f_28 Kq8 nin0
      have f_39 := Arl.keep f_29 Kq8 nin0
      have f_40 := Exa.keep Eq5 Kq8
      have f_41 := Fld.keep Fq5 Kq8 nin0
      have K8 := K5.trans Kq8 all0
      refine Goes.go (fun _ kk => st8.trans kk) ?_
      show Goes _ _ _ _ _ _ _ (T8.setTop (mkF m 96 _ [(.ref xr8)]))
      refine Goes.go (fun _ kk => XS.astore X8.here hx rfl (hb hby at_96) rfl rfl (l' := #[.val (.int p0), .val (.int p1), .val (.int p2), .val (.int p3), .val (.int p4), .val (.int p5), .val (.ref ob0), .val (.int (rsF p3)), .val (.int (0 : Int32)), .val (.ref xr5), .val (.ref xr8)]) rfl kk) ?_
      show Goes _ _ _ _ _ _ _ (T8.setTop (mkF m 98 #[.val (.int p0), .val (.int p1), .val (.int p2), .val (.int p3), .val (.int p4), .val (.int p5), .val (.ref ob0), .val (.int (rsF p3)), .val (.int (0 : Int32)), .val (.ref xr5), .val (.ref xr8)] []))
      refine Goes.go (fun _ kk => XS.aload X8.here hx rfl (hb hby at_98) rfl rfl kk) ?_
      show Goes _ _ _ _ _ _ _ (T8.setTop (mkF m 100 _ [(.ref xr8)]))
      obtain ⟨cq9, kq9, qa9, qb9, qc9⟩ := isOf hZ rfl Eq8
      obtain ⟨_, _, ⟨T9, L9, k9, n9⟩, -, X9, ⟨Lc9, hQ9, l9, y9, z9⟩, st9⟩ := X8.virtualBack hx (y := (⟨"com/example/xixi/xixi/remoting/RemotingCommand", "isResponse", "()Z"⟩ : MethodName)) (z := (⟨"com/example/xixi/xixi/remoting/RemotingCommand", "isResponse", "()Z"⟩ : MethodName)) hown (mvT hZ (hw _ (List.mem_of_getElem? (i := 24) rfl))) (mvT hZ (hw _ (List.mem_of_getElem? (i := 25) rfl))) (notFace_of_selects (args := #[]) (mvT hZ (hw _ (List.mem_of_getElem? (i := 27) rfl)))) (mvT hZ (hw _ (List.mem_of_getElem? (i := 27) rfl))) (mvT hZ (hw _ (List.mem_of_getElem? (i := 26) rfl))) (by decide) (backOf (W := 0) (rmR l Z a0 hw [] xr8 (1 : Int32) T8.heap n0 Z8 Fq8) hZ (hw _ (List.mem_of_getElem? (i := 28) rfl)) (hw _ (List.mem_of_getElem? (i := 2) rfl)) (by decide) (by decide)) qa9 qc9 (g := (mkF m 100 #[.val (.int p0), .val (.int p1), .val (.int p2), .val (.int p3), .val (.int p4), .val (.int p5), .val (.ref ob0), .val (.int (rsF p3)), .val (.int (0 : Int32)), .val (.ref xr5), .val (.ref xr8)] [(.ref xr8)])) rfl (by rw [hml]; rfl) (Steps.refl _) (argsL := []) (rest := []) (lenOf pd2 rfl) rfl (by show 2 * 0 + _ ≤ _; exact Nat.le_of_eq rfl) (hb hby at_100) (fun _ _ => ⟨rfl, rfl, (by decide : 4 + 0 ≤ _), (by decide : 21 + 0 ≤ _)⟩)
      dsimp only [Pt.U, Pt.locs, Pt.cells, Pt.slots] at X9 l9 y9 z9 st9 hQ9
      subst l9 y9 z9
      obtain ⟨rfl, Nq9, hh9⟩ := hQ9
      have N9 := Fr.app N8 Nq9
      refine Goes.go (fun _ kk => st9.trans kk) ?_
      show Goes _ _ _ _ _ _ _ (T9.setTop (mkF m 103 _ [(.int (rsF (1 : Int32)))]))
      refine Goes.go (fun _ kk => XS.ifYes X9.here hx rfl (pc0 := 103) (pc' := 108) rfl (hb hby at_103) rfl (XT.i0_ne_t (by decide)) (by decide) (by decide) kk) ?_
      show Goes _ _ _ _ _ _ _ (T9.setTop (mkF m 108 _ []))
      refine Goes.go (fun _ kk => XS.iconst X9.here hx rfl (hb hby at_108) kk) ?_
      show Goes _ _ _ _ _ _ _ (T9.setTop (mkF m 109 _ [(.int (1 : Int32))]))
      exact Goes.outZ X9 hx hlk hret rfl (hb hby at_109) hh9 ⟨rfl, N9⟩ (by decide) (by decide)
    · skip
      refine Goes.go (fun _ kk => XS.ifNo X7.here hx rfl (hb hby at_73) rfl (XT.i0_eq_f c73) kk) ?_
      show Goes _ _ _ _ _ _ _ (T7.setTop (mkF m 76 _ []))
      refine Goes.go (fun _ kk => XS.iload X7.here hx rfl (hb hby at_76) rfl kk) ?_
      show Goes _ _ _ _ _ _ _ (T7.setTop (mkF m 78 _ [(.int (rsF p3))]))
      refine Goes.go (fun _ kk => XS.ifYes X7.here hx rfl (pc0 := 78) (pc' := 83) rfl (hb hby at_78) rfl (XT.i0_eq_t (rs_even c28)) (by decide) (by decide) kk) ?_
      show Goes _ _ _ _ _ _ _ (T7.setTop (mkF m 83 _ []))
      refine Goes.go (fun _ kk => XS.iload X7.here hx rfl (hb hby at_83) rfl kk) ?_
      show Goes _ _ _ _ _ _ _ (T7.setTop (mkF m 85 _ [(.int (rsF p3))]))
      refine Goes.go (fun _ kk => XS.ifNo X7.here hx rfl (hb hby at_85) rfl (XT.i0_ne_f (rs_even c28)) kk) ?_
      show Goes _ _ _ _ _ _ _ (T7.setTop (mkF m 88 _ []))
      have hg : rsF p3 = 0 := rs_even c28
      refine Goes.go (fun _ kk => XS.aload X7.here hx rfl (hb hby at_88) rfl rfl kk) ?_
      show Goes _ _ _ _ _ _ _ (T7.setTop (mkF m 90 _ [(.ref ob0)]))
      refine Goes.go (fun _ kk => XS.iload X7.here hx rfl (hb hby at_90) rfl kk) ?_
      show Goes _ _ _ _ _ _ _ (T7.setTop (mkF m 92 _ [(.int p4), (.ref ob0)]))
      refine Goes.go (fun _ kk => XS.aconstNull X7.here hx rfl (hb hby at_92) kk) ?_
      show Goes _ _ _ _ _ _ _ (T7.setTop (mkF m 93 _ [.null, (.int p4), (.ref ob0)]))
      obtain ⟨cq8, kq8, qa8, qb8, qc8⟩ := isOf hZ hh7 f_21
      obtain ⟨_, _, ⟨T8, L8, k8, n8⟩, -, X8, ⟨Lc8, hQ8, l8, y8, z8⟩, st8⟩ := X7.virtualBack hx (y := (⟨"com/example/xixi/xixi/remoting/RemotingCommand", "respond", "(ILjava/lang/String;)Lcom/example/xixi/xixi/remoting/RemotingCommand;"⟩ : MethodName)) (z := (⟨"com/example/xixi/xixi/remoting/RemotingCommand", "respond", "(ILjava/lang/String;)Lcom/example/xixi/xixi/remoting/RemotingCommand;"⟩ : MethodName)) hown (mvT hZ (hw _ (List.mem_of_getElem? (i := 42) rfl))) (mvT hZ (hw _ (List.mem_of_getElem? (i := 43) rfl))) (notFace_of_selects (args := #[]) (mvT hZ (hw _ (List.mem_of_getElem? (i := 45) rfl)))) (mvT hZ (hw _ (List.mem_of_getElem? (i := 45) rfl))) (mvT hZ (hw _ (List.mem_of_getElem? (i := 44) rfl))) (by decide) (backOf (W := 0) (rm2null l Z a0 hw [] ob0 p4 mp p1 p2 p3 T5.heap n0 Z5 f_21 f_23 f_24 f_25 hg f_20 (Sta.ext (own_ext K5) S0) (Sta.ext (own_ext K5) S1)) hZ (hw _ (List.mem_of_getElem? (i := 46) rfl)) (hw _ (List.mem_of_getElem? (i := 2) rfl)) (by decide) (by decide)) qa8 qc8 (g := (mkF m 93 #[.val (.int p0), .val (.int p1), .val (.int p2), .val (.int p3), .val (.int p4), .val (.int p5), .val (.ref ob0), .val (.int (rsF p3)), .val (.int (0 : Int32)), .val (.ref xr5), .unset] [.null, (.int p4), (.ref ob0)])) rfl (by rw [hml]; rfl) (Steps.refl _) (argsL := [(.int p4), .null]) (rest := []) (lenOf pd4 rfl) rfl (by show 2 * 0 + _ ≤ _; exact Nat.le_of_eq rfl) (hb hby at_93) (fun _ _ => ⟨rfl, hh7, (by decide : 3 + 1 ≤ _), (by decide : 14 + 7 ≤ _)⟩)
      dsimp only [Pt.U, Pt.locs, Pt.cells, Pt.slots] at X8 l8 y8 z8 st8 hQ8
      subst l8 y8 z8
      obtain ⟨xr8, rfl, Nq8, Kq8, Eq8, Fq8⟩ := hQ8
      have N8 := Fr.app N7 Nq8
      have Z8 : n0 ≤ T8.heap.size := Nat.le_trans Z5 Kq8.1
      have f_30 := Exa.keep f_20 Kq8
      have f_31 := Exa.keep f_21 Kq8
      have f_32 := Fld.keep f_22 Kq8 nin0
      have f_33 := Fld.keep f_23 Kq8 nin0
      have f_34 := Fld.keep f_24 Kq8 nin0
      have f_35 := Fld.keep f_25 Kq8 nin0
      have f_36 := Fld.keep f_26 Kq8 nin0
      have f_37 := Fld.keep f_27 Kq8 nin0
      have f_38 := Fld.keep f_28 Kq8 nin0
      have f_39 := Arl.keep f_29 Kq8 nin0
      have f_40 := Exa.keep Eq5 Kq8
      have f_41 := Fld.keep Fq5 Kq8 nin0
      have K8 := K5.trans Kq8 all0
      refine Goes.go (fun _ kk => st8.trans kk) ?_
      show Goes _ _ _ _ _ _ _ (T8.setTop (mkF m 96 _ [(.ref xr8)]))
      refine Goes.go (fun _ kk => XS.astore X8.here hx rfl (hb hby at_96) rfl rfl (l' := #[.val (.int p0), .val (.int p1), .val (.int p2), .val (.int p3), .val (.int p4), .val (.int p5), .val (.ref ob0), .val (.int (rsF p3)), .val (.int (0 : Int32)), .val (.ref xr5), .val (.ref xr8)]) rfl kk) ?_
      show Goes _ _ _ _ _ _ _ (T8.setTop (mkF m 98 #[.val (.int p0), .val (.int p1), .val (.int p2), .val (.int p3), .val (.int p4), .val (.int p5), .val (.ref ob0), .val (.int (rsF p3)), .val (.int (0 : Int32)), .val (.ref xr5), .val (.ref xr8)] []))
      refine Goes.go (fun _ kk => XS.aload X8.here hx rfl (hb hby at_98) rfl rfl kk) ?_
      show Goes _ _ _ _ _ _ _ (T8.setTop (mkF m 100 _ [(.ref xr8)]))
      obtain ⟨cq9, kq9, qa9, qb9, qc9⟩ := isOf hZ rfl Eq8
      obtain ⟨_, _, ⟨T9, L9, k9, n9⟩, -, X9, ⟨Lc9, hQ9, l9, y9, z9⟩, st9⟩ := X8.virtualBack hx (y := (⟨"com/example/xixi/xixi/remoting/RemotingCommand", "isResponse", "()Z"⟩ : MethodName)) (z := (⟨"com/example/xixi/xixi/remoting/RemotingCommand", "isResponse", "()Z"⟩ : MethodName)) hown (mvT hZ (hw _ (List.mem_of_getElem? (i := 24) rfl))) (mvT hZ (hw _ (List.mem_of_getElem? (i := 25) rfl))) (notFace_of_selects (args := #[]) (mvT hZ (hw _ (List.mem_of_getElem? (i := 27) rfl)))) (mvT hZ (hw _ (List.mem_of_getElem? (i := 27) rfl))) (mvT hZ (hw _ (List.mem_of_getElem? (i := 26) rfl))) (by decide) (backOf (W := 0) (rmR l Z a0 hw [] xr8 (1 : Int32) T8.heap n0 Z8 Fq8) hZ (hw _ (List.mem_of_getElem? (i := 28) rfl)) (hw _ (List.mem_of_getElem? (i := 2) rfl)) (by decide) (by decide)) qa9 qc9 (g := (mkF m 100 #[.val (.int p0), .val (.int p1), .val (.int p2), .val (.int p3), .val (.int p4), .val (.int p5), .val (.ref ob0), .val (.int (rsF p3)), .val (.int (0 : Int32)), .val (.ref xr5), .val (.ref xr8)] [(.ref xr8)])) rfl (by rw [hml]; rfl) (Steps.refl _) (argsL := []) (rest := []) (lenOf pd2 rfl) rfl (by show 2 * 0 + _ ≤ _; exact Nat.le_of_eq rfl) (hb hby at_100) (fun _ _ => ⟨rfl, rfl, (by decide : 4 + 0 ≤ _), (by decide : 21 + 0 ≤ _)⟩)
      dsimp only [Pt.U, Pt.locs, Pt.cells, Pt.slots] at X9 l9 y9 z9 st9 hQ9
      subst l9 y9 z9
      obtain ⟨rfl, Nq9, hh9⟩ := hQ9
      have N9 := Fr.app N8 Nq9
      refine Goes.go (fun _ kk => st9.trans kk) ?_
      show Goes _ _ _ _ _ _ _ (T9.setTop (mkF m 103 _ [(.int (rsF (1 : Int32)))]))
      refine Goes.go (fun _ kk => XS.ifYes X9.here hx rfl (pc0 := 103) (pc' := 108) rfl (hb hby at_103) rfl (XT.i0_ne_t (by decide)) (by decide) (by decide) kk) ?_
      show Goes _ _ _ _ _ _ _ (T9.setTop (mkF m 108 _ []))
      refine Goes.go (fun _ kk => XS.iconst X9.here hx rfl (hb hby at_108) kk) ?_
      show Goes _ _ _ _ _ _ _ (T9.setTop (mkF m 109 _ [(.int (1 : Int32))]))
      exact Goes.outZ X9 hx hlk hret rfl (hb hby at_109) hh9 ⟨rfl, N9⟩ (by decide) (by decide)
  · skip
    refine Goes.go (fun _ kk => XS.ifNo X4.here hx rfl (hb hby at_28) rfl (XT.i0_eq_f c28) kk) ?_
    show Goes _ _ _ _ _ _ _ (T4.setTop (mkF m 31 _ []))
    refine Goes.go (fun _ kk => XS.iconst X4.here hx rfl (hb hby at_31) kk) ?_
    show Goes _ _ _ _ _ _ _ (T4.setTop (mkF m 32 _ [(.int (1 : Int32))]))
    refine Goes.go (fun _ kk => XS.goto X4.here hx rfl (pc0 := 32) (pc' := 36) rfl (hb hby at_32) (by decide) (by decide) kk) ?_
    show Goes _ _ _ _ _ _ _ (T4.setTop (mkF m 36 _ [(.int (1 : Int32))]))
    refine Goes.go (fun _ kk => XS.istore X4.here hx rfl (hb hby at_36) rfl (l' := #[.val (.int p0), .val (.int p1), .val (.int p2), .val (.int p3), .val (.int p4), .val (.int p5), .val (.ref ob0), .val (.int (rsF p3)), .val (.int (1 : Int32)), .unset, .unset]) rfl kk) ?_
    show Goes _ _ _ _ _ _ _ (T4.setTop (mkF m 38 #[.val (.int p0), .val (.int p1), .val (.int p2), .val (.int p3), .val (.int p4), .val (.int p5), .val (.ref ob0), .val (.int (rsF p3)), .val (.int (1 : Int32)), .unset, .unset] []))
    refine Goes.go (fun _ kk => XS.iload X4.here hx rfl (hb hby at_38) rfl kk) ?_
    show Goes _ _ _ _ _ _ _ (T4.setTop (mkF m 40 _ [(.int (rsF p3))]))
    refine Goes.go (fun _ kk => XS.iload X4.here hx rfl (hb hby at_40) rfl kk) ?_
    show Goes _ _ _ _ _ _ _ (T4.setTop (mkF m 42 _ [(.int (1 : Int32)), (.int (rsF p3))]))
    refine Goes.go (fun _ kk => XS.icmpYes X4.here hx rfl (pc0 := 42) (pc' := 47) rfl (hb hby at_42) rfl (XT.ii_eq_t (rs_odd c28)) (by decide) (by decide) kk) ?_
    show Goes _ _ _ _ _ _ _ (T4.setTop (mkF m 47 _ []))
    refine Goes.go (fun _ kk => XS.aload X4.here hx rfl (hb hby at_47) rfl rfl kk) ?_
    show Goes _ _ _ _ _ _ _ (T4.setTop (mkF m 49 _ [(.ref ob0)]))
    refine Goes.go (fun _ kk => XS.iload X4.here hx rfl (hb hby at_49) rfl kk) ?_
    show Goes _ _ _ _ _ _ _ (T4.setTop (mkF m 51 _ [(.int p5), (.ref ob0)]))
    obtain ⟨cq5, kq5, qa5, qb5, qc5⟩ := isOf hZ hh4 Eq3
    obtain ⟨_, _, ⟨T5, L5, k5, n5⟩, -, X5, ⟨Lc5, hQ5, l5, y5, z5⟩, st5⟩ := X4.virtualBack hx (y := (⟨"com/example/xixi/xixi/remoting/RemotingCommand", "withOpaque", "(I)Lcom/example/xixi/xixi/remoting/RemotingCommand;"⟩ : MethodName)) (z := (⟨"com/example/xixi/xixi/remoting/RemotingCommand", "withOpaque", "(I)Lcom/example/xixi/xixi/remoting/RemotingCommand;"⟩ : MethodName)) hown (mvT hZ (hw _ (List.mem_of_getElem? (i := 29) rfl))) (mvT hZ (hw _ (List.mem_of_getElem? (i := 30) rfl))) (notFace_of_selects (args := #[]) (mvT hZ (hw _ (List.mem_of_getElem? (i := 32) rfl)))) (mvT hZ (hw _ (List.mem_of_getElem? (i := 32) rfl))) (mvT hZ (hw _ (List.mem_of_getElem? (i := 31) rfl))) (by decide) (backOf (W := 0) (rmW l Z a0 hw [] ob0 p5 p0 p1 p3 ar11 T3.heap n0 Z3 Fq3_0 Fq3_1 Fq3_3 Fq3_4 Fq3_5 Fq3_6) hZ (hw _ (List.mem_of_getElem? (i := 33) rfl)) (hw _ (List.mem_of_getElem? (i := 2) rfl)) (by decide) (by decide)) qa5 qc5 (g := (mkF m 51 #[.val (.int p0), .val (.int p1), .val (.int p2), .val (.int p3), .val (.int p4), .val (.int p5), .val (.ref ob0), .val (.int (rsF p3)), .val (.int (1 : Int32)), .unset, .unset] [(.int p5), (.ref ob0)])) rfl (by rw [hml]; rfl) (Steps.refl _) (argsL := [(.int p5)]) (rest := []) (lenOf pd3 rfl) rfl (by show 2 * 0 + _ ≤ _; exact Nat.le_of_eq rfl) (hb hby at_51) (fun _ _ => ⟨rfl, hh4, (by decide : 2 + 1 ≤ _), (by decide : 7 + 7 ≤ _)⟩)
    dsimp only [Pt.U, Pt.locs, Pt.cells, Pt.slots] at X5 l5 y5 z5 st5 hQ5
    subst l5 y5 z5
    obtain ⟨xr5, rfl, Nq5, Kq5, Eq5, Fq5⟩ := hQ5
    have N5 := Fr.app N4 Nq5
    have Z5 : n0 ≤ T5.heap.size := Nat.le_trans Z3 Kq5.1
    have f_20 := Exa.keep f_18 Kq5
    have f_21 := Exa.keep Eq3 Kq5
    have f_22 := Fld.keep Fq3_0 Kq5 nin0
    have f_23 := Fld.keep Fq3_1 Kq5 nin0
    have f_24 := Fld.keep Fq3_2 Kq5 nin0
    have f_25 := Fld.keep Fq3_3 Kq5 nin0
    have f_26 := Fld.keep Fq3_4 Kq5 nin0
    have f_27 := Fld.keep Fq3_5 Kq5 nin0
    have f_28 := Fld.keep Fq3_6 Kq5 nin0
    have f_29 := Arl.keep f_19 Kq5 nin0
    have K5 := K3.trans Kq5 all0
    refine Goes.go (fun _ kk => st5.trans kk) ?_
    show Goes _ _ _ _ _ _ _ (T5.setTop (mkF m 54 _ [(.ref xr5)]))
    refine Goes.go (fun _ kk => XS.astore X5.here hx rfl (hb hby at_54) rfl rfl (l' := #[.val (.int p0), .val (.int p1), .val (.int p2), .val (.int p3), .val (.int p4), .val (.int p5), .val (.ref ob0), .val (.int (rsF p3)), .val (.int (1 : Int32)), .val (.ref xr5), .unset]) rfl kk) ?_
    show Goes _ _ _ _ _ _ _ (T5.setTop (mkF m 56 #[.val (.int p0), .val (.int p1), .val (.int p2), .val (.int p3), .val (.int p4), .val (.int p5), .val (.ref ob0), .val (.int (rsF p3)), .val (.int (1 : Int32)), .val (.ref xr5), .unset] []))
    refine Goes.go (fun _ kk => XS.aload X5.here hx rfl (hb hby at_56) rfl rfl kk) ?_
    show Goes _ _ _ _ _ _ _ (T5.setTop (mkF m 58 _ [(.ref xr5)]))
    obtain ⟨cq6, kq6, qa6, qb6, qc6⟩ := isOf hZ rfl Eq5
    obtain ⟨_, _, ⟨T6, L6, k6, n6⟩, -, X6, ⟨Lc6, hQ6, l6, y6, z6⟩, st6⟩ := X5.virtualBack hx (y := (⟨"com/example/xixi/xixi/remoting/RemotingCommand", "isResponse", "()Z"⟩ : MethodName)) (z := (⟨"com/example/xixi/xixi/remoting/RemotingCommand", "isResponse", "()Z"⟩ : MethodName)) hown (mvT hZ (hw _ (List.mem_of_getElem? (i := 24) rfl))) (mvT hZ (hw _ (List.mem_of_getElem? (i := 25) rfl))) (notFace_of_selects (args := #[]) (mvT hZ (hw _ (List.mem_of_getElem? (i := 27) rfl)))) (mvT hZ (hw _ (List.mem_of_getElem? (i := 27) rfl))) (mvT hZ (hw _ (List.mem_of_getElem? (i := 26) rfl))) (by decide) (backOf (W := 0) (rmR l Z a0 hw [] xr5 p3 T5.heap n0 Z5 Fq5) hZ (hw _ (List.mem_of_getElem? (i := 28) rfl)) (hw _ (List.mem_of_getElem? (i := 2) rfl)) (by decide) (by decide)) qa6 qc6 (g := (mkF m 58 #[.val (.int p0), .val (.int p1), .val (.int p2), .val (.int p3), .val (.int p4), .val (.int p5), .val (.ref ob0), .val (.int (rsF p3)), .val (.int (1 : Int32)), .val (.ref xr5), .unset] [(.ref xr5)])) rfl (by rw [hml]; rfl) (Steps.refl _) (argsL := []) (rest := []) (lenOf pd2 rfl) rfl (by show 2 * 0 + _ ≤ _; exact Nat.le_of_eq rfl) (hb hby at_58) (fun _ _ => ⟨rfl, rfl, (by decide : 3 + 0 ≤ _), (by decide : 14 + 0 ≤ _)⟩)
    dsimp only [Pt.U, Pt.locs, Pt.cells, Pt.slots] at X6 l6 y6 z6 st6 hQ6
    subst l6 y6 z6
    obtain ⟨rfl, Nq6, hh6⟩ := hQ6
    have N6 := Fr.app N5 Nq6
    refine Goes.go (fun _ kk => st6.trans kk) ?_
    show Goes _ _ _ _ _ _ _ (T6.setTop (mkF m 61 _ [(.int (rsF p3))]))
    refine Goes.go (fun _ kk => XS.iload X6.here hx rfl (hb hby at_61) rfl kk) ?_
    show Goes _ _ _ _ _ _ _ (T6.setTop (mkF m 63 _ [(.int (rsF p3)), (.int (rsF p3))]))
    refine Goes.go (fun _ kk => XS.icmpYes X6.here hx rfl (pc0 := 63) (pc' := 68) rfl (hb hby at_63) rfl (XT.ii_eq_t rfl) (by decide) (by decide) kk) ?_
    show Goes _ _ _ _ _ _ _ (T6.setTop (mkF m 68 _ []))
    refine Goes.go (fun _ kk => XS.aload X6.here hx rfl (hb hby at_68) rfl rfl kk) ?_
    show Goes _ _ _ _ _ _ _ (T6.setTop (mkF m 70 _ [(.ref ob0)]))
    obtain ⟨cq7, kq7, qa7, qb7, qc7⟩ := isOf hZ hh6 f_21
    obtain ⟨_, _, ⟨T7, L7, k7, n7⟩, -, X7, ⟨Lc7, hQ7, l7, y7, z7⟩, st7⟩ := X6.virtualBack hx (y := (⟨"com/example/xixi/xixi/remoting/RemotingCommand", "isOneWay", "()Z"⟩ : MethodName)) (z := (⟨"com/example/xixi/xixi/remoting/RemotingCommand", "isOneWay", "()Z"⟩ : MethodName)) hown (mvT hZ (hw _ (List.mem_of_getElem? (i := 36) rfl))) (mvT hZ (hw _ (List.mem_of_getElem? (i := 37) rfl))) (notFace_of_selects (args := #[]) (mvT hZ (hw _ (List.mem_of_getElem? (i := 39) rfl)))) (mvT hZ (hw _ (List.mem_of_getElem? (i := 39) rfl))) (mvT hZ (hw _ (List.mem_of_getElem? (i := 38) rfl))) (by decide) (backOf (W := 0) (rmO l Z a0 hw [] ob0 p3 T5.heap n0 Z5 f_25 f_21) hZ (hw _ (List.mem_of_getElem? (i := 40) rfl)) (hw _ (List.mem_of_getElem? (i := 2) rfl)) (by decide) (by decide)) qa7 qc7 (g := (mkF m 70 #[.val (.int p0), .val (.int p1), .val (.int p2), .val (.int p3), .val (.int p4), .val (.int p5), .val (.ref ob0), .val (.int (rsF p3)), .val (.int (1 : Int32)), .val (.ref xr5), .unset] [(.ref ob0)])) rfl (by rw [hml]; rfl) (Steps.refl _) (argsL := []) (rest := []) (lenOf pd2 rfl) rfl (by show 2 * 0 + _ ≤ _; exact Nat.le_of_eq rfl) (hb hby at_70) (fun _ _ => ⟨rfl, hh6, (by decide : 3 + 0 ≤ _), (by decide : 14 + 0 ≤ _)⟩)
    dsimp only [Pt.U, Pt.locs, Pt.cells, Pt.slots] at X7 l7 y7 z7 st7 hQ7
    subst l7 y7 z7
    obtain ⟨rfl, Nq7, hh7⟩ := hQ7
    have N7 := Fr.app N6 Nq7
    refine Goes.go (fun _ kk => st7.trans kk) ?_
    show Goes _ _ _ _ _ _ _ (T7.setTop (mkF m 73 _ [(.int (owF p3))]))
    refine Goes.go (fun _ kk => XS.ifYes X7.here hx rfl (pc0 := 73) (pc' := 83) rfl (hb hby at_73) rfl (XT.i0_eq_t (ow_odd c28)) (by decide) (by decide) kk) ?_
    show Goes _ _ _ _ _ _ _ (T7.setTop (mkF m 83 _ []))
    refine Goes.go (fun _ kk => XS.iload X7.here hx rfl (hb hby at_83) rfl kk) ?_
    show Goes _ _ _ _ _ _ _ (T7.setTop (mkF m 85 _ [(.int (rsF p3))]))
    refine Goes.go (fun _ kk => XS.ifYes X7.here hx rfl (pc0 := 85) (pc' := 108) rfl (hb hby at_85) rfl (XT.i0_ne_t (by rw [rs_odd c28]; decide)) (by decide) (by decide) kk) ?_
    show Goes _ _ _ _ _ _ _ (T7.setTop (mkF m 108 _ []))
    refine Goes.go (fun _ kk => XS.iconst X7.here hx rfl (hb hby at_108) kk) ?_
    show Goes _ _ _ _ _ _ _ (T7.setTop (mkF m 109 _ [(.int (1 : Int32))]))
    exact Goes.outZ X7 hx hlk hret rfl (hb hby at_109) hh7 ⟨rfl, N7⟩ (by decide) (by decide)
theorem ef_rm0ref (m : MethodId) (p0 : Int32) (p1 : Int32) (p2 : Int32) (p3 : Int32) (p4 : Int32) (p5 : Int32) : entryFrame m #[(.int p0), (.int p1), (.int p2), (.int p3), (.int p4), (.int p5)] maxLocals = mkF m 0 #[.val (.int p0), .val (.int p1), .val (.int p2), .val (.int p3), .val (.int p4), .val (.int p5), .unset, .unset, .unset, .unset, .unset] [] := by first | (simp [entryFrame, mkF, argsToLocals, Value.category, maxLocals]; done) | rfl
def Q_rm0ref (Z : State) (p0 : Int32) (p1 : Int32) (p2 : Int32) (p3 : Int32) (p4 : Int32) (p5 : Int32) (mp : Addr) (bb : Addr) (h0 : Heap) (n0 : Nat) (v : Option Value) (h : Heap) (L : List Loc) : Prop := v = some (.int 1) ∧ Fr n0 L
set_option maxRecDepth 65536 in
set_option maxHeartbeats 40000000 in
theorem rm0ref (l : Launch) (Z : State) (a0 : Array Value) (hw : ∀ d ∈ tables_1, d.before a0 Z = true) (ws : List Jvm.Cond) (p0 : Int32) (p1 : Int32) (p2 : Int32) (p3 : Int32) (p4 : Int32) (p5 : Int32) (mp : Addr) (bb : Addr) (h0 : Heap) (n0 : Nat) (Z0 : n0 ≤ h0.size) (S0 : Sta Z h0 "java/util/ImmutableCollections" "EMPTY_MAP" "Ljava/util/ImmutableCollections$MapN;" (.ref mp)) (S1 : Sta Z h0 "com/example/xixi/xixi/remoting/RemotingCommand" "NO_BODY" "[B" (.ref bb)) (EM : Exa Z h0 mp "java/util/ImmutableCollections$MapN") :
    MetFree l x (head1 (Jvm.Cond.code x code maxLocals ret :: ws) room_1) (fun aa U => aa = #[(.int p0), (.int p1), (.int p2), (.int p3), (.int p4), (.int p5)] ∧ Z.Warmed39 U.vm ∧ U.heap = h0) (fun _ _ _ _ _ => True) (fun _ U oo U' => ∃ v L, oo = .returned v ∧ Q_rm0ref Z p0 p1 p2 p3 p4 p5 mp bb h0 n0 v U'.heap L ∧ FrameEnd U oo U' L room_1.cells room_1.slots) := by
  refine MetFree.of_bodySF (plainFor_of_name pn2) hisR ?_
  intro p e s m args below meth c s₁ Bd hml0 hP hK
  obtain ⟨rfl, hZ, hh⟩ := hP
  have hx := Bd.exec
  have hby := Bd.bytes
  have hml : c.maxLocals = 11 := hml0
  have hown : s.vm.findClass "com/example/xixi/xixi/remoting/RemotingCommandIsResponsePinLaw" = some m.cls := findClass_of_methodNamed Bd.named
  have hnm := (name_of_methodNamed Bd.named Bd.method).1
  have hlk : meth.locks = false := Bd.notSynchronized
  have hret := Bd.returns
  have X0 : Stand p l e room_1 s m #[(.int p0), (.int p1), (.int p2), (.int p3), (.int p4), (.int p5)] below meth c s₁ [] 0 0 := Stand.of_body Bd
  have e0 : s₁.heap = h0 := by rw [← hh, Bd.state]; rfl
  have N0 := Fr.nil n0
  have K0 : Keep h0 h0 [] := Keep.refl _ _
  show Goes p e below s (Q_rm0ref Z p0 p1 p2 p3 p4 p5 mp bb h0 n0) room_1.cells room_1.slots _
  refine Goes.go (fun _ kk => castTop (ef_rm0ref m p0 p1 p2 p3 p4 p5) kk) ?_
  show Goes _ _ _ _ _ _ _ (s₁.setTop (mkF m 0 #[.val (.int p0), .val (.int p1), .val (.int p2), .val (.int p3), .val (.int p4), .val (.int p5), .unset, .unset, .unset, .unset, .unset] []))
  obtain ⟨T1, h1, X1, e1, E1, A1, D1, -, st1⟩ := newO X0 hx hZ hown (hw _ (List.mem_of_getElem? (i := 0) rfl)) (hw _ (List.mem_of_getElem? (i := 1) rfl)) (hw _ (List.mem_of_getElem? (i := 2) rfl)) e0 (g := (mkF m 0 #[.val (.int p0), .val (.int p1), .val (.int p2), .val (.int p3), .val (.int p4), .val (.int p5), .unset, .unset, .unset, .unset, .unset] [])) rfl (hb hby at_0) (by decide) (by decide)
  obtain ⟨ob0, gob0⟩ : ∃ z, z = h0.size := ⟨_, rfl⟩
  rw [← gob0] at A1 D1 st1
  have ne_mp_ob0 : mp ≠ ob0 := by rw [gob0]; exact Nat.ne_of_lt EM.lt
  have f := Exa.ext E1 EM
  have Z1 : n0 ≤ h1.size := Nat.le_trans Z0 E1.1
  have ge_ob0 : n0 ≤ ob0 := Nat.le_trans Z0 (Nat.le_of_eq gob0.symm)
  have kge_ob0 : h0.size ≤ ob0 := by rw [gob0]; exact K0.1
  have f_1 : Fld Z h1 ob0 "com/example/xixi/xixi/remoting/RemotingCommand" "code" "I" (.int (0 : Int32)) := D1 (Or.inr (hw _ (List.mem_of_getElem? (i := 11) rfl))) (ty := .int) (by decide)
  have f_2 : Fld Z h1 ob0 "com/example/xixi/xixi/remoting/RemotingCommand" "version" "I" (.int (0 : Int32)) := D1 (Or.inr (hw _ (List.mem_of_getElem? (i := 13) rfl))) (ty := .int) (by decide)
  have f_3 : Fld Z h1 ob0 "com/example/xixi/xixi/remoting/RemotingCommand" "opaque" "I" (.int (0 : Int32)) := D1 (Or.inr (hw _ (List.mem_of_getElem? (i := 15) rfl))) (ty := .int) (by decide)
  have f_4 : Fld Z h1 ob0 "com/example/xixi/xixi/remoting/RemotingCommand" "flag" "I" (.int (0 : Int32)) := D1 (Or.inr (hw _ (List.mem_of_getElem? (i := 17) rfl))) (ty := .int) (by decide)
  have f_5 : Fld Z h1 ob0 "com/example/xixi/xixi/remoting/RemotingCommand" "remark" "Ljava/lang/String;" .null := D1 (Or.inr (hw _ (List.mem_of_getElem? (i := 19) rfl))) (ty := (.object "java/lang/String")) (by decide)
  have f_6 : Fld Z h1 ob0 "com/example/xixi/xixi/remoting/RemotingCommand" "extFields" "Ljava/util/Map;" .null := D1 (Or.inr (hw _ (List.mem_of_getElem? (i := 21) rfl))) (ty := (.object "java/util/Map")) (by decide)
  have f_7 : Fld Z h1 ob0 "com/example/xixi/xixi/remoting/RemotingCommand" "body" "[B" .null := D1 (Or.inr (hw _ (List.mem_of_getElem? (i := 23) rfl))) (ty := (.array .byte)) (by decide)
  have K1 := K0.ext E1
  refine Goes.go (st1) ?_
  show Goes _ _ _ _ _ _ _ (T1.setTop (mkF m 3 _ [(.ref ob0)]))
  refine Goes.go (fun _ kk => XS.dup X1.here hx rfl (hb hby at_3) rfl rfl kk) ?_
  show Goes _ _ _ _ _ _ _ (T1.setTop (mkF m 4 _ [(.ref ob0), (.ref ob0)]))
  refine Goes.go (fun _ kk => XS.iloadN X1.here hx rfl (hb hby at_4) rfl kk) ?_
  show Goes _ _ _ _ _ _ _ (T1.setTop (mkF m 5 _ [(.int p0), (.ref ob0), (.ref ob0)]))
  refine Goes.go (fun _ kk => XS.iloadN X1.here hx rfl (hb hby at_5) rfl kk) ?_
  show Goes _ _ _ _ _ _ _ (T1.setTop (mkF m 6 _ [(.int p1), (.int p0), (.ref ob0), (.ref ob0)]))
  refine Goes.go (fun _ kk => XS.iloadN X1.here hx rfl (hb hby at_6) rfl kk) ?_
  show Goes _ _ _ _ _ _ _ (T1.setTop (mkF m 7 _ [(.int p2), (.int p1), (.int p0), (.ref ob0), (.ref ob0)]))
  refine Goes.go (fun _ kk => XS.iloadN X1.here hx rfl (hb hby at_7) rfl kk) ?_
  show Goes _ _ _ _ _ _ _ (T1.setTop (mkF m 8 _ [(.int p3), (.int p2), (.int p1), (.int p0), (.ref ob0), (.ref ob0)]))
  refine Goes.go (fun _ kk => XS.aconstNull X1.here hx rfl (hb hby at_8) kk) ?_
  show Goes _ _ _ _ _ _ _ (T1.setTop (mkF m 9 _ [.null, (.int p3), (.int p2), (.int p1), (.int p0), (.ref ob0), (.ref ob0)]))
  refine Goes.go (fun _ kk => XS.aconstNull X1.here hx rfl (hb hby at_9) kk) ?_
  show Goes _ _ _ _ _ _ _ (T1.setTop (mkF m 10 _ [.null, .null, (.int p3), (.int p2), (.int p1), (.int p0), (.ref ob0), (.ref ob0)]))
  refine Goes.go (fun _ kk => XS.iconst X1.here hx rfl (hb hby at_10) kk) ?_
  show Goes _ _ _ _ _ _ _ (T1.setTop (mkF m 11 _ [(.int (0 : Int32)), .null, .null, (.int p3), (.int p2), (.int p1), (.int p0), (.ref ob0), (.ref ob0)]))
  obtain ⟨T2, h2, X2, e2, E2, A2, st2⟩ := own_newP X1 hx hZ (aty := .byte) (hw _ (List.mem_of_getElem? (i := 3) rfl)) e1 (g := (mkF m 11 #[.val (.int p0), .val (.int p1), .val (.int p2), .val (.int p3), .val (.int p4), .val (.int p5), .unset, .unset, .unset, .unset, .unset] [(.int (0 : Int32)), .null, .null, (.int p3), (.int p2), (.int p1), (.int p0), (.ref ob0), (.ref ob0)])) rfl (hb hby at_11) rfl (n := (0 : Int32)) (by decide) (cap := 0) (by decide) (by decide) (by decide) (by decide)
  obtain ⟨ar11, gar11⟩ : ∃ z, z = h1.size := ⟨_, rfl⟩
  rw [← gar11] at A2 st2
  have ne_mp_ar11 : mp ≠ ar11 := by rw [gar11]; exact Nat.ne_of_lt f.lt
  have ne_ob0_ar11 : ob0 ≠ ar11 := by rw [gar11]; exact Nat.ne_of_lt A1.lt
  have f_8 := Exa.ext E2 f
  have f_9 := Exa.ext E2 A1
  have f_10 := Fld.ext E2 f_1
  have f_11 := Fld.ext E2 f_2
  have f_12 := Fld.ext E2 f_3
  have f_13 := Fld.ext E2 f_4
  have f_14 := Fld.ext E2 f_5
  have f_15 := Fld.ext E2 f_6
  have f_16 := Fld.ext E2 f_7
  have Z2 : n0 ≤ h2.size := Nat.le_trans Z1 E2.1
  have ge_ar11 : n0 ≤ ar11 := Nat.le_trans Z1 (Nat.le_of_eq gar11.symm)
  have kge_ar11 : h0.size ≤ ar11 := by rw [gar11]; exact K1.1
  have f_17 : Arl Z h2 ar11 .byte [] := A2
  have K2 := K1.ext E2
  refine Goes.go (st2) ?_
  show Goes _ _ _ _ _ _ _ (T2.setTop (mkF m 13 _ [(.ref ar11), .null, .null, (.int p3), (.int p2), (.int p1), (.int p0), (.ref ob0), (.ref ob0)]))
  obtain ⟨_, _, ⟨T3, L3, k3, n3⟩, -, X3, ⟨Lc3, hQ3, l3, y3, z3⟩, st3⟩ := X2.specialBack hx (y := (⟨"com/example/xixi/xixi/remoting/RemotingCommand", "<init>", "(IIIILjava/lang/String;Ljava/util/Map;[B)V"⟩ : MethodName)) rfl hown (mvT hZ (hw _ (List.mem_of_getElem? (i := 4) rfl))) (mvT hZ (hw _ (List.mem_of_getElem? (i := 5) rfl))) (mvT hZ (hw _ (List.mem_of_getElem? (i := 6) rfl))) (by decide) (backOf (W := 1) (rmC1 l Z a0 hw [] ob0 p0 p1 p2 p3 ar11 h2 n0 Z2 f_9 f_10 f_11 f_12 f_13 f_14 f_15 f_16 ge_ob0) hZ (hw _ (List.mem_of_getElem? (i := 6) rfl)) (hw _ (List.mem_of_getElem? (i := 2) rfl)) (by decide) (by decide)) (g := (mkF m 13 #[.val (.int p0), .val (.int p1), .val (.int p2), .val (.int p3), .val (.int p4), .val (.int p5), .unset, .unset, .unset, .unset, .unset] [(.ref ar11), .null, .null, (.int p3), (.int p2), (.int p1), (.int p0), (.ref ob0), (.ref ob0)])) rfl (by rw [hml]; rfl) (Steps.refl _) (a := ob0) (argsL := [(.int p0), (.int p1), (.int p2), (.int p3), .null, .null, (.ref ar11)]) (rest := [(.ref ob0)]) (lenOf pd0 rfl) rfl (by show 2 * 0 + _ ≤ _; exact Nat.le_of_eq rfl) (hb hby at_13) (fun _ _ => ⟨rfl, e2, (by decide : 2 + 0 ≤ _), (by decide : 7 + 0 ≤ _)⟩)
  dsimp only [Pt.U, Pt.locs, Pt.cells, Pt.slots] at X3 l3 y3 z3 st3 hQ3
  subst l3 y3 z3
  obtain ⟨rfl, Nq3, Kq3, Eq3, Fq3_0, Fq3_1, Fq3_2, Fq3_3, Fq3_4, Fq3_5, Fq3_6⟩ := hQ3
  have N3 := Fr.app N0 Nq3
  have Z3 : n0 ≤ T3.heap.size := Nat.le_trans Z2 Kq3.1
  have f_18 := Exa.keep f_8 Kq3
  have f_19 := Arl.keep f_17 Kq3 (ninS ne_ob0_ar11.symm nin0)
  have K3 := K2.trans Kq3 (allS (Or.inr kge_ob0) all0)
  refine Goes.go (fun _ kk => st3.trans kk) ?_
  show Goes _ _ _ _ _ _ _ (T3.setTop (mkF m 16 _ [(.ref ob0)]))
  refine Goes.go (fun _ kk => XS.astore X3.here hx rfl (hb hby at_16) rfl rfl (l' := #[.val (.int p0), .val (.int p1), .val (.int p2), .val (.int p3), .val (.int p4), .val (.int p5), .val (.ref ob0), .unset, .unset, .unset, .unset]) rfl kk) ?_
  show Goes _ _ _ _ _ _ _ (T3.setTop (mkF m 18 #[.val (.int p0), .val (.int p1), .val (.int p2), .val (.int p3), .val (.int p4), .val (.int p5), .val (.ref ob0), .unset, .unset, .unset, .unset] []))
  refine Goes.go (fun _ kk => XS.aload X3.here hx rfl (hb hby at_18) rfl rfl kk) ?_
  show Goes _ _ _ _ _ _ _ (T3.setTop (mkF m 20 _ [(.ref ob0)]))
  obtain ⟨cq4, kq4, qa4, qb4, qc4⟩ := isOf hZ rfl Eq3
  obtain ⟨_, _, ⟨T4, L4, k4, n4⟩, -, X4, ⟨Lc4, hQ4, l4, y4, z4⟩, st4⟩ := X3.virtualBack hx (y := (⟨"com/example/xixi/xixi/remoting/RemotingCommand", "isResponse", "()Z"⟩ : MethodName)) (z := (⟨"com/example/xixi/xixi/remoting/RemotingCommand", "isResponse", "()Z"⟩ : MethodName)) hown (mvT hZ (hw _ (List.mem_of_getElem? (i := 24) rfl))) (mvT hZ (hw _ (List.mem_of_getElem? (i := 25) rfl))) (notFace_of_selects (args := #[]) (mvT hZ (hw _ (List.mem_of_getElem? (i := 27) rfl)))) (mvT hZ (hw _ (List.mem_of_getElem? (i := 27) rfl))) (mvT hZ (hw _ (List.mem_of_getElem? (i := 26) rfl))) (by decide) (backOf (W := 0) (rmR l Z a0 hw [] ob0 p3 T3.heap n0 Z3 Fq3_3) hZ (hw _ (List.mem_of_getElem? (i := 28) rfl)) (hw _ (List.mem_of_getElem? (i := 2) rfl)) (by decide) (by decide)) qa4 qc4 (g := (mkF m 20 #[.val (.int p0), .val (.int p1), .val (.int p2), .val (.int p3), .val (.int p4), .val (.int p5), .val (.ref ob0), .unset, .unset, .unset, .unset] [(.ref ob0)])) rfl (by rw [hml]; rfl) (Steps.refl _) (argsL := []) (rest := []) (lenOf pd2 rfl) rfl (by show 2 * 0 + _ ≤ _; exact Nat.le_of_eq rfl) (hb hby at_20) (fun _ _ => ⟨rfl, rfl, (by decide : 2 + 0 ≤ _), (by decide : 7 + 0 ≤ _)⟩)
  dsimp only [Pt.U, Pt.locs, Pt.cells, Pt.slots] at X4 l4 y4 z4 st4 hQ4
  subst l4 y4 z4
  obtain ⟨rfl, Nq4, hh4⟩ := hQ4
  have N4 := Fr.app N3 Nq4
  refine Goes.go (fun _ kk => st4.trans kk) ?_
  show Goes _ _ _ _ _ _ _ (T4.setTop (mkF m 23 _ [(.int (rsF p3))]))
  refine Goes.go (fun _ kk => XS.istore X4.here hx rfl (hb hby at_23) rfl (l' := #[.val (.int p0), .val (.int p1), .val (.int p2), .val (.int p3), .val (.int p4), .val (.int p5), .val (.ref ob0), .val (.int (rsF p3)), .unset, .unset, .unset]) rfl kk) ?_
  show Goes _ _ _ _ _ _ _ (T4.setTop (mkF m 25 #[.val (.int p0), .val (.int p1), .val (.int p2), .val (.int p3), .val (.int p4), .val (.int p5), .val (.ref ob0), .val (.int (rsF p3)), .unset, .unset, .unset] []))
  refine Goes.go (fun _ kk => XS.iloadN X4.here hx rfl (hb hby at_25) rfl kk) ?_
  show Goes _ _ _ _ _ _ _ (T4.setTop (mkF m 26 _ [(.int p3)]))
  refine Goes.go (fun _ kk => XS.iconst X4.here hx rfl (hb hby at_26) kk) ?_
  show Goes _ _ _ _ _ _ _ (T4.setTop (mkF m 27 _ [(.int (2 : Int32)), (.int p3)]))
  refine Goes.go (fun _ kk => iremM X4 hx rfl (hb hby at_27) rfl (by decide) kk) ?_
  show Goes _ _ _ _ _ _ _ (T4.setTop (mkF m 28 _ [(.int (p3 % (2 : Int32)))]))
  by_cases c28 : (p3 % (2 : Int32)) = 0
  · skip
    refine Goes.go (fun _ kk => XS.ifYes X4.here hx rfl (pc0 := 28) (pc' := 35) rfl (hb hby at_28) rfl (XT.i0_eq_t c28) (by decide) (by decide) kk) ?_
    show Goes _ _ _ _ _ _ _ (T4.setTop (mkF m 35 _ []))
    refine Goes.go (fun _ kk => XS.iconst X4.here hx rfl (hb hby at_35) kk) ?_
    show Goes _ _ _ _ _ _ _ (T4.setTop (mkF m 36 _ [(.int (0 : Int32))]))
    refine Goes.go (fun _ kk => XS.istore X4.here hx rfl (hb hby at_36) rfl (l' := #[.val (.int p0), .val (.int p1), .val (.int p2), .val (.int p3), .val (.int p4), .val (.int p5), .val (.ref ob0), .val (.int (rsF p3)), .val (.int (0 : Int32)), .unset, .unset]) rfl kk) ?_
    show Goes _ _ _ _ _ _ _ (T4.setTop (mkF m 38 #[.val (.int p0), .val (.int p1), .val (.int p2), .val (.int p3), .val (.int p4), .val (.int p5), .val (.ref ob0), .val (.int (rsF p3)), .val (.int (0 : Int32)), .unset, .unset] []))
    refine Goes.go (fun _ kk => XS.iload X4.here hx rfl (hb hby at_38) rfl kk) ?_
    show Goes _ _ _ _ _ _ _ (T4.setTop (mkF m 40 _ [(.int (rsF p3))]))
    refine Goes.go (fun _ kk => XS.iload X4.here hx rfl (hb hby at_40) rfl kk) ?_
    show Goes _ _ _ _ _ _ _ (T4.setTop (mkF m 42 _ [(.int (0 : Int32)), (.int (rsF p3))]))
    refine Goes.go (fun _ kk => XS.icmpYes X4.here hx rfl (pc0 := 42) (pc' := 47) rfl (hb hby at_42) rfl (XT.ii_eq_t (rs_even c28)) (by decide) (by decide) kk) ?_
    show Goes _ _ _ _ _ _ _ (T4.setTop (mkF m 47 _ []))
    refine Goes.go (fun _ kk => XS.aload X4.here hx rfl (hb hby at_47) rfl rfl kk) ?_
    show Goes _ _ _ _ _ _ _ (T4.setTop (mkF m 49 _ [(.ref ob0)]))
    refine Goes.go (fun _ kk => XS.iload X4.here hx rfl (hb hby at_49) rfl kk) ?_
    show Goes _ _ _ _ _ _ _ (T4.setTop (mkF m 51 _ [(.int p5), (.ref ob0)]))
    obtain ⟨cq5, kq5, qa5, qb5, qc5⟩ := isOf hZ hh4 Eq3
    obtain ⟨_, _, ⟨T5, L5, k5, n5⟩, -, X5, ⟨Lc5, hQ5, l5, y5, z5⟩, st5⟩ := X4.virtualBack hx (y := (⟨"com/example/xixi/xixi/remoting/RemotingCommand", "withOpaque", "(I)Lcom/example/xixi/xixi/remoting/RemotingCommand;"⟩ : MethodName)) (z := (⟨"com/example/xixi/xixi/remoting/RemotingCommand", "withOpaque", "(I)Lcom/example/xixi/xixi/remoting/RemotingCommand;"⟩ : MethodName)) hown (mvT hZ (hw _ (List.mem_of_getElem? (i := 29) rfl))) (mvT hZ (hw _ (List.mem_of_getElem? (i := 30) rfl))) (notFace_of_selects (args := #[]) (mvT hZ (hw _ (List.mem_of_getElem? (i := 32) rfl)))) (mvT hZ (hw _ (List.mem_of_getElem? (i := 32) rfl))) (mvT hZ (hw _ (List.mem_of_getElem? (i := 31) rfl))) (by decide) (backOf (W := 0) (rmW l Z a0 hw [] ob0 p5 p0 p1 p3 ar11 T3.heap n0 Z3 Fq3_0 Fq3_1 Fq3_3 Fq3_4 Fq3_5 Fq3_6) hZ (hw _ (List.mem_of_getElem? (i := 33) rfl)) (hw _ (List.mem_of_getElem? (i := 2) rfl)) (by decide) (by decide)) qa5 qc5 (g := (mkF m 51 #[.val (.int p0), .val (.int p1), .val (.int p2), .val (.int p3), .val (.int p4), .val (.int p5), .val (.ref ob0), .val (.int (rsF p3)), .val (.int (0 : Int32)), .unset, .unset] [(.int p5), (.ref ob0)])) rfl (by rw [hml]; rfl) (Steps.refl _) (argsL := [(.int p5)]) (rest := []) (lenOf pd3 rfl) rfl (by show 2 * 0 + _ ≤ _; exact Nat.le_of_eq rfl) (hb hby at_51) (fun _ _ => ⟨rfl, hh4, (by decide : 2 + 1 ≤ _), (by decide : 7 + 7 ≤ _)⟩)
    dsimp only [Pt.U, Pt.locs, Pt.cells, Pt.slots] at X5 l5 y5 z5 st5 hQ5
    subst l5 y5 z5
    obtain ⟨xr5, rfl, Nq5, Kq5, Eq5, Fq5⟩ := hQ5
    have N5 := Fr.app N4 Nq5
    have Z5 : n0 ≤ T5.heap.size := Nat.le_trans Z3 Kq5.1
    have f_20 := Exa.keep f_18 Kq5
    have f_21 := Exa.keep Eq3 Kq5
    have f_22 := Fld.keep Fq3_0 Kq5 nin0
    have f_23 := Fld.keep Fq3_1 Kq5 nin0
    have f_24 := Fld.keep Fq3_2 Kq5 nin0
    have f_25 := Fld.keep Fq3_3 Kq5 nin0
    have f_26 := Fld.keep Fq3_4 Kq5 nin0
    have f_27 := Fld.keep Fq3_5 Kq5 nin0
    have f_28 := Fld.keep Fq3_6 Kq5 nin0
    have f_29 := Arl.keep f_19 Kq5 nin0
    have K5 := K3.trans Kq5 all0
    refine Goes.go (fun _ kk => st5.trans kk) ?_
    show Goes _ _ _ _ _ _ _ (T5.setTop (mkF m 54 _ [(.ref xr5)]))
    refine Goes.go (fun _ kk => XS.astore X5.here hx rfl (hb hby at_54) rfl rfl (l' := #[.val (.int p0), .val (.int p1), .val (.int p2), .val (.int p3), .val (.int p4), .val (.int p5), .val (.ref ob0), .val (.int (rsF p3)), .val (.int (0 : Int32)), .val (.ref xr5), .unset]) rfl kk) ?_
    show Goes _ _ _ _ _ _ _ (T5.setTop (mkF m 56 #[.val (.int p0), .val (.int p1), .val (.int p2), .val (.int p3), .val (.int p4), .val (.int p5), .val (.ref ob0), .val (.int (rsF p3)), .val (.int (0 : Int32)), .val (.ref xr5), .unset] []))
    refine Goes.go (fun _ kk => XS.aload X5.here hx rfl (hb hby at_56) rfl rfl kk) ?_
    show Goes _ _ _ _ _ _ _ (T5.setTop (mkF m 58 _ [(.ref xr5)]))
    obtain ⟨cq6, kq6, qa6, qb6, qc6⟩ := isOf hZ rfl Eq5
    obtain ⟨_, _, ⟨T6, L6, k6, n6⟩, -, X6, ⟨Lc6, hQ6, l6, y6, z6⟩, st6⟩ := X5.virtualBack hx (y := (⟨"com/example/xixi/xixi/remoting/RemotingCommand", "isResponse", "()Z"⟩ : MethodName)) (z := (⟨"com/example/xixi/xixi/remoting/RemotingCommand", "isResponse", "()Z"⟩ : MethodName)) hown (mvT hZ (hw _ (List.mem_of_getElem? (i := 24) rfl))) (mvT hZ (hw _ (List.mem_of_getElem? (i := 25) rfl))) (notFace_of_selects (args := #[]) (mvT hZ (hw _ (List.mem_of_getElem? (i := 27) rfl)))) (mvT hZ (hw _ (List.mem_of_getElem? (i := 27) rfl))) (mvT hZ (hw _ (List.mem_of_getElem? (i := 26) rfl))) (by decide) (backOf (W := 0) (rmR l Z a0 hw [] xr5 p3 T5.heap n0 Z5 Fq5) hZ (hw _ (List.mem_of_getElem? (i := 28) rfl)) (hw _ (List.mem_of_getElem? (i := 2) rfl)) (by decide) (by decide)) qa6 qc6 (g := (mkF m 58 #[.val (.int p0), .val (.int p1), .val (.int p2), .val (.int p3), .val (.int p4), .val (.int p5), .val (.ref ob0), .val (.int (rsF p3)), .val (.int (0 : Int32)), .val (.ref xr5), .unset] [(.ref xr5)])) rfl (by rw [hml]; rfl) (Steps.refl _) (argsL := []) (rest := []) (lenOf pd2 rfl) rfl (by show 2 * 0 + _ ≤ _; exact Nat.le_of_eq rfl) (hb hby at_58) (fun _ _ => ⟨rfl, rfl, (by decide : 3 + 0 ≤ _), (by decide : 14 + 0 ≤ _)⟩)
    dsimp only [Pt.U, Pt.locs, Pt.cells, Pt.slots] at X6 l6 y6 z6 st6 hQ6
    subst l6 y6 z6
    obtain ⟨rfl, Nq6, hh6⟩ := hQ6
    have N6 := Fr.app N5 Nq6
    refine Goes.go (fun _ kk => st6.trans kk) ?_
    show Goes _ _ _ _ _ _ _ (T6.setTop (mkF m 61 _ [(.int (rsF p3))]))
    refine Goes.go (fun _ kk => XS.iload X6.here hx rfl (hb hby at_61) rfl kk) ?_
    show Goes _ _ _ _ _ _ _ (T6.setTop (mkF m 63 _ [(.int (rsF p3)), (.int (rsF p3))]))
    refine Goes.go (fun _ kk => XS.icmpYes X6.here hx rfl (pc0 := 63) (pc' := 68) rfl (hb hby at_63) rfl (XT.ii_eq_t rfl) (by decide) (by decide) kk) ?_
    show Goes _ _ _ _ _ _ _ (T6.setTop (mkF m 68 _ []))
    refine Goes.go (fun _ kk => XS.aload X6.here hx rfl (hb hby at_68) rfl rfl kk) ?_
    show Goes _ _ _ _ _ _ _ (T6.setTop (mkF m 70 _ [(.ref ob0)]))
    obtain ⟨cq7, kq7, qa7, qb7, qc7⟩ := isOf hZ hh6 f_21
    obtain ⟨_, _, ⟨T7, L7, k7, n7⟩, -, X7, ⟨Lc7, hQ7, l7, y7, z7⟩, st7⟩ := X6.virtualBack hx (y := (⟨"com/example/xixi/xixi/remoting/RemotingCommand", "isOneWay", "()Z"⟩ : MethodName)) (z := (⟨"com/example/xixi/xixi/remoting/RemotingCommand", "isOneWay", "()Z"⟩ : MethodName)) hown (mvT hZ (hw _ (List.mem_of_getElem? (i := 36) rfl))) (mvT hZ (hw _ (List.mem_of_getElem? (i := 37) rfl))) (notFace_of_selects (args := #[]) (mvT hZ (hw _ (List.mem_of_getElem? (i := 39) rfl)))) (mvT hZ (hw _ (List.mem_of_getElem? (i := 39) rfl))) (mvT hZ (hw _ (List.mem_of_getElem? (i := 38) rfl))) (by decide) (backOf (W := 0) (rmO l Z a0 hw [] ob0 p3 T5.heap n0 Z5 f_25 f_21) hZ (hw _ (List.mem_of_getElem? (i := 40) rfl)) (hw _ (List.mem_of_getElem? (i := 2) rfl)) (by decide) (by decide)) qa7 qc7 (g := (mkF m 70 #[.val (.int p0), .val (.int p1), .val (.int p2), .val (.int p3), .val (.int p4), .val (.int p5), .val (.ref ob0), .val (.int (rsF p3)), .val (.int (0 : Int32)), .val (.ref xr5), .unset] [(.ref ob0)])) rfl (by rw [hml]; rfl) (Steps.refl _) (argsL := []) (rest := []) (lenOf pd2 rfl) rfl (by show 2 * 0 + _ ≤ _; exact Nat.le_of_eq rfl) (hb hby at_70) (fun _ _ => ⟨rfl, hh6, (by decide : 3 + 0 ≤ _), (by decide : 14 + 0 ≤ _)⟩)
    dsimp only [Pt.U, Pt.locs, Pt.cells, Pt.slots] at X7 l7 y7 z7 st7 hQ7
    subst l7 y7 z7
    obtain ⟨rfl, Nq7, hh7⟩ := hQ7
    have N7 := Fr.app N6 Nq7
    refine Goes.go (fun _ kk => st7.trans kk) ?_
    show Goes _ _ _ _ _ _ _ (T7.setTop (mkF m 73 _ [(.int (owF p3))]))
    by_cases c73 : (owF p3) = 0
    · skip
      refine Goes.go (fun _ kk => XS.ifYes X7.here hx rfl (pc0 := 73) (pc' := 83) rfl (hb hby at_73) rfl (XT.i0_eq_t c73) (by decide) (by decide) kk) ?_
      show Goes _ _ _ _ _ _ _ (T7.setTop (mkF m 83 _ []))
      refine Goes.go (fun _ kk => XS.iload X7.here hx rfl (hb hby at_83) rfl kk) ?_
      show Goes _ _ _ _ _ _ _ (T7.setTop (mkF m 85 _ [(.int (rsF p3))]))
      refine Goes.go (fun _ kk => XS.ifNo X7.here hx rfl (hb hby at_85) rfl (XT.i0_ne_f (rs_even c28)) kk) ?_
      show Goes _ _ _ _ _ _ _ (T7.setTop (mkF m 88 _ []))
      have hg : rsF p3 = 0 := rs_even c28
      refine Goes.go (fun _ kk => XS.aload X7.here hx rfl (hb hby at_88) rfl rfl kk) ?_
      show Goes _ _ _ _ _ _ _ (T7.setTop (mkF m 90 _ [(.ref ob0)]))
      refine Goes.go (fun _ kk => XS.iload X7.here hx rfl (hb hby at_90) rfl kk) ?_
      show Goes _ _ _ _ _ _ _ (T7.setTop (mkF m 92 _ [(.int p4), (.ref ob0)]))
      refine Goes.go (fun _ kk => XS.aconstNull X7.here hx rfl (hb hby at_92) kk) ?_
      show Goes _ _ _ _ _ _ _ (T7.setTop (mkF m 93 _ [.null, (.int p4), (.ref ob0)]))
      obtain ⟨cq8, kq8, qa8, qb8, qc8⟩ := isOf hZ hh7 f_21
      obtain ⟨_, _, ⟨T8, L8, k8, n8⟩, -, X8, ⟨Lc8, hQ8, l8, y8, z8⟩, st8⟩ := X7.virtualBack hx (y := (⟨"com/example/xixi/xixi/remoting/RemotingCommand", "respond", "(ILjava/lang/String;)Lcom/example/xixi/xixi/remoting/RemotingCommand;"⟩ : MethodName)) (z := (⟨"com/example/xixi/xixi/remoting/RemotingCommand", "respond", "(ILjava/lang/String;)Lcom/example/xixi/xixi/remoting/RemotingCommand;"⟩ : MethodName)) hown (mvT hZ (hw _ (List.mem_of_getElem? (i := 42) rfl))) (mvT hZ (hw _ (List.mem_of_getElem? (i := 43) rfl))) (notFace_of_selects (args := #[]) (mvT hZ (hw _ (List.mem_of_getElem? (i := 45) rfl)))) (mvT hZ (hw _ (List.mem_of_getElem? (i := 45) rfl))) (mvT hZ (hw _ (List.mem_of_getElem? (i := 44) rfl))) (by decide) (backOf (W := 0) (rm2ref l Z a0 hw [] ob0 p4 mp bb p1 p2 p3 T5.heap n0 Z5 f_21 f_23 f_24 f_25 hg f_20 (Sta.ext (own_ext K5) S0) (Sta.ext (own_ext K5) S1)) hZ (hw _ (List.mem_of_getElem? (i := 46) rfl)) (hw _ (List.mem_of_getElem? (i := 2) rfl)) (by decide) (by decide)) qa8 qc8 (g := (mkF m 93 #[.val (.int p0), .val (.int p1), .val (.int p2), .val (.int p3), .val (.int p4), .val (.int p5), .val (.ref ob0), .val (.int (rsF p3)), .val (.int (0 : Int32)), .val (.ref xr5), .unset] [.null, (.int p4), (.ref ob0)])) rfl (by rw [hml]; rfl) (Steps.refl _) (argsL := [(.int p4), .null]) (rest := []) (lenOf pd4 rfl) rfl (by show 2 * 0 + _ ≤ _; exact Nat.le_of_eq rfl) (hb hby at_93) (fun _ _ => ⟨rfl, hh7, (by decide : 3 + 1 ≤ _), (by decide : 14 + 7 ≤ _)⟩)
      dsimp only [Pt.U, Pt.locs, Pt.cells, Pt.slots] at X8 l8 y8 z8 st8 hQ8
      subst l8 y8 z8
      obtain ⟨xr8, rfl, Nq8, Kq8, Eq8, Fq8⟩ := hQ8
      have N8 := Fr.app N7 Nq8
      have Z8 : n0 ≤ T8.heap.size := Nat.le_trans Z5 Kq8.1
      have f_30 := Exa.keep f_20 Kq8
      have f_31 := Exa.keep f_21 Kq8
      have f_32 := Fld.keep f_22 Kq8 nin0
      have f_33 := Fld.keep f_23 Kq8 nin0
      have f_34 := Fld.keep f_24 Kq8 nin0
      have f_35 := Fld.keep f_25 Kq8 nin0
      have f_36 := Fld.keep f_26 Kq8 nin0
      have f_37 := Fld.keep f_27 Kq8 nin0
      have f_38 := Fld.keep f_28 Kq8 nin0
      have f_39 := Arl.keep f_29 Kq8 nin0
      have f_40 := Exa.keep Eq5 Kq8
      have f_41 := Fld.keep Fq5 Kq8 nin0
      have K8 := K5.trans Kq8 all0
      refine Goes.go (fun _ kk => st8.trans kk) ?_
      show Goes _ _ _ _ _ _ _ (T8.setTop (mkF m 96 _ [(.ref xr8)]))
      refine Goes.go (fun _ kk => XS.astore X8.here hx rfl (hb hby at_96) rfl rfl (l' := #[.val (.int p0), .val (.int p1), .val (.int p2), .val (.int p3), .val (.int p4), .val (.int p5), .val (.ref ob0), .val (.int (rsF p3)), .val (.int (0 : Int32)), .val (.ref xr5), .val (.ref xr8)]) rfl kk) ?_
      show Goes _ _ _ _ _ _ _ (T8.setTop (mkF m 98 #[.val (.int p0), .val (.int p1), .val (.int p2), .val (.int p3), .val (.int p4), .val (.int p5), .val (.ref ob0), .val (.int (rsF p3)), .val (.int (0 : Int32)), .val (.ref xr5), .val (.ref xr8)] []))
      refine Goes.go (fun _ kk => XS.aload X8.here hx rfl (hb hby at_98) rfl rfl kk) ?_
      show Goes _ _ _ _ _ _ _ (T8.setTop (mkF m 100 _ [(.ref xr8)]))
      obtain ⟨cq9, kq9, qa9, qb9, qc9⟩ := isOf hZ rfl Eq8
      obtain ⟨_, _, ⟨T9, L9, k9, n9⟩, -, X9, ⟨Lc9, hQ9, l9, y9, z9⟩, st9⟩ := X8.virtualBack hx (y := (⟨"com/example/xixi/xixi/remoting/RemotingCommand", "isResponse", "()Z"⟩ : MethodName)) (z := (⟨"com/example/xixi/xixi/remoting/RemotingCommand", "isResponse", "()Z"⟩ : MethodName)) hown (mvT hZ (hw _ (List.mem_of_getElem? (i := 24) rfl))) (mvT hZ (hw _ (List.mem_of_getElem? (i := 25) rfl))) (notFace_of_selects (args := #[]) (mvT hZ (hw _ (List.mem_of_getElem? (i := 27) rfl)))) (mvT hZ (hw _ (List.mem_of_getElem? (i := 27) rfl))) (mvT hZ (hw _ (List.mem_of_getElem? (i := 26) rfl))) (by decide) (backOf (W := 0) (rmR l Z a0 hw [] xr8 (1 : Int32) T8.heap n0 Z8 Fq8) hZ (hw _ (List.mem_of_getElem? (i := 28) rfl)) (hw _ (List.mem_of_getElem? (i := 2) rfl)) (by decide) (by decide)) qa9 qc9 (g := (mkF m 100 #[.val (.int p0), .val (.int p1), .val (.int p2), .val (.int p3), .val (.int p4), .val (.int p5), .val (.ref ob0), .val (.int (rsF p3)), .val (.int (0 : Int32)), .val (.ref xr5), .val (.ref xr8)] [(.ref xr8)])) rfl (by rw [hml]; rfl) (Steps.refl _) (argsL := []) (rest := []) (lenOf pd2 rfl) rfl (by show 2 * 0 + _ ≤ _; exact Nat.le_of_eq rfl) (hb hby at_100) (fun _ _ => ⟨rfl, rfl, (by decide : 4 + 0 ≤ _), (by decide : 21 + 0 ≤ _)⟩)
      dsimp only [Pt.U, Pt.locs, Pt.cells, Pt.slots] at X9 l9 y9 z9 st9 hQ9
      subst l9 y9 z9
      obtain ⟨rfl, Nq9, hh9⟩ := hQ9
      have N9 := Fr.app N8 Nq9
      refine Goes.go (fun _ kk => st9.trans kk) ?_
      show Goes _ _ _ _ _ _ _ (T9.setTop (mkF m 103 _ [(.int (rsF (1 : Int32)))]))
      refine Goes.go (fun _ kk => XS.ifYes X9.here hx rfl (pc0 := 103) (pc' := 108) rfl (hb hby at_103) rfl (XT.i0_ne_t (by decide)) (by decide) (by decide) kk) ?_
      show Goes _ _ _ _ _ _ _ (T9.setTop (mkF m 108 _ []))
      refine Goes.go (fun _ kk => XS.iconst X9.here hx rfl (hb hby at_108) kk) ?_
      show Goes _ _ _ _ _ _ _ (T9.setTop (mkF m 109 _ [(.int (1 : Int32))]))
      exact Goes.outZ X9 hx hlk hret rfl (hb hby at_109) hh9 ⟨rfl, N9⟩ (by decide) (by decide)
    · skip
      refine Goes.go (fun _ kk => XS.ifNo X7.here hx rfl (hb hby at_73) rfl (XT.i0_eq_f c73) kk) ?_
      show Goes _ _ _ _ _ _ _ (T7.setTop (mkF m 76 _ []))
      refine Goes.go (fun _ kk => XS.iload X7.here hx rfl (hb hby at_76) rfl kk) ?_
      show Goes _ _ _ _ _ _ _ (T7.setTop (mkF m 78 _ [(.int (rsF p3))]))
      refine Goes.go (fun _ kk => XS.ifYes X7.here hx rfl (pc0 := 78) (pc' := 83) rfl (hb hby at_78) rfl (XT.i0_eq_t (rs_even c28)) (by decide) (by decide) kk) ?_
      show Goes _ _ _ _ _ _ _ (T7.setTop (mkF m 83 _ []))
      refine Goes.go (fun _ kk => XS.iload X7.here hx rfl (hb hby at_83) rfl kk) ?_
      show Goes _ _ _ _ _ _ _ (T7.setTop (mkF m 85 _ [(.int (rsF p3))]))
      refine Goes.go (fun _ kk => XS.ifNo X7.here hx rfl (hb hby at_85) rfl (XT.i0_ne_f (rs_even c28)) kk) ?_
      show Goes _ _ _ _ _ _ _ (T7.setTop (mkF m 88 _ []))
      have hg : rsF p3 = 0 := rs_even c28
      refine Goes.go (fun _ kk => XS.aload X7.here hx rfl (hb hby at_88) rfl rfl kk) ?_
      show Goes _ _ _ _ _ _ _ (T7.setTop (mkF m 90 _ [(.ref ob0)]))
      refine Goes.go (fun _ kk => XS.iload X7.here hx rfl (hb hby at_90) rfl kk) ?_
      show Goes _ _ _ _ _ _ _ (T7.setTop (mkF m 92 _ [(.int p4), (.ref ob0)]))
      refine Goes.go (fun _ kk => XS.aconstNull X7.here hx rfl (hb hby at_92) kk) ?_
      show Goes _ _ _ _ _ _ _ (T7.setTop (mkF m 93 _ [.null, (.int p4), (.ref ob0)]))
      obtain ⟨cq8, kq8, qa8, qb8, qc8⟩ := isOf hZ hh7 f_21
      obtain ⟨_, _, ⟨T8, L8, k8, n8⟩, -, X8, ⟨Lc8, hQ8, l8, y8, z8⟩, st8⟩ := X7.virtualBack hx (y := (⟨"com/example/xixi/xixi/remoting/RemotingCommand", "respond", "(ILjava/lang/String;)Lcom/example/xixi/xixi/remoting/RemotingCommand;"⟩ : MethodName)) (z := (⟨"com/example/xixi/xixi/remoting/RemotingCommand", "respond", "(ILjava/lang/String;)Lcom/example/xixi/xixi/remoting/RemotingCommand;"⟩ : MethodName)) hown (mvT hZ (hw _ (List.mem_of_getElem? (i := 42) rfl))) (mvT hZ (hw _ (List.mem_of_getElem? (i := 43) rfl))) (notFace_of_selects (args := #[]) (mvT hZ (hw _ (List.mem_of_getElem? (i := 45) rfl)))) (mvT hZ (hw _ (List.mem_of_getElem? (i := 45) rfl))) (mvT hZ (hw _ (List.mem_of_getElem? (i := 44) rfl))) (by decide) (backOf (W := 0) (rm2ref l Z a0 hw [] ob0 p4 mp bb p1 p2 p3 T5.heap n0 Z5 f_21 f_23 f_24 f_25 hg f_20 (Sta.ext (own_ext K5) S0) (Sta.ext (own_ext K5) S1)) hZ (hw _ (List.mem_of_getElem? (i := 46) rfl)) (hw _ (List.mem_of_getElem? (i := 2) rfl)) (by decide) (by decide)) qa8 qc8 (g := (mkF m 93 #[.val (.int p0), .val (.int p1), .val (.int p2), .val (.int p3), .val (.int p4), .val (.int p5), .val (.ref ob0), .val (.int (rsF p3)), .val (.int (0 : Int32)), .val (.ref xr5), .unset] [.null, (.int p4), (.ref ob0)])) rfl (by rw [hml]; rfl) (Steps.refl _) (argsL := [(.int p4), .null]) (rest := []) (lenOf pd4 rfl) rfl (by show 2 * 0 + _ ≤ _; exact Nat.le_of_eq rfl) (hb hby at_93) (fun _ _ => ⟨rfl, hh7, (by decide : 3 + 1 ≤ _), (by decide : 14 + 7 ≤ _)⟩)
      dsimp only [Pt.U, Pt.locs, Pt.cells, Pt.slots] at X8 l8 y8 z8 st8 hQ8
      subst l8 y8 z8
      obtain ⟨xr8, rfl, Nq8, Kq8, Eq8, Fq8⟩ := hQ8
      have N8 := Fr.app N7 Nq8
      have Z8 : n0 ≤ T8.heap.size := Nat.le_trans Z5 Kq8.1
      have f_30 := Exa.keep f_20 Kq8
      have f_31 := Exa.keep f_21 Kq8
      have f_32 := Fld.keep f_22 Kq8 nin0
      have f_33 := Fld.keep f_23 Kq8 nin0
      have f_34 := Fld.keep f_24 Kq8 nin0
      have f_35 := Fld.keep f_25 Kq8 nin0
      have f_36 := Fld.keep f_26 Kq8 nin0
      have f_37 := Fld.keep f_27 Kq8 nin0
      have f_38 := Fld.keep f_28 Kq8 nin0
      have f_39 := Arl.keep f_29 Kq8 nin0
      have f_40 := Exa.keep Eq5 Kq8
      have f_41 := Fld.keep Fq5 Kq8 nin0
      have K8 := K5.trans Kq8 all0
      refine Goes.go (fun _ kk => st8.trans kk) ?_
      show Goes _ _ _ _ _ _ _ (T8.setTop (mkF m 96 _ [(.ref xr8)]))
      refine Goes.go (fun _ kk => XS.astore X8.here hx rfl (hb hby at_96) rfl rfl (l' := #[.val (.int p0), .val (.int p1), .val (.int p2), .val (.int p3), .val (.int p4), .val (.int p5), .val (.ref ob0), .val (.int (rsF p3)), .val (.int (0 : Int32)), .val (.ref xr5), .val (.ref xr8)]) rfl kk) ?_
      show Goes _ _ _ _ _ _ _ (T8.setTop (mkF m 98 #[.val (.int p0), .val (.int p1), .val (.int p2), .val (.int p3), .val (.int p4), .val (.int p5), .val (.ref ob0), .val (.int (rsF p3)), .val (.int (0 : Int32)), .val (.ref xr5), .val (.ref xr8)] []))
      refine Goes.go (fun _ kk => XS.aload X8.here hx rfl (hb hby at_98) rfl rfl kk) ?_
      show Goes _ _ _ _ _ _ _ (T8.setTop (mkF m 100 _ [(.ref xr8)]))
      obtain ⟨cq9, kq9, qa9, qb9, qc9⟩ := isOf hZ rfl Eq8
      obtain ⟨_, _, ⟨T9, L9, k9, n9⟩, -, X9, ⟨Lc9, hQ9, l9, y9, z9⟩, st9⟩ := X8.virtualBack hx (y := (⟨"com/example/xixi/xixi/remoting/RemotingCommand", "isResponse", "()Z"⟩ : MethodName)) (z := (⟨"com/example/xixi/xixi/remoting/RemotingCommand", "isResponse", "()Z"⟩ : MethodName)) hown (mvT hZ (hw _ (List.mem_of_getElem? (i := 24) rfl))) (mvT hZ (hw _ (List.mem_of_getElem? (i := 25) rfl))) (notFace_of_selects (args := #[]) (mvT hZ (hw _ (List.mem_of_getElem? (i := 27) rfl)))) (mvT hZ (hw _ (List.mem_of_getElem? (i := 27) rfl))) (mvT hZ (hw _ (List.mem_of_getElem? (i := 26) rfl))) (by decide) (backOf (W := 0) (rmR l Z a0 hw [] xr8 (1 : Int32) T8.heap n0 Z8 Fq8) hZ (hw _ (List.mem_of_getElem? (i := 28) rfl)) (hw _ (List.mem_of_getElem? (i := 2) rfl)) (by decide) (by decide)) qa9 qc9 (g := (mkF m 100 #[.val (.int p0), .val (.int p1), .val (.int p2), .val (.int p3), .val (.int p4), .val (.int p5), .val (.ref ob0), .val (.int (rsF p3)), .val (.int (0 : Int32)), .val (.ref xr5), .val (.ref xr8)] [(.ref xr8)])) rfl (by rw [hml]; rfl) (Steps.refl _) (argsL := []) (rest := []) (lenOf pd2 rfl) rfl (by show 2 * 0 + _ ≤ _; exact Nat.le_of_eq rfl) (hb hby at_100) (fun _ _ => ⟨rfl, rfl, (by decide : 4 + 0 ≤ _), (by decide : 21 + 0 ≤ _)⟩)
      dsimp only [Pt.U, Pt.locs, Pt.cells, Pt.slots] at X9 l9 y9 z9 st9 hQ9
      subst l9 y9 z9
      obtain ⟨rfl, Nq9, hh9⟩ := hQ9
      have N9 := Fr.app N8 Nq9
      refine Goes.go (fun _ kk => st9.trans kk) ?_
      show Goes _ _ _ _ _ _ _ (T9.setTop (mkF m 103 _ [(.int (rsF (1 : Int32)))]))
      refine Goes.go (fun _ kk => XS.ifYes X9.here hx rfl (pc0 := 103) (pc' := 108) rfl (hb hby at_103) rfl (XT.i0_ne_t (by decide)) (by decide) (by decide) kk) ?_
      show Goes _ _ _ _ _ _ _ (T9.setTop (mkF m 108 _ []))
      refine Goes.go (fun _ kk => XS.iconst X9.here hx rfl (hb hby at_108) kk) ?_
      show Goes _ _ _ _ _ _ _ (T9.setTop (mkF m 109 _ [(.int (1 : Int32))]))
      exact Goes.outZ X9 hx hlk hret rfl (hb hby at_109) hh9 ⟨rfl, N9⟩ (by decide) (by decide)
  · skip
    refine Goes.go (fun _ kk => XS.ifNo X4.here hx rfl (hb hby at_28) rfl (XT.i0_eq_f c28) kk) ?_
    show Goes _ _ _ _ _ _ _ (T4.setTop (mkF m 31 _ []))
    refine Goes.go (fun _ kk => XS.iconst X4.here hx rfl (hb hby at_31) kk) ?_
    show Goes _ _ _ _ _ _ _ (T4.setTop (mkF m 32 _ [(.int (1 : Int32))]))
    refine Goes.go (fun _ kk => XS.goto X4.here hx rfl (pc0 := 32) (pc' := 36) rfl (hb hby at_32) (by decide) (by decide) kk) ?_
    show Goes _ _ _ _ _ _ _ (T4.setTop (mkF m 36 _ [(.int (1 : Int32))]))
    refine Goes.go (fun _ kk => XS.istore X4.here hx rfl (hb hby at_36) rfl (l' := #[.val (.int p0), .val (.int p1), .val (.int p2), .val (.int p3), .val (.int p4), .val (.int p5), .val (.ref ob0), .val (.int (rsF p3)), .val (.int (1 : Int32)), .unset, .unset]) rfl kk) ?_
    show Goes _ _ _ _ _ _ _ (T4.setTop (mkF m 38 #[.val (.int p0), .val (.int p1), .val (.int p2), .val (.int p3), .val (.int p4), .val (.int p5), .val (.ref ob0), .val (.int (rsF p3)), .val (.int (1 : Int32)), .unset, .unset] []))
    refine Goes.go (fun _ kk => XS.iload X4.here hx rfl (hb hby at_38) rfl kk) ?_
    show Goes _ _ _ _ _ _ _ (T4.setTop (mkF m 40 _ [(.int (rsF p3))]))
    refine Goes.go (fun _ kk => XS.iload X4.here hx rfl (hb hby at_40) rfl kk) ?_
    show Goes _ _ _ _ _ _ _ (T4.setTop (mkF m 42 _ [(.int (1 : Int32)), (.int (rsF p3))]))
    refine Goes.go (fun _ kk => XS.icmpYes X4.here hx rfl (pc0 := 42) (pc' := 47) rfl (hb hby at_42) rfl (XT.ii_eq_t (rs_odd c28)) (by decide) (by decide) kk) ?_
    show Goes _ _ _ _ _ _ _ (T4.setTop (mkF m 47 _ []))
    refine Goes.go (fun _ kk => XS.aload X4.here hx rfl (hb hby at_47) rfl rfl kk) ?_
    show Goes _ _ _ _ _ _ _ (T4.setTop (mkF m 49 _ [(.ref ob0)]))
    refine Goes.go (fun _ kk => XS.iload X4.here hx rfl (hb hby at_49) rfl kk) ?_
    show Goes _ _ _ _ _ _ _ (T4.setTop (mkF m 51 _ [(.int p5), (.ref ob0)]))
    obtain ⟨cq5, kq5, qa5, qb5, qc5⟩ := isOf hZ hh4 Eq3
    obtain ⟨_, _, ⟨T5, L5, k5, n5⟩, -, X5, ⟨Lc5, hQ5, l5, y5, z5⟩, st5⟩ := X4.virtualBack hx (y := (⟨"com/example/xixi/xixi/remoting/RemotingCommand", "withOpaque", "(I)Lcom/example/xixi/xixi/remoting/RemotingCommand;"⟩ : MethodName)) (z := (⟨"com/example/xixi/xixi/remoting/RemotingCommand", "withOpaque", "(I)Lcom/example/xixi/xixi/remoting/RemotingCommand;"⟩ : MethodName)) hown (mvT hZ (hw _ (List.mem_of_getElem? (i := 29) rfl))) (mvT hZ (hw _ (List.mem_of_getElem? (i := 30) rfl))) (notFace_of_selects (args := #[]) (mvT hZ (hw _ (List.mem_of_getElem? (i := 32) rfl)))) (mvT hZ (hw _ (List.mem_of_getElem? (i := 32) rfl))) (mvT hZ (hw _ (List.mem_of_getElem? (i := 31) rfl))) (by decide) (backOf (W := 0) (rmW l Z a0 hw [] ob0 p5 p0 p1 p3 ar11 T3.heap n0 Z3 Fq3_0 Fq3_1 Fq3_3 Fq3_4 Fq3_5 Fq3_6) hZ (hw _ (List.mem_of_getElem? (i := 33) rfl)) (hw _ (List.mem_of_getElem? (i := 2) rfl)) (by decide) (by decide)) qa5 qc5 (g := (mkF m 51 #[.val (.int p0), .val (.int p1), .val (.int p2), .val (.int p3), .val (.int p4), .val (.int p5), .val (.ref ob0), .val (.int (rsF p3)), .val (.int (1 : Int32)), .unset, .unset] [(.int p5), (.ref ob0)])) rfl (by rw [hml]; rfl) (Steps.refl _) (argsL := [(.int p5)]) (rest := []) (lenOf pd3 rfl) rfl (by show 2 * 0 + _ ≤ _; exact Nat.le_of_eq rfl) (hb hby at_51) (fun _ _ => ⟨rfl, hh4, (by decide : 2 + 1 ≤ _), (by decide : 7 + 7 ≤ _)⟩)
    dsimp only [Pt.U, Pt.locs, Pt.cells, Pt.slots] at X5 l5 y5 z5 st5 hQ5
    subst l5 y5 z5
    obtain ⟨xr5, rfl, Nq5, Kq5, Eq5, Fq5⟩ := hQ5
    have N5 := Fr.app N4 Nq5
    have Z5 : n0 ≤ T5.heap.size := Nat.le_trans Z3 Kq5.1
    have f_20 := Exa.keep f_18 Kq5
    have f_21 := Exa.keep Eq3 Kq5
    have f_22 := Fld.keep Fq3_0 Kq5 nin0
    have f_23 := Fld.keep Fq3_1 Kq5 nin0
    have f_24 := Fld.keep Fq3_2 Kq5 nin0
    have f_25 := Fld.keep Fq3_3 Kq5 nin0
    have f_26 := Fld.keep Fq3_4 Kq5 nin0
    have f_27 := Fld.keep Fq3_5 Kq5 nin0
    have f_28 := Fld.keep Fq3_6 Kq5 nin0
    have f_29 := Arl.keep f_19 Kq5 nin0
    have K5 := K3.trans Kq5 all0
    refine Goes.go (fun _ kk => st5.trans kk) ?_
    show Goes _ _ _ _ _ _ _ (T5.setTop (mkF m 54 _ [(.ref xr5)]))
    refine Goes.go (fun _ kk => XS.astore X5.here hx rfl (hb hby at_54) rfl rfl (l' := #[.val (.int p0), .val (.int p1), .val (.int p2), .val (.int p3), .val (.int p4), .val (.int p5), .val (.ref ob0), .val (.int (rsF p3)), .val (.int (1 : Int32)), .val (.ref xr5), .unset]) rfl kk) ?_
    show Goes _ _ _ _ _ _ _ (T5.setTop (mkF m 56 #[.val (.int p0), .val (.int p1), .val (.int p2), .val (.int p3), .val (.int p4), .val (.int p5), .val (.ref ob0), .val (.int (rsF p3)), .val (.int (1 : Int32)), .val (.ref xr5), .unset] []))
    refine Goes.go (fun _ kk => XS.aload X5.here hx rfl (hb hby at_56) rfl rfl kk) ?_
    show Goes _ _ _ _ _ _ _ (T5.setTop (mkF m 58 _ [(.ref xr5)]))
    obtain ⟨cq6, kq6, qa6, qb6, qc6⟩ := isOf hZ rfl Eq5
    obtain ⟨_, _, ⟨T6, L6, k6, n6⟩, -, X6, ⟨Lc6, hQ6, l6, y6, z6⟩, st6⟩ := X5.virtualBack hx (y := (⟨"com/example/xixi/xixi/remoting/RemotingCommand", "isResponse", "()Z"⟩ : MethodName)) (z := (⟨"com/example/xixi/xixi/remoting/RemotingCommand", "isResponse", "()Z"⟩ : MethodName)) hown (mvT hZ (hw _ (List.mem_of_getElem? (i := 24) rfl))) (mvT hZ (hw _ (List.mem_of_getElem? (i := 25) rfl))) (notFace_of_selects (args := #[]) (mvT hZ (hw _ (List.mem_of_getElem? (i := 27) rfl)))) (mvT hZ (hw _ (List.mem_of_getElem? (i := 27) rfl))) (mvT hZ (hw _ (List.mem_of_getElem? (i := 26) rfl))) (by decide) (backOf (W := 0) (rmR l Z a0 hw [] xr5 p3 T5.heap n0 Z5 Fq5) hZ (hw _ (List.mem_of_getElem? (i := 28) rfl)) (hw _ (List.mem_of_getElem? (i := 2) rfl)) (by decide) (by decide)) qa6 qc6 (g := (mkF m 58 #[.val (.int p0), .val (.int p1), .val (.int p2), .val (.int p3), .val (.int p4), .val (.int p5), .val (.ref ob0), .val (.int (rsF p3)), .val (.int (1 : Int32)), .val (.ref xr5), .unset] [(.ref xr5)])) rfl (by rw [hml]; rfl) (Steps.refl _) (argsL := []) (rest := []) (lenOf pd2 rfl) rfl (by show 2 * 0 + _ ≤ _; exact Nat.le_of_eq rfl) (hb hby at_58) (fun _ _ => ⟨rfl, rfl, (by decide : 3 + 0 ≤ _), (by decide : 14 + 0 ≤ _)⟩)
    dsimp only [Pt.U, Pt.locs, Pt.cells, Pt.slots] at X6 l6 y6 z6 st6 hQ6
    subst l6 y6 z6
    obtain ⟨rfl, Nq6, hh6⟩ := hQ6
    have N6 := Fr.app N5 Nq6
    refine Goes.go (fun _ kk => st6.trans kk) ?_
    show Goes _ _ _ _ _ _ _ (T6.setTop (mkF m 61 _ [(.int (rsF p3))]))
    refine Goes.go (fun _ kk => XS.iload X6.here hx rfl (hb hby at_61) rfl kk) ?_
    show Goes _ _ _ _ _ _ _ (T6.setTop (mkF m 63 _ [(.int (rsF p3)), (.int (rsF p3))]))
    refine Goes.go (fun _ kk => XS.icmpYes X6.here hx rfl (pc0 := 63) (pc' := 68) rfl (hb hby at_63) rfl (XT.ii_eq_t rfl) (by decide) (by decide) kk) ?_
    show Goes _ _ _ _ _ _ _ (T6.setTop (mkF m 68 _ []))
    refine Goes.go (fun _ kk => XS.aload X6.here hx rfl (hb hby at_68) rfl rfl kk) ?_
    show Goes _ _ _ _ _ _ _ (T6.setTop (mkF m 70 _ [(.ref ob0)]))
    obtain ⟨cq7, kq7, qa7, qb7, qc7⟩ := isOf hZ hh6 f_21
    obtain ⟨_, _, ⟨T7, L7, k7, n7⟩, -, X7, ⟨Lc7, hQ7, l7, y7, z7⟩, st7⟩ := X6.virtualBack hx (y := (⟨"com/example/xixi/xixi/remoting/RemotingCommand", "isOneWay", "()Z"⟩ : MethodName)) (z := (⟨"com/example/xixi/xixi/remoting/RemotingCommand", "isOneWay", "()Z"⟩ : MethodName)) hown (mvT hZ (hw _ (List.mem_of_getElem? (i := 36) rfl))) (mvT hZ (hw _ (List.mem_of_getElem? (i := 37) rfl))) (notFace_of_selects (args := #[]) (mvT hZ (hw _ (List.mem_of_getElem? (i := 39) rfl)))) (mvT hZ (hw _ (List.mem_of_getElem? (i := 39) rfl))) (mvT hZ (hw _ (List.mem_of_getElem? (i := 38) rfl))) (by decide) (backOf (W := 0) (rmO l Z a0 hw [] ob0 p3 T5.heap n0 Z5 f_25 f_21) hZ (hw _ (List.mem_of_getElem? (i := 40) rfl)) (hw _ (List.mem_of_getElem? (i := 2) rfl)) (by decide) (by decide)) qa7 qc7 (g := (mkF m 70 #[.val (.int p0), .val (.int p1), .val (.int p2), .val (.int p3), .val (.int p4), .val (.int p5), .val (.ref ob0), .val (.int (rsF p3)), .val (.int (1 : Int32)), .val (.ref xr5), .unset] [(.ref ob0)])) rfl (by rw [hml]; rfl) (Steps.refl _) (argsL := []) (rest := []) (lenOf pd2 rfl) rfl (by show 2 * 0 + _ ≤ _; exact Nat.le_of_eq rfl) (hb hby at_70) (fun _ _ => ⟨rfl, hh6, (by decide : 3 + 0 ≤ _), (by decide : 14 + 0 ≤ _)⟩)
    dsimp only [Pt.U, Pt.locs, Pt.cells, Pt.slots] at X7 l7 y7 z7 st7 hQ7
    subst l7 y7 z7
    obtain ⟨rfl, Nq7, hh7⟩ := hQ7
    have N7 := Fr.app N6 Nq7
    refine Goes.go (fun _ kk => st7.trans kk) ?_
    show Goes _ _ _ _ _ _ _ (T7.setTop (mkF m 73 _ [(.int (owF p3))]))
    refine Goes.go (fun _ kk => XS.ifYes X7.here hx rfl (pc0 := 73) (pc' := 83) rfl (hb hby at_73) rfl (XT.i0_eq_t (ow_odd c28)) (by decide) (by decide) kk) ?_
    show Goes _ _ _ _ _ _ _ (T7.setTop (mkF m 83 _ []))
    refine Goes.go (fun _ kk => XS.iload X7.here hx rfl (hb hby at_83) rfl kk) ?_
    show Goes _ _ _ _ _ _ _ (T7.setTop (mkF m 85 _ [(.int (rsF p3))]))
    refine Goes.go (fun _ kk => XS.ifYes X7.here hx rfl (pc0 := 85) (pc' := 108) rfl (hb hby at_85) rfl (XT.i0_ne_t (by rw [rs_odd c28]; decide)) (by decide) (by decide) kk) ?_
    show Goes _ _ _ _ _ _ _ (T7.setTop (mkF m 108 _ []))
    refine Goes.go (fun _ kk => XS.iconst X7.here hx rfl (hb hby at_108) kk) ?_
    show Goes _ _ _ _ _ _ _ (T7.setTop (mkF m 109 _ [(.int (1 : Int32))]))
    exact Goes.outZ X7 hx hlk hret rfl (hb hby at_109) hh7 ⟨rfl, N7⟩ (by decide) (by decide)
set_option maxRecDepth 65536 in
set_option maxHeartbeats 40000000 in
theorem comes_1 {Post : Tables → Env → Array Value → State → Outcome → State → Prop} (hpost : ∀ tb e args s v u, (limb_1_1.after args s (.returned v) u = true ∧ limb_1_2.after args s (.returned v) u = true ∧ True) → FrameEnd s (.returned v) u (Jvm.fieldLocs frame_1_writes args s ++ Jvm.arrayLocs frame_1_arrays args s ++ Jvm.staticLocs frame_1_statics s) 16 128 → Post tb e args s (.returned v) u) :
    ArmFor flags0 classFile x code maxLocals ret World_1 tables_1 room_1 Calls_1 rest_1 Pre_1 Post := by
  intro l hfl _ _ p e ha hc hk s m args below hf hA hF happ hP
  obtain ⟨hcalls, hrest, hpre⟩ := hP
  obtain ⟨-, -, -, hnamed, -, -, -, hat⟩ := (Spec.applies_iff hf).mp happ
  obtain ⟨hg, hn⟩ := and_e (Cond.before_iff.mp (show (Jvm.Cond.and given_1 narrow_1).before args s = true from hpre))
  obtain ⟨gc, gr0⟩ := and_e hg
  obtain ⟨g0, gr1⟩ := and_e gr0
  obtain ⟨g1, gr2⟩ := and_e gr1
  obtain ⟨g2, gr3⟩ := and_e gr2
  obtain ⟨g3, gr4⟩ := and_e gr3
  obtain ⟨g4, gr5⟩ := and_e gr4
  obtain ⟨w0, w1, w2, w3, w4, w5, rfl⟩ : ∃ w0 w1 w2 w3 w4 w5 : Value, args = #[w0, w1, w2, w3, w4, w5] := by
    have hs : args.size = 6 := by simpa [Cond.value, given_1] using gc
    obtain ⟨L⟩ := args
    match L, hs with
    | [w0, w1, w2, w3, w4, w5], _ => exact ⟨w0, w1, w2, w3, w4, w5, rfl⟩
  have hw := fun d (hd : d ∈ tables_1) => atoms_spec (ws := Jvm.Cond.code x code maxLocals ret :: tables_1) hat d (List.mem_cons_of_mem _ hd)
  obtain ⟨hsets, hown0⟩ := atoms_of _ (rest_1_c_eq ▸ (show rest_1_c.before _ s = true from hrest))
  obtain ⟨i0, ei0⟩ := is_v g0
  obtain rfl : w0 = (.int i0) := Option.some.inj ei0
  obtain ⟨i1, ei1⟩ := is_v g1
  obtain rfl : w1 = (.int i1) := Option.some.inj ei1
  obtain ⟨i2, ei2⟩ := is_v g2
  obtain rfl : w2 = (.int i2) := Option.some.inj ei2
  obtain ⟨i3, ei3⟩ := is_v g3
  obtain rfl : w3 = (.int i3) := Option.some.inj ei3
  obtain ⟨i4, ei4⟩ := is_v g4
  obtain rfl : w4 = (.int i4) := Option.some.inj ei4
  obtain ⟨i5, ei5⟩ := is_v gr5
  obtain rfl : w5 = (.int i5) := Option.some.inj ei5
  have hfit : Fit s := fun {y c} hc i hi => by
    obtain ⟨ha, rfl⟩ := Array.getElem?_eq_some_iff.mp hc
    have q := List.all_eq_true.mp ((Array.all_eq_true_iff_forall_mem.mp hF) _ (Array.getElem_mem ha)) i (List.mem_range.mpr hi)
    simpa [Array.getElem?_eq_getElem hi] using q
  obtain ⟨mp, em⟩ := exa_v (Cond.before_iff.mp (hsets _ (List.mem_of_getElem? (i := 2) rfl)))
  have S0 := Sta.start em (Or.inl (hsets _ (List.mem_of_getElem? (i := 1) rfl)))
  have EM := Exa.start em (Cond.before_iff.mp (hsets _ (List.mem_of_getElem? (i := 2) rfl)))
  obtain ⟨nb, eb, fb⟩ := static_fit hfit (hw _ (List.mem_of_getElem? (i := 48) rfl)) (ty := .array .byte) (by decide)
  have S1 := Sta.start eb (Or.inr ⟨(hw _ (List.mem_of_getElem? (i := 2) rfl)), (hw _ (List.mem_of_getElem? (i := 48) rfl))⟩)
  rcases ref_cases (fit_R fb rfl) with rfl | ⟨bb, rfl⟩
  · obtain ⟨n, o, h1, h2, h3, _, L, rfl, ⟨rfl, N⟩, hq⟩ := rm0null l s _ hw tables_1 i0 i1 i2 i3 i4 i5 mp s.heap s.heap.size (Nat.le_refl _) S0 S1 EM p e ha hc hk s m _ below hf ((Spec.applies_iff_loose hf).mp happ).1 ⟨rfl, State.Warmed39.refl s, rfl⟩ trivial
    refine ⟨n, _, h1, h2, h3, hpost _ _ _ _ _ _ ⟨Cond.after_iff.mpr rfl, Cond.after_iff.mpr (eq_i res_at (Term.int_eval (1)) rfl), trivial⟩ ⟨hq.1, hq.2.1, (hq.2.2.sift fun y hy => Or.inr (N y hy)).mono (by decide) (by decide)⟩⟩
  · obtain ⟨n, o, h1, h2, h3, _, L, rfl, ⟨rfl, N⟩, hq⟩ := rm0ref l s _ hw tables_1 i0 i1 i2 i3 i4 i5 mp bb s.heap s.heap.size (Nat.le_refl _) S0 S1 EM p e ha hc hk s m _ below hf ((Spec.applies_iff_loose hf).mp happ).1 ⟨rfl, State.Warmed39.refl s, rfl⟩ trivial
    refine ⟨n, _, h1, h2, h3, hpost _ _ _ _ _ _ ⟨Cond.after_iff.mpr rfl, Cond.after_iff.mpr (eq_i res_at (Term.int_eval (1)) rfl), trivial⟩ ⟨hq.1, hq.2.1, (hq.2.2.sift fun y hy => Or.inr (N y hy)).mono (by decide) (by decide)⟩⟩
theorem main_1_1 : Claimed_1_1 := comes_1 fun _ _ _ _ _ _ h hF => ⟨h.1, hF⟩
theorem main_1_2 : Claimed_1_2 := comes_1 fun _ _ _ _ _ _ h hF => ⟨h.2.1, hF⟩
end Jvm.Pilot.@@N@@
namespace Jvm.Pilot.@@N@@
open Jvm Jvm.ClassFile Sem Op Lib Jvm.Free Jvm.Stand Jvm.Pilot.@@N@@.Jvm.D
/-! MADE BY PROGRAM (witnessworld.py) out of the Statement's table words and the real class files: 15 classes; the members and pool entries that the words name. The judged class is class 1, her method 1. -/
namespace start1
open Jvm.ClassFile
def u (s : String) : CpInfo := .utf8 (stringToUtf16 s)
/-- a pool by its gaps: so many unusable entries, then the entry; so many at the end -/
def gap : Nat → List CpInfo → List CpInfo
  | 0, r => r
  | n + 1, r => .unusable :: gap n r
def poolList (es : List (Nat × CpInfo)) (last : Nat) : List CpInfo := es.foldr (fun e r => gap e.1 (e.2 :: r)) (gap last [])
def pool (es : List (Nat × CpInfo)) (last : Nat) : Array CpInfo := ⟨poolList es last⟩
def fileOf (pool : Array CpInfo) (this : Nat) (attrs : Array Attribute := #[]) (ms : Array MethodInfo := #[]) (fl : Nat := 33) (sup : Nat := 0) (ifs : Array Nat := #[]) (fds : Array FieldInfo := #[]) : ClassFile where
  minorVersion := 0
  majorVersion := 65
  constantPool := pool
  accessFlags := fl
  thisClass := this
  superClass := sup
  interfaces := ifs
  fields := fds
  methods := ms
  attributes := attrs
def plain (name : String) (sup : Option ClassId) : Class where
  name := name
  kind := .ordinary
  loader := none
  accessFlags := 33
  super := sup
  interfaces := #[]
  cf := none
  fields := #[]
  methods := #[]
  instanceTypes := #[]
  staticTypes := #[]
  resolved := #[]
  callSites := []
  init := .initialized
  statics := none
  mirror := none

def pool0 : Array CpInfo := pool [(5, u "<init>"), (0, u "()V"), (1, .class_ 10), (1, u "java/lang/Object")] 113

def k0c0 : Code := { maxStack := 0, maxLocals := 1, code := object_method_1_code, exceptionTable := #[], attributes := #[] }
def k0m0 : Method := { name := "<init>", desc := "()V", sig := { parameters := [], returnType := none }, accessFlags := 1, code := some k0c0 }
/-- java/lang/Object -/
def k0 : Class := { plain "java/lang/Object" none with
  accessFlags := 33
  interfaces := #[]
  cf := some (fileOf pool0 8 #[] #[{ accessFlags := 1, nameIndex := 5, descriptorIndex := 6, attributes := #[] }] 33 0 #[] #[])
  fields := #[]
  methods := #[k0m0]
  instanceTypes := #[]
  staticTypes := #[]
  resolved := Array.replicate 124 none
  statics := none }

def pool1 : Array CpInfo := pool [(2, .class_ 4), (1, u "java/lang/Object"), (0, u "<init>"), (0, u "()V"), (0, .class_ 8), (0, u "com/example/xixi/xixi/remoting/RemotingCommand"), (0, .methodref 7 10), (0, .nameAndType 5 11), (0, u "(IIIILjava/lang/String;Ljava/util/Map;[B)V"), (0, .methodref 7 13), (0, .nameAndType 14 15), (0, u "isResponse"), (0, u "()Z"), (0, .methodref 7 17), (0, .nameAndType 18 19), (0, u "withOpaque"), (0, u "(I)Lcom/example/xixi/xixi/remoting/RemotingCommand;"), (0, .methodref 7 21), (0, .nameAndType 22 15), (0, u "isOneWay"), (0, .methodref 7 24), (0, .nameAndType 25 26), (0, u "respond"), (0, u "(ILjava/lang/String;)Lcom/example/xixi/xixi/remoting/RemotingCommand;"), (0, .class_ 28), (0, u "com/example/xixi/xixi/remoting/RemotingCommandIsResponsePinLaw"), (2, u "law"), (0, u "(IIIIII)Z")] 3

def k1m0 : Method := { name := "<init>", desc := "()V", sig := { parameters := [], returnType := none }, accessFlags := 1, code := none }
def k1c1 : Code := { maxStack := 9, maxLocals := 11, code := code, exceptionTable := #[], attributes := #[] }
def k1m1 : Method := { name := "law", desc := "(IIIIII)Z", sig := { parameters := [.int, .int, .int, .int, .int, .int], returnType := some .boolean }, accessFlags := 9, code := some k1c1 }
/-- com/example/xixi/xixi/remoting/RemotingCommandIsResponsePinLaw -/
def k1 : Class := { plain "com/example/xixi/xixi/remoting/RemotingCommandIsResponsePinLaw" (some 0) with
  accessFlags := 49
  interfaces := #[]
  cf := some (fileOf pool1 27 #[] #[{ accessFlags := 1, nameIndex := 5, descriptorIndex := 6, attributes := #[] }, { accessFlags := 9, nameIndex := 31, descriptorIndex := 32, attributes := #[] }] 49 2 #[] #[])
  fields := #[]
  methods := #[k1m0, k1m1]
  instanceTypes := #[]
  staticTypes := #[]
  resolved := Array.replicate 36 none
  statics := none }

def pool2 : Array CpInfo := pool [(1, .methodref 2 3), (0, .class_ 4), (0, .nameAndType 5 6), (0, u "java/lang/Object"), (0, u "<init>"), (0, u "()V"), (0, .fieldref 8 9), (0, .class_ 10), (0, .nameAndType 11 12), (0, u "com/example/xixi/xixi/remoting/RemotingCommand"), (0, u "code"), (0, u "I"), (0, .fieldref 8 14), (0, .nameAndType 15 12), (0, u "version"), (0, .fieldref 8 17), (0, .nameAndType 18 12), (0, u "opaque"), (0, .fieldref 8 20), (0, .nameAndType 21 12), (0, u "flag"), (0, .fieldref 8 23), (0, .nameAndType 24 25), (0, u "remark"), (0, u "Ljava/lang/String;"), (0, .fieldref 8 27), (0, .nameAndType 28 29), (0, u "extFields"), (0, u "Ljava/util/Map;"), (0, .fieldref 8 31), (0, .nameAndType 32 33), (0, u "body"), (0, u "[B"), (0, .interfaceMethodref 35 36), (0, .class_ 37), (0, .nameAndType 38 39), (0, u "java/util/Map"), (0, u "copyOf"), (0, u "(Ljava/util/Map;)Ljava/util/Map;"), (0, .methodref 8 41), (0, .nameAndType 5 42), (0, u "(IIIILjava/lang/String;Ljava/util/Map;[B)V"), (0, .fieldref 8 44), (0, .nameAndType 45 33), (0, u "NO_BODY"), (0, .methodref 8 47), (0, .nameAndType 48 49), (0, u "respond"), (0, u "(ILjava/lang/String;[B)Lcom/example/xixi/xixi/remoting/RemotingCommand;"), (0, .interfaceMethodref 35 51), (0, .nameAndType 52 53), (0, u "of"), (0, u "()Ljava/util/Map;"), (0, .methodref 8 55), (0, .nameAndType 48 56), (0, u "(ILjava/lang/String;Ljava/util/Map;[B)Lcom/example/xixi/xixi/remoting/RemotingCommand;"), (0, .methodref 8 58), (0, .nameAndType 59 60), (0, u "isResponse"), (0, u "()Z"), (70, u "RESPONSE_FLAG"), (2, u "ONE_WAY_FLAG"), (10, u "(ILjava/lang/String;)Lcom/example/xixi/xixi/remoting/RemotingCommand;"), (4, u "withOpaque"), (0, u "(I)Lcom/example/xixi/xixi/remoting/RemotingCommand;"), (3, u "isOneWay")] 31

def k2c0 : Code := { maxStack := 2, maxLocals := 8, code := prog_2_method_1_code, exceptionTable := #[], attributes := #[] }
def k2m0 : Method := { name := "<init>", desc := "(IIIILjava/lang/String;Ljava/util/Map;[B)V", sig := { parameters := [.int, .int, .int, .int, (.object "java/lang/String"), (.object "java/util/Map"), (.array .byte)], returnType := none }, accessFlags := 0, code := some k2c0 }
def k2c1 : Code := { maxStack := 4, maxLocals := 3, code := prog_2_method_4_code, exceptionTable := #[], attributes := #[] }
def k2m1 : Method := { name := "respond", desc := "(ILjava/lang/String;)Lcom/example/xixi/xixi/remoting/RemotingCommand;", sig := { parameters := [.int, (.object "java/lang/String")], returnType := some (.object "com/example/xixi/xixi/remoting/RemotingCommand") }, accessFlags := 1, code := some k2c1 }
def k2c2 : Code := { maxStack := 5, maxLocals := 4, code := prog_2_method_5_code, exceptionTable := #[], attributes := #[] }
def k2m2 : Method := { name := "respond", desc := "(ILjava/lang/String;[B)Lcom/example/xixi/xixi/remoting/RemotingCommand;", sig := { parameters := [.int, (.object "java/lang/String"), (.array .byte)], returnType := some (.object "com/example/xixi/xixi/remoting/RemotingCommand") }, accessFlags := 1, code := some k2c2 }
def k2c3 : Code := { maxStack := 9, maxLocals := 5, code := prog_2_method_7_code, exceptionTable := #[], attributes := #[] }
def k2m3 : Method := { name := "respond", desc := "(ILjava/lang/String;Ljava/util/Map;[B)Lcom/example/xixi/xixi/remoting/RemotingCommand;", sig := { parameters := [.int, (.object "java/lang/String"), (.object "java/util/Map"), (.array .byte)], returnType := some (.object "com/example/xixi/xixi/remoting/RemotingCommand") }, accessFlags := 1, code := some k2c3 }
def k2c4 : Code := { maxStack := 9, maxLocals := 2, code := prog_2_method_8_code, exceptionTable := #[], attributes := #[] }
def k2m4 : Method := { name := "withOpaque", desc := "(I)Lcom/example/xixi/xixi/remoting/RemotingCommand;", sig := { parameters := [.int], returnType := some (.object "com/example/xixi/xixi/remoting/RemotingCommand") }, accessFlags := 0, code := some k2c4 }
def k2c5 : Code := { maxStack := 2, maxLocals := 1, code := prog_2_method_13_code, exceptionTable := #[], attributes := #[] }
def k2m5 : Method := { name := "isResponse", desc := "()Z", sig := { parameters := [], returnType := some .boolean }, accessFlags := 1, code := some k2c5 }
def k2c6 : Code := { maxStack := 2, maxLocals := 1, code := prog_2_method_14_code, exceptionTable := #[], attributes := #[] }
def k2m6 : Method := { name := "isOneWay", desc := "()Z", sig := { parameters := [], returnType := some .boolean }, accessFlags := 1, code := some k2c6 }
/-- com/example/xixi/xixi/remoting/RemotingCommand -/
def k2 : Class := { plain "com/example/xixi/xixi/remoting/RemotingCommand" (some 0) with
  accessFlags := 49
  interfaces := #[]
  cf := some (fileOf pool2 8 #[] #[{ accessFlags := 0, nameIndex := 5, descriptorIndex := 42, attributes := #[] }, { accessFlags := 1, nameIndex := 48, descriptorIndex := 145, attributes := #[] }, { accessFlags := 1, nameIndex := 48, descriptorIndex := 49, attributes := #[] }, { accessFlags := 1, nameIndex := 48, descriptorIndex := 56, attributes := #[] }, { accessFlags := 0, nameIndex := 150, descriptorIndex := 151, attributes := #[] }, { accessFlags := 1, nameIndex := 59, descriptorIndex := 60, attributes := #[] }, { accessFlags := 1, nameIndex := 155, descriptorIndex := 60, attributes := #[] }] 49 2 #[] #[{ accessFlags := 26, nameIndex := 131, descriptorIndex := 12, attributes := #[] }, { accessFlags := 26, nameIndex := 134, descriptorIndex := 12, attributes := #[] }, { accessFlags := 26, nameIndex := 45, descriptorIndex := 33, attributes := #[] }, { accessFlags := 18, nameIndex := 11, descriptorIndex := 12, attributes := #[] }, { accessFlags := 18, nameIndex := 15, descriptorIndex := 12, attributes := #[] }, { accessFlags := 18, nameIndex := 18, descriptorIndex := 12, attributes := #[] }, { accessFlags := 18, nameIndex := 21, descriptorIndex := 12, attributes := #[] }, { accessFlags := 18, nameIndex := 24, descriptorIndex := 25, attributes := #[] }, { accessFlags := 18, nameIndex := 28, descriptorIndex := 29, attributes := #[] }, { accessFlags := 18, nameIndex := 32, descriptorIndex := 33, attributes := #[] }])
  fields := #[{ name := "RESPONSE_FLAG", type := .int, accessFlags := 26, slot := 0, constantValue := 0 }, { name := "ONE_WAY_FLAG", type := .int, accessFlags := 26, slot := 1, constantValue := 0 }, { name := "NO_BODY", type := (.array .byte), accessFlags := 26, slot := 2, constantValue := 0 }, { name := "code", type := .int, accessFlags := 18, slot := 0, constantValue := 0 }, { name := "version", type := .int, accessFlags := 18, slot := 1, constantValue := 0 }, { name := "opaque", type := .int, accessFlags := 18, slot := 2, constantValue := 0 }, { name := "flag", type := .int, accessFlags := 18, slot := 3, constantValue := 0 }, { name := "remark", type := (.object "java/lang/String"), accessFlags := 18, slot := 4, constantValue := 0 }, { name := "extFields", type := (.object "java/util/Map"), accessFlags := 18, slot := 5, constantValue := 0 }, { name := "body", type := (.array .byte), accessFlags := 18, slot := 6, constantValue := 0 }]
  methods := #[k2m0, k2m1, k2m2, k2m3, k2m4, k2m5, k2m6]
  instanceTypes := #[.int, .int, .int, .int, (.object "java/lang/String"), (.object "java/util/Map"), (.array .byte)]
  staticTypes := #[.int, .int, (.array .byte)]
  resolved := Array.replicate 187 none
  statics := some 0 }

def pool3 : Array CpInfo := pool [(2, .class_ 4), (1, u "java/util/Map"), (31, .class_ 37), (0, u "java/util/Map$Entry"), (43, .fieldref 82 83), (0, .class_ 84), (0, .nameAndType 85 86), (0, u "java/util/ImmutableCollections"), (0, u "EMPTY_MAP"), (0, u "Ljava/util/ImmutableCollections$MapN;"), (6, .class_ 94), (0, u "java/lang/Object"), (6, .class_ 102), (0, u "java/util/ImmutableCollections$AbstractImmutableMap"), (5, u "of"), (0, u "()Ljava/util/Map;"), (140, u "copyOf"), (0, u "(Ljava/util/Map;)Ljava/util/Map;")] 11

def k3c0 : Code := { maxStack := 1, maxLocals := 0, code := jdk_72_method_26_code, exceptionTable := #[], attributes := #[] }
def k3m0 : Method := { name := "of", desc := "()Ljava/util/Map;", sig := { parameters := [], returnType := some (.object "java/util/Map") }, accessFlags := 9, code := some k3c0 }
def k3c1 : Code := { maxStack := 2, maxLocals := 1, code := jdk_72_method_39_code, exceptionTable := #[], attributes := #[] }
def k3m1 : Method := { name := "copyOf", desc := "(Ljava/util/Map;)Ljava/util/Map;", sig := { parameters := [(.object "java/util/Map")], returnType := some (.object "java/util/Map") }, accessFlags := 9, code := some k3c1 }
/-- java/util/Map -/
def k3 : Class := { plain "java/util/Map" (some 0) with
  accessFlags := 1537
  interfaces := #[]
  cf := some (fileOf pool3 2 #[.nestMembers #[36]] #[{ accessFlags := 9, nameIndex := 108, descriptorIndex := 109, attributes := #[] }, { accessFlags := 9, nameIndex := 250, descriptorIndex := 251, attributes := #[] }] 1537 93 #[] #[])
  fields := #[]
  methods := #[k3m0, k3m1]
  instanceTypes := #[]
  staticTypes := #[]
  resolved := Array.replicate 263 none
  statics := none }

def pool4 : Array CpInfo := pool [(2, .class_ 4), (1, u "java/lang/Object"), (0, u "<init>"), (0, u "()V"), (3, .class_ 11), (0, u "java/util/ImmutableCollections$List12"), (0, .class_ 13), (0, u "java/util/ImmutableCollections$ListN"), (3, u "Z"), (29, .class_ 49), (1, u "java/util/ImmutableCollections"), (0, u "$assertionsDisabled"), (5, u "[Ljava/lang/Object;"), (5, u "EMPTY_LIST"), (0, u "Ljava/util/ImmutableCollections$ListN;"), (8, u "EMPTY_LIST_NULLS"), (22, u "SALT32L"), (0, u "J"), (2, u "REVERSE"), (6, u "archivedObjects"), (2, u "EMPTY"), (0, u "Ljava/lang/Object;"), (0, .class_ 112), (0, u "java/util/ImmutableCollections$SetN"), (5, u "EMPTY_SET"), (0, u "Ljava/util/ImmutableCollections$SetN;"), (0, .class_ 121), (0, u "java/util/ImmutableCollections$MapN"), (3, u "EMPTY_MAP"), (0, u "Ljava/util/ImmutableCollections$MapN;"), (4, u "EXPAND_FACTOR"), (0, u "I"), (36, .class_ 170), (0, u "java/util/ImmutableCollections$MapN$MapNIterator"), (0, .class_ 172), (0, u "java/util/ImmutableCollections$MapN$1"), (0, .class_ 174), (0, u "java/util/ImmutableCollections$Map1"), (0, .class_ 176), (0, u "java/util/ImmutableCollections$AbstractImmutableMap"), (0, .class_ 178), (0, u "java/util/ImmutableCollections$SetN$SetNIterator"), (0, .class_ 180), (0, u "java/util/ImmutableCollections$Set12"), (0, .class_ 182), (0, u "java/util/ImmutableCollections$Set12$1"), (0, .class_ 184), (0, u "java/util/ImmutableCollections$AbstractImmutableSet"), (0, .class_ 186), (0, u "java/util/ImmutableCollections$SubList"), (0, .class_ 188), (0, u "java/util/ImmutableCollections$ListItr"), (0, .class_ 190), (0, u "java/util/ImmutableCollections$AbstractImmutableList"), (0, .class_ 192), (0, u "java/util/ImmutableCollections$AbstractImmutableCollection"), (0, .class_ 194), (0, u "java/util/ImmutableCollections$Access"), (0, .class_ 196), (0, u "java/util/ImmutableCollections$Access$1")] 16

def k4m0 : Method := { name := "<init>", desc := "()V", sig := { parameters := [], returnType := none }, accessFlags := 2, code := none }
/-- java/util/ImmutableCollections -/
def k4 : Class := { plain "java/util/ImmutableCollections" (some 0) with
  accessFlags := 32
  interfaces := #[]
  cf := some (fileOf pool4 47 #[.nestMembers #[120, 169, 171, 173, 175, 111, 177, 179, 181, 183, 12, 10, 185, 187, 189, 191, 193, 195]] #[{ accessFlags := 2, nameIndex := 5, descriptorIndex := 6, attributes := #[] }] 32 2 #[] #[{ accessFlags := 26, nameIndex := 95, descriptorIndex := 96, attributes := #[] }, { accessFlags := 26, nameIndex := 99, descriptorIndex := 17, attributes := #[] }, { accessFlags := 10, nameIndex := 106, descriptorIndex := 56, attributes := #[] }, { accessFlags := 26, nameIndex := 109, descriptorIndex := 110, attributes := #[] }, { accessFlags := 24, nameIndex := 62, descriptorIndex := 63, attributes := #[] }, { accessFlags := 24, nameIndex := 72, descriptorIndex := 63, attributes := #[] }, { accessFlags := 24, nameIndex := 118, descriptorIndex := 119, attributes := #[] }, { accessFlags := 24, nameIndex := 125, descriptorIndex := 126, attributes := #[] }, { accessFlags := 24, nameIndex := 131, descriptorIndex := 132, attributes := #[] }, { accessFlags := 4120, nameIndex := 50, descriptorIndex := 17, attributes := #[] }])
  fields := #[{ name := "SALT32L", type := .long, accessFlags := 26, slot := 0, constantValue := 0 }, { name := "REVERSE", type := .boolean, accessFlags := 26, slot := 1, constantValue := 0 }, { name := "archivedObjects", type := (.array (.object "java/lang/Object")), accessFlags := 10, slot := 2, constantValue := 0 }, { name := "EMPTY", type := (.object "java/lang/Object"), accessFlags := 26, slot := 3, constantValue := 0 }, { name := "EMPTY_LIST", type := (.object "java/util/ImmutableCollections$ListN"), accessFlags := 24, slot := 4, constantValue := 0 }, { name := "EMPTY_LIST_NULLS", type := (.object "java/util/ImmutableCollections$ListN"), accessFlags := 24, slot := 5, constantValue := 0 }, { name := "EMPTY_SET", type := (.object "java/util/ImmutableCollections$SetN"), accessFlags := 24, slot := 6, constantValue := 0 }, { name := "EMPTY_MAP", type := (.object "java/util/ImmutableCollections$MapN"), accessFlags := 24, slot := 7, constantValue := 0 }, { name := "EXPAND_FACTOR", type := .int, accessFlags := 24, slot := 8, constantValue := 0 }, { name := "$assertionsDisabled", type := .boolean, accessFlags := 4120, slot := 9, constantValue := 0 }]
  methods := #[k4m0]
  instanceTypes := #[]
  staticTypes := #[.long, .boolean, (.array (.object "java/lang/Object")), (.object "java/lang/Object"), (.object "java/util/ImmutableCollections$ListN"), (.object "java/util/ImmutableCollections$ListN"), (.object "java/util/ImmutableCollections$SetN"), (.object "java/util/ImmutableCollections$MapN"), .int, .boolean]
  resolved := Array.replicate 213 none
  statics := some 1 }

def pool5 : Array CpInfo := pool [(2, .class_ 4), (1, u "java/lang/Object"), (0, u "<init>"), (0, u "()V"), (1, .class_ 10), (1, u "java/util/AbstractMap"), (42, .class_ 54), (0, u "java/util/Map"), (9, u "keySet"), (0, u "Ljava/util/Set;"), (0, .class_ 67), (0, u "java/util/AbstractMap$1"), (5, u "values"), (0, u "Ljava/util/Collection;"), (0, .class_ 76), (0, u "java/util/AbstractMap$2"), (104, .class_ 182), (0, u "java/util/AbstractMap$ViewCollection"), (0, .class_ 184), (0, u "java/util/AbstractMap$SimpleImmutableEntry"), (0, .class_ 186), (0, u "java/util/AbstractMap$SimpleEntry"), (0, .class_ 188), (0, u "java/util/AbstractMap$2$1"), (0, .class_ 190), (0, u "java/util/AbstractMap$1$1")] 5

def k5m0 : Method := { name := "<init>", desc := "()V", sig := { parameters := [], returnType := none }, accessFlags := 4, code := none }
/-- java/util/AbstractMap -/
def k5 : Class := { plain "java/util/AbstractMap" (some 0) with
  accessFlags := 1057
  interfaces := #[3]
  cf := some (fileOf pool5 8 #[.nestMembers #[181, 183, 185, 75, 187, 66, 189]] #[{ accessFlags := 4, nameIndex := 5, descriptorIndex := 6, attributes := #[] }] 1057 2 #[53] #[{ accessFlags := 128, nameIndex := 64, descriptorIndex := 65, attributes := #[] }, { accessFlags := 128, nameIndex := 73, descriptorIndex := 74, attributes := #[] }])
  fields := #[{ name := "keySet", type := (.object "java/util/Set"), accessFlags := 128, slot := 0, constantValue := 0 }, { name := "values", type := (.object "java/util/Collection"), accessFlags := 128, slot := 1, constantValue := 0 }]
  methods := #[k5m0]
  instanceTypes := #[(.object "java/util/Set"), (.object "java/util/Collection")]
  staticTypes := #[]
  resolved := Array.replicate 196 none
  statics := none }

def pool6 : Array CpInfo := pool [(1, .class_ 2), (0, u "java/io/Serializable"), (0, .class_ 4), (0, u "java/lang/Object")] 2

/-- java/io/Serializable -/
def k6 : Class := { plain "java/io/Serializable" (some 0) with
  accessFlags := 1537
  interfaces := #[]
  cf := some (fileOf pool6 1 #[] #[] 1537 3 #[] #[])
  fields := #[]
  methods := #[]
  instanceTypes := #[]
  staticTypes := #[]
  resolved := Array.replicate 7 none
  statics := none }

def pool7 : Array CpInfo := pool [(2, .class_ 4), (1, u "java/util/AbstractMap"), (0, u "<init>"), (0, u "()V"), (1, .class_ 10), (1, u "java/util/ImmutableCollections"), (3, .class_ 16), (1, u "java/util/ImmutableCollections$AbstractImmutableMap"), (2, .class_ 20), (0, u "java/io/Serializable")] 66

def k7m0 : Method := { name := "<init>", desc := "()V", sig := { parameters := [], returnType := none }, accessFlags := 0, code := none }
/-- java/util/ImmutableCollections$AbstractImmutableMap -/
def k7 : Class := { plain "java/util/ImmutableCollections$AbstractImmutableMap" (some 5) with
  accessFlags := 1056
  interfaces := #[6]
  cf := some (fileOf pool7 14 #[.nestHost 8] #[{ accessFlags := 0, nameIndex := 5, descriptorIndex := 6, attributes := #[] }] 1056 2 #[19] #[])
  fields := #[]
  methods := #[k7m0]
  instanceTypes := #[(.object "java/util/Set"), (.object "java/util/Collection")]
  staticTypes := #[]
  resolved := Array.replicate 87 none
  statics := none }

def pool8 : Array CpInfo := pool [(1, .class_ 2), (0, u "java/util/ImmutableCollections"), (1, .class_ 6), (1, u "java/util/ImmutableCollections$AbstractImmutableMap"), (10, .class_ 19), (1, u "java/util/ImmutableCollections$MapN"), (0, u "size"), (0, u "I"), (4, u "table"), (0, u "[Ljava/lang/Object;")] 121

/-- java/util/ImmutableCollections$MapN -/
def k8 : Class := { plain "java/util/ImmutableCollections$MapN" (some 7) with
  accessFlags := 48
  interfaces := #[]
  cf := some (fileOf pool8 17 #[.nestHost 1] #[] 48 4 #[] #[{ accessFlags := 16, nameIndex := 26, descriptorIndex := 27, attributes := #[] }, { accessFlags := 16, nameIndex := 20, descriptorIndex := 21, attributes := #[] }])
  fields := #[{ name := "table", type := (.array (.object "java/lang/Object")), accessFlags := 16, slot := 2, constantValue := 0 }, { name := "size", type := .int, accessFlags := 16, slot := 3, constantValue := 0 }]
  methods := #[]
  instanceTypes := #[(.object "java/util/Set"), (.object "java/util/Collection"), (.array (.object "java/lang/Object")), .int]
  staticTypes := #[]
  resolved := Array.replicate 149 none
  statics := none }

def pool9 : Array CpInfo := pool [(1, u "java/lang/Cloneable"), (0, .class_ 1), (0, u "java/lang/Object"), (0, .class_ 3)] 3

/-- java/lang/Cloneable -/
def k9 : Class := { plain "java/lang/Cloneable" (some 0) with
  accessFlags := 1537
  interfaces := #[]
  cf := some (fileOf pool9 2 #[] #[] 1537 4 #[] #[])
  fields := #[]
  methods := #[]
  instanceTypes := #[]
  staticTypes := #[]
  resolved := Array.replicate 8 none
  statics := none }

/-- the primitive byte -/
def k10 : Class := { plain "byte" none with kind := .primitive 'B', accessFlags := 0x411 }
/-- [B -/
def k11 : Class := { plain "[B" (some 0) with kind := .array 10 .byte, interfaces := #[9, 6], accessFlags := 1041 }

/-- the primitive int -/
def k12 : Class := { plain "int" none with kind := .primitive 'I', accessFlags := 0x411 }
/-- [I -/
def k13 : Class := { plain "[I" (some 0) with kind := .array 12 .int, interfaces := #[9, 6], accessFlags := 1041 }

/-- [Ljava/lang/Object; -/
def k14 : Class := { plain "[Ljava/lang/Object;" (some 0) with kind := .array 0 (.object "java/lang/Object"), interfaces := #[9, 6], accessFlags := 1041 }

def heap : Heap := #[{ cls := 2, slots := #[.int 0, .int 0, .ref 3], vm := .statics 2 },
  { cls := 4, slots := #[.long 0, .int 0, .null, .null, .null, .null, .null, .ref 4, .int 0, .int 0], vm := .statics 4 },
  { cls := 14, slots := #[], vm := .none },
  { cls := 11, slots := #[], vm := .none },
  { cls := 8, slots := #[.null, .null, .ref 2, .int 0], vm := .none }]
def classes : Array Class := #[k0, k1, k2, k3, k4, k5, k6, k7, k8, k9, k10, k11, k12, k13, k14]
def interned : List (Array UInt16 × Addr) := []
def slotsUsed : Nat := 17
def theMethod : MethodId := ⟨1, 1⟩
def args0 : Array Value := #[.int 5, .int 7, .int 8, .int 11, .int 2, .int 3]
def aboutOver (below : List Frame) : State where
  vm := { classes := classes, interned := interned.toArray }
  heap := heap
  slotsUsed := slotsUsed
  threads := #[{ frames := .invoking theMethod args0 :: below }]
def below0 : List Frame := [.native { method := ⟨0, 0⟩, args := #[] }]
def about1 : State := aboutOver below0
def p0 : Program := .bare "" "" ""
def e0 : Env := launch0.env 0 0 0
theorem w_frames : about1.frames = Frame.invoking theMethod args0 :: below0 := rfl
set_option maxRecDepth 65536 in
theorem w_args : argsFit about1.vm theMethod args0 = true := by decide +kernel
set_option maxRecDepth 65536 in
theorem w_heap : heapFits about1 = true := by decide +kernel
set_option maxRecDepth 65536 in
theorem w_runnable : about1.curStatus? = some .runnable := by decide +kernel
set_option maxRecDepth 65536 in
theorem w_alone : about1.alone = true := by decide +kernel
set_option maxRecDepth 65536 in
theorem w_named : about1.methodNamed? x = some theMethod := by decide +kernel
set_option maxRecDepth 65536 in
theorem w_hears : about1.hears theMethod below0 = true := by decide +kernel
set_option maxRecDepth 65536 in
theorem w_ripe : about1.ripe theMethod args0 below0 = true := by decide +kernel
theorem w_running : about1.status = .running := rfl
set_option maxRecDepth 65536 in
theorem w_room : about1.hasRoom e0.platform room_1 = true :=
  launch0.hasRoom_least _ room_1 (by decide +kernel) (by decide +kernel) (by decide +kernel) (by decide +kernel) (by decide +kernel) (by decide +kernel)
theorem allAtoms_all (ts : List Jvm.Cond) (a : Array Jvm.Value) (st : Jvm.State) : (allAtoms ts).before a st = ts.all (fun c => c.before a st) := by
  induction ts with
  | nil => rfl
  | cons c t ih =>
    show (Jvm.Cond.and c (allAtoms t)).before a st = _
    rw [Jvm.Cond.before_and, ih, List.all_cons]
def words1 : List Jvm.Cond := Jvm.Cond.code x code maxLocals ret :: tables_1
/-- a 'code' word, met by the world's own term for the bytes: nothing is compared byte by byte -/
theorem code_word {y : MethodName} {bytes : ByteArray} {mx : Nat} {rt : Option FieldType} {a : Array Value} {s : State} {m : MethodId} {meth : Method} {c : Code} (h1 : s.methodNamed? y = some m) (h2 : s.vm.method? m = some meth) (h3 : meth.code = some c) (h4 : c.code = bytes)
    (h5 : (c.maxLocals == mx && c.exceptionTable.isEmpty && decide (c.maxStack ≤ mostOperands) && decide (meth.sig.returnType = rt) && !meth.locks && decide (parseMethodDescriptor y.desc = some meth.sig)) = true) : (Jvm.Cond.code y bytes mx rt).before a s = true := by
  simp only [Bool.and_eq_true, beq_iff_eq, Bool.not_eq_true', decide_eq_true_eq] at h5
  obtain ⟨⟨⟨⟨⟨g1, g2⟩, g3⟩, g4⟩, g5⟩, g6⟩ := h5
  simp [Cond.before, Cond.holds, Cond.value, h1, h2, h3, h4, g1, g2, g3, g4, g5, g6]
def isCode : Jvm.Cond → Bool
  | .code _ _ _ _ => true
  | _ => false
theorem all_split {L : List Jvm.Cond} {P : Jvm.Cond → Bool} (h1 : L.all (fun c => isCode c || P c) = true) (h2 : ∀ c ∈ L.filter isCode, P c = true) : L.all P = true := by
  refine List.all_eq_true.mpr fun c hc => ?_
  have h := List.all_eq_true.mp h1 c hc
  rcases Bool.eq_false_or_eq_true (isCode c) with hi | hi
  · exact h2 c (List.mem_filter.mpr ⟨hc, hi⟩)
  · simpa [hi] using h
set_option maxRecDepth 65536 in
theorem w_c0 : (Jvm.Cond.code x code maxLocals ret).before args0 about1 = true := code_word (m := ⟨1, 1⟩) (meth := k1m1) (c := k1c1) (by decide +kernel) rfl rfl rfl (by decide +kernel)
set_option maxRecDepth 65536 in
theorem w_c1 : (Jvm.Cond.code ({ cls := "com/example/xixi/xixi/remoting/RemotingCommand", name := "<init>", desc := "(IIIILjava/lang/String;Ljava/util/Map;[B)V" } : Jvm.MethodName) prog_2_method_1_code (8 : Nat) (Option.none : Option Jvm.ClassFile.FieldType)).before args0 about1 = true := code_word (m := ⟨2, 0⟩) (meth := k2m0) (c := k2c0) (by decide +kernel) rfl rfl rfl (by decide +kernel)
set_option maxRecDepth 65536 in
theorem w_c2 : (Jvm.Cond.code ({ cls := "java/lang/Object", name := "<init>", desc := "()V" } : Jvm.MethodName) object_method_1_code (1 : Nat) (Option.none : Option Jvm.ClassFile.FieldType)).before args0 about1 = true := code_word (m := ⟨0, 0⟩) (meth := k0m0) (c := k0c0) (by decide +kernel) rfl rfl rfl (by decide +kernel)
set_option maxRecDepth 65536 in
theorem w_c3 : (Jvm.Cond.code ({ cls := "com/example/xixi/xixi/remoting/RemotingCommand", name := "isResponse", desc := "()Z" } : Jvm.MethodName) prog_2_method_13_code (1 : Nat) (Option.some Jvm.ClassFile.FieldType.boolean)).before args0 about1 = true := code_word (m := ⟨2, 5⟩) (meth := k2m5) (c := k2c5) (by decide +kernel) rfl rfl rfl (by decide +kernel)
set_option maxRecDepth 65536 in
theorem w_c4 : (Jvm.Cond.code ({ cls := "com/example/xixi/xixi/remoting/RemotingCommand", name := "withOpaque", desc := "(I)Lcom/example/xixi/xixi/remoting/RemotingCommand;" } : Jvm.MethodName) prog_2_method_8_code (2 : Nat) (Option.some (Jvm.ClassFile.FieldType.object "com/example/xixi/xixi/remoting/RemotingCommand"))).before args0 about1 = true := code_word (m := ⟨2, 4⟩) (meth := k2m4) (c := k2c4) (by decide +kernel) rfl rfl rfl (by decide +kernel)
set_option maxRecDepth 65536 in
theorem w_c5 : (Jvm.Cond.code ({ cls := "com/example/xixi/xixi/remoting/RemotingCommand", name := "isOneWay", desc := "()Z" } : Jvm.MethodName) prog_2_method_14_code (1 : Nat) (Option.some Jvm.ClassFile.FieldType.boolean)).before args0 about1 = true := code_word (m := ⟨2, 6⟩) (meth := k2m6) (c := k2c6) (by decide +kernel) rfl rfl rfl (by decide +kernel)
set_option maxRecDepth 65536 in
theorem w_c6 : (Jvm.Cond.code ({ cls := "com/example/xixi/xixi/remoting/RemotingCommand", name := "respond", desc := "(ILjava/lang/String;)Lcom/example/xixi/xixi/remoting/RemotingCommand;" } : Jvm.MethodName) prog_2_method_4_code (3 : Nat) (Option.some (Jvm.ClassFile.FieldType.object "com/example/xixi/xixi/remoting/RemotingCommand"))).before args0 about1 = true := code_word (m := ⟨2, 1⟩) (meth := k2m1) (c := k2c1) (by decide +kernel) rfl rfl rfl (by decide +kernel)
set_option maxRecDepth 65536 in
theorem w_c7 : (Jvm.Cond.code ({ cls := "com/example/xixi/xixi/remoting/RemotingCommand", name := "respond", desc := "(ILjava/lang/String;[B)Lcom/example/xixi/xixi/remoting/RemotingCommand;" } : Jvm.MethodName) prog_2_method_5_code (4 : Nat) (Option.some (Jvm.ClassFile.FieldType.object "com/example/xixi/xixi/remoting/RemotingCommand"))).before args0 about1 = true := code_word (m := ⟨2, 2⟩) (meth := k2m2) (c := k2c2) (by decide +kernel) rfl rfl rfl (by decide +kernel)
set_option maxRecDepth 65536 in
theorem w_c8 : (Jvm.Cond.code ({ cls := "java/util/Map", name := "of", desc := "()Ljava/util/Map;" } : Jvm.MethodName) jdk_72_method_26_code (0 : Nat) (Option.some (Jvm.ClassFile.FieldType.object "java/util/Map"))).before args0 about1 = true := code_word (m := ⟨3, 0⟩) (meth := k3m0) (c := k3c0) (by decide +kernel) rfl rfl rfl (by decide +kernel)
set_option maxRecDepth 65536 in
theorem w_c9 : (Jvm.Cond.code ({ cls := "com/example/xixi/xixi/remoting/RemotingCommand", name := "respond", desc := "(ILjava/lang/String;Ljava/util/Map;[B)Lcom/example/xixi/xixi/remoting/RemotingCommand;" } : Jvm.MethodName) prog_2_method_7_code (5 : Nat) (Option.some (Jvm.ClassFile.FieldType.object "com/example/xixi/xixi/remoting/RemotingCommand"))).before args0 about1 = true := code_word (m := ⟨2, 3⟩) (meth := k2m3) (c := k2c3) (by decide +kernel) rfl rfl rfl (by decide +kernel)
set_option maxRecDepth 65536 in
theorem w_c10 : (Jvm.Cond.code ({ cls := "java/util/Map", name := "copyOf", desc := "(Ljava/util/Map;)Ljava/util/Map;" } : Jvm.MethodName) jdk_72_method_39_code (1 : Nat) (Option.some (Jvm.ClassFile.FieldType.object "java/util/Map"))).before args0 about1 = true := code_word (m := ⟨3, 1⟩) (meth := k3m1) (c := k3c1) (by decide +kernel) rfl rfl rfl (by decide +kernel)
def codes1 : List Jvm.Cond := [Jvm.Cond.code x code maxLocals ret, Jvm.Cond.code ({ cls := "com/example/xixi/xixi/remoting/RemotingCommand", name := "<init>", desc := "(IIIILjava/lang/String;Ljava/util/Map;[B)V" } : Jvm.MethodName) prog_2_method_1_code (8 : Nat) (Option.none : Option Jvm.ClassFile.FieldType), Jvm.Cond.code ({ cls := "java/lang/Object", name := "<init>", desc := "()V" } : Jvm.MethodName) object_method_1_code (1 : Nat) (Option.none : Option Jvm.ClassFile.FieldType), Jvm.Cond.code ({ cls := "com/example/xixi/xixi/remoting/RemotingCommand", name := "isResponse", desc := "()Z" } : Jvm.MethodName) prog_2_method_13_code (1 : Nat) (Option.some Jvm.ClassFile.FieldType.boolean), Jvm.Cond.code ({ cls := "com/example/xixi/xixi/remoting/RemotingCommand", name := "withOpaque", desc := "(I)Lcom/example/xixi/xixi/remoting/RemotingCommand;" } : Jvm.MethodName) prog_2_method_8_code (2 : Nat) (Option.some (Jvm.ClassFile.FieldType.object "com/example/xixi/xixi/remoting/RemotingCommand")), Jvm.Cond.code ({ cls := "com/example/xixi/xixi/remoting/RemotingCommand", name := "isOneWay", desc := "()Z" } : Jvm.MethodName) prog_2_method_14_code (1 : Nat) (Option.some Jvm.ClassFile.FieldType.boolean), Jvm.Cond.code ({ cls := "com/example/xixi/xixi/remoting/RemotingCommand", name := "respond", desc := "(ILjava/lang/String;)Lcom/example/xixi/xixi/remoting/RemotingCommand;" } : Jvm.MethodName) prog_2_method_4_code (3 : Nat) (Option.some (Jvm.ClassFile.FieldType.object "com/example/xixi/xixi/remoting/RemotingCommand")), Jvm.Cond.code ({ cls := "com/example/xixi/xixi/remoting/RemotingCommand", name := "respond", desc := "(ILjava/lang/String;[B)Lcom/example/xixi/xixi/remoting/RemotingCommand;" } : Jvm.MethodName) prog_2_method_5_code (4 : Nat) (Option.some (Jvm.ClassFile.FieldType.object "com/example/xixi/xixi/remoting/RemotingCommand")), Jvm.Cond.code ({ cls := "java/util/Map", name := "of", desc := "()Ljava/util/Map;" } : Jvm.MethodName) jdk_72_method_26_code (0 : Nat) (Option.some (Jvm.ClassFile.FieldType.object "java/util/Map")), Jvm.Cond.code ({ cls := "com/example/xixi/xixi/remoting/RemotingCommand", name := "respond", desc := "(ILjava/lang/String;Ljava/util/Map;[B)Lcom/example/xixi/xixi/remoting/RemotingCommand;" } : Jvm.MethodName) prog_2_method_7_code (5 : Nat) (Option.some (Jvm.ClassFile.FieldType.object "com/example/xixi/xixi/remoting/RemotingCommand")), Jvm.Cond.code ({ cls := "java/util/Map", name := "copyOf", desc := "(Ljava/util/Map;)Ljava/util/Map;" } : Jvm.MethodName) jdk_72_method_39_code (1 : Nat) (Option.some (Jvm.ClassFile.FieldType.object "java/util/Map"))]
set_option maxRecDepth 65536 in
theorem codes_eq : words1.filter isCode = codes1 := rfl
theorem w_codes : ∀ c ∈ words1.filter isCode, c.before args0 about1 = true := by
  rw [codes_eq]
  intro c hc
  simp only [codes1, List.mem_cons, List.not_mem_nil, or_false] at hc
  rcases hc with rfl | rfl | rfl | rfl | rfl | rfl | rfl | rfl | rfl | rfl | rfl
  · exact w_c0
  · exact w_c1
  · exact w_c2
  · exact w_c3
  · exact w_c4
  · exact w_c5
  · exact w_c6
  · exact w_c7
  · exact w_c8
  · exact w_c9
  · exact w_c10
set_option maxRecDepth 65536 in
theorem w_t1 : (words1.take 24).all (fun c => isCode c || c.before args0 about1) = true := by decide +kernel
set_option maxRecDepth 65536 in
theorem w_t2 : ((words1.drop 24).take 24).all (fun c => isCode c || c.before args0 about1) = true := by decide +kernel
set_option maxRecDepth 65536 in
theorem w_t3 : ((words1.drop 24).drop 24).all (fun c => isCode c || c.before args0 about1) = true := by decide +kernel
theorem w_tables : (allAtoms (Jvm.Cond.code x code maxLocals ret :: tables_1)).before args0 about1 = true := by
  rw [allAtoms_all]
  show words1.all (fun c => c.before args0 about1) = true
  refine all_split ?_ w_codes
  rw [← List.take_append_drop 24 words1, List.all_append, w_t1, ← List.take_append_drop 24 (words1.drop 24), List.all_append, w_t2, w_t3]
  rfl
set_option maxRecDepth 65536 in
theorem w_rest : rest_1_c.before args0 about1 = true := by decide +kernel
set_option maxRecDepth 65536 in
theorem w_case : (Jvm.Cond.and given_1 narrow_1).before args0 about1 = true := by decide +kernel
theorem w_applies : (headSpec (Jvm.Cond.code x code maxLocals ret :: tables_1) room_1).applies x e0.platform about1 = true :=
  (Spec.applies_iff w_frames).mpr ⟨w_running, w_runnable, w_alone, w_named, w_hears, w_ripe, w_room, w_tables⟩
theorem atStart : AtStart classFile x code maxLocals ret World_1 tables_1 room_1 Calls_1 rest_1 Pre_1 launch0 p0 e0 about1 theMethod args0 below0 :=
  ⟨lists_1, trivial, launch0.admits_env _ _ _, launch0.least_env, fairChoices_fair.cas, fairChoices_fair.clock, w_frames, w_args, w_heap, w_applies, trivial, w_rest, w_case⟩
end start1
theorem witness_1 : WitnessClaimed_1 := ⟨start1.p0, start1.e0, start1.about1, start1.theMethod, start1.args0, start1.below0, start1.atStart⟩
end Jvm.Pilot.@@N@@
