import JvmDerived
import JvmDerived.Pilot.@@N@@Statement
import JvmDerived.Pilot.@@N@@Code
set_option linter.unusedVariables false
set_option linter.unusedSimpArgs false
namespace Jvm.Pilot.@@N@@
open Jvm Jvm.ClassFile Sem Op Lib Jvm.Free Jvm.Stand Jvm.LawKit Jvm.RoadKit Bundle Jvm.Pilot.@@N@@.Jvm.D
section Own
variable {p : Program} {l : Launch} {e : Env} {R : Room} {s : State} {m : MethodId} {args : Array Value} {below : List Frame} {meth : Method} {c : Code} {T : State} {locs : List Loc} {cells slots : Nat} {Z : State} {a0 : Array Value} {h h' : Heap} {Q : Option Value → Heap → List Loc → Prop} {k n : Nat}
/-- from U the walk comes to a return of which Q holds -/
def Goes (p : Program) (e : Env) (below : List Frame) (s : State) (Q : Option Value → Heap → List Loc → Prop) (k n : Nat) (U : State) : Prop :=
  ∃ s₂ o, Steps p.tables e below U s₂ ∧ s₂.status = .running ∧ Ended s₂ below o ∧ ∃ v L, o = .returned v ∧ Q v s₂.heap L ∧ FrameEnd s o s₂ L k n
theorem Goes.go {U U' : State} (h : ∀ t, Steps p.tables e below U' t → Steps p.tables e below U t) (r : Goes p e below s Q k n U') : Goes p e below s Q k n U := by
  obtain ⟨s₂, o, h1, r⟩ := r
  exact ⟨s₂, o, h _ h1, r⟩
theorem Goes.outI (X : Stand p l e R s m args below meth c T locs cells slots) (hx : p.tables.exec = Jvm.exec) (hlk : meth.locks = false) (hret : meth.sig.returnType = some .int) {pc : Nat} {Ls : Array Slot} {z : Int32} (hd : decode c.code pc = .ok (.ireturn, 1)) (eT : T.heap = h) (hq : Q (some (.int z)) h locs) (hk : cells ≤ k) (hn : slots ≤ n) :
    Goes p e below s Q k n (T.setTop (mkF m pc Ls [.int z])) := by
  obtain ⟨fs, hr, hrun, hended, hW, hsame⟩ := X.leave (v := some (.int z)) (fun h => by rw [hret] at h; cases h) hlk
  refine ⟨_, _, X.ireturnOut hx hret rfl (Or.inl rfl) hd hr, hrun, hended, _, _, rfl, ?_, ⟨_, rfl⟩, hW, hsame.mono hk hn⟩
  show Q _ T.heap _
  rw [eT]; exact hq
theorem Goes.outZ (X : Stand p l e R s m args below meth c T locs cells slots) (hx : p.tables.exec = Jvm.exec) (hlk : meth.locks = false) (hret : meth.sig.returnType = some .boolean) {pc : Nat} {Ls : Array Slot} {z : Int32} (hz : narrow .boolean (.int z) = .int z) (hd : decode c.code pc = .ok (.ireturn, 1)) (eT : T.heap = h) (hq : Q (some (.int z)) h locs) (hk : cells ≤ k) (hn : slots ≤ n) :
    Goes p e below s Q k n (T.setTop (mkF m pc Ls [.int z])) := by
  obtain ⟨fs, hr, hrun, hended, hW, hsame⟩ := X.leave (v := some (.int z)) (fun h => by rw [hret] at h; cases h) hlk
  refine ⟨_, _, X.ireturnOut hx hret hz (Or.inr (Or.inl rfl)) hd hr, hrun, hended, _, _, rfl, ?_, ⟨_, rfl⟩, hW, hsame.mono hk hn⟩
  show Q _ T.heap _
  rw [eT]; exact hq
theorem Goes.outJ (X : Stand p l e R s m args below meth c T locs cells slots) (hx : p.tables.exec = Jvm.exec) (hlk : meth.locks = false) (hret : meth.sig.returnType = some .long) {pc : Nat} {Ls : Array Slot} {z : Int64} (hd : decode c.code pc = .ok (.lreturn, 1)) (eT : T.heap = h) (hq : Q (some (.long z)) h locs) (hk : cells ≤ k) (hn : slots ≤ n) :
    Goes p e below s Q k n (T.setTop (mkF m pc Ls [.long z])) := by
  obtain ⟨fs, hr, hrun, hended, hW, hsame⟩ := X.leave (v := some (.long z)) (fun h => by rw [hret] at h; cases h) hlk
  refine ⟨_, _, X.lreturnOut hx hret hd hr, hrun, hended, _, _, rfl, ?_, ⟨_, rfl⟩, hW, hsame.mono hk hn⟩
  show Q _ T.heap _
  rw [eT]; exact hq
theorem Goes.outA (X : Stand p l e R s m args below meth c T locs cells slots) (hx : p.tables.exec = Jvm.exec) (hlk : meth.locks = false) {t : FieldType} (hret : meth.sig.returnType = some t) (ht : t.isReference = true) {pc : Nat} {Ls : Array Slot} {w : Value} (hw : w.isRef = true) (hd : decode c.code pc = .ok (.areturn, 1)) (eT : T.heap = h) (hq : Q (some w) h locs) (hk : cells ≤ k) (hn : slots ≤ n) :
    Goes p e below s Q k n (T.setTop (mkF m pc Ls [w])) := by
  obtain ⟨fs, hr, hrun, hended, hW, hsame⟩ := X.leave (v := some w) (fun h => by rw [hret] at h; cases h) hlk
  refine ⟨_, _, X.areturnOut hx hw hret ht hd hr, hrun, hended, _, _, rfl, ?_, ⟨_, rfl⟩, hW, hsame.mono hk hn⟩
  show Q _ T.heap _
  rw [eT]; exact hq
theorem Goes.outV (X : Stand p l e R s m args below meth c T locs cells slots) (hx : p.tables.exec = Jvm.exec) (hlk : meth.locks = false) (hret : meth.sig.returnType = none) {pc : Nat} {Ls : Array Slot} (hd : decode c.code pc = .ok (.return_, 1)) (eT : T.heap = h) (hq : Q none h locs) (hk : cells ≤ k) (hn : slots ≤ n) :
    Goes p e below s Q k n (T.setTop (mkF m pc Ls [])) := by
  obtain ⟨fs, hr, hrun, hended, hW, hsame⟩ := X.leave (v := none) (fun _ => rfl) hlk
  refine ⟨_, _, X.returnOut hx hret hd hr, hrun, hended, _, _, rfl, ?_, ⟨_, rfl⟩, hW, hsame.mono hk hn⟩
  show Q _ T.heap _
  rw [eT]; exact hq
/-- an array, by the list of what it holds -/
def Arl (Z : State) (h : Heap) (a : Addr) (ty : FieldType) (vs : List Value) : Prop := ∃ c : Cell, Arr Z h a c ty ∧ c.slots.toList = vs
section Arls
variable {a b : Addr} {ty : FieldType} {vs : List Value} {v : Value} {sl : Nat} {ws : List Addr} {j : Int32}
theorem Arl.lt (F : Arl Z h a ty vs) : a < h.size := by obtain ⟨c, A, -⟩ := F; exact A.lt
theorem Arl.ext (F : Arl Z h a ty vs) (E : Ext h h') : Arl Z h' a ty vs := by obtain ⟨c, A, r⟩ := F; exact ⟨c, A.ext E, r⟩
theorem Arl.other (F : Arl Z h b ty vs) (W : Wr h h' a sl v) (q : b ≠ a) : Arl Z h' b ty vs := by obtain ⟨c, A, r⟩ := F; exact ⟨c, A.other W q, r⟩
theorem Arl.keep (F : Arl Z h a ty vs) (K : Keep h h' ws) (q : a ∉ ws) : Arl Z h' a ty vs := by obtain ⟨c, A, r⟩ := F; exact ⟨c, ⟨K.2.1 a c A.1 q, A.2⟩, r⟩
theorem Arl.set (F : Arl Z h a ty vs) (W : Wr h h' a sl v) : Arl Z h' a ty (vs.set sl v) := by
  obtain ⟨c, A, r⟩ := F
  refine ⟨_, A.same W, ?_⟩
  subst r
  simp [Cell.setSlot]
theorem Arl.eq {vs' : List Value} (F : Arl Z h a ty vs) (e : vs = vs') : Arl Z h a ty vs' := e ▸ F
theorem own_in {c : Cell} (r : c.slots.toList = vs) (h0 : ¬ j < 0) (h1 : j.toNatClampNeg < vs.length) : ¬ (j < 0 ∨ c.slots.size ≤ j.toNatClampNeg) := by
  subst r
  intro q
  rcases q with q | q
  · exact h0 q
  · rw [Array.length_toList] at h1; omega
theorem own_lt (hv : vs[sl]? = some v) : sl < vs.length := (List.getElem?_eq_some_iff.mp hv).1
end Arls
theorem own_ati {xs : List Int32} {j : Nat} {w : Int32} (h : xs[j]? = some w) : (xs.map Value.int)[j]? = some (.int w) := by
  rw [List.getElem?_map, h]; rfl
theorem own_lni {xs : List Int32} {j k : Nat} (hl : xs.length = k) (h : j < k) : j < (xs.map Value.int).length := by
  rw [List.length_map, hl]; exact h
theorem own_sti {a : Addr} {xs : List Int32} {j : Nat} {w : Int32} (A : Arl Z h a .int ((xs.map Value.int).set j (.int w))) : Arl Z h a .int ((xs.set j w).map Value.int) := A.eq List.map_set.symm
theorem own_selP {C : String} {y y' : MethodName} (hs : (Cond.selects C y' y').before args s = true) (hcls : y'.cls = y.cls) (hpriv : s.PrivateAt y) (hinst : (Cond.instanceMethod y).before args s = true) (hy : y.cls ≠ "java/lang/invoke/MethodHandle" ∧ y.cls ≠ "java/lang/invoke/VarHandle") : (Cond.selects y.cls y y).before args s = true := by
  obtain ⟨c2, r2, m2, -, -, q3, -, kP, hkP, hkPi⟩ := Cond.selects_spec hs
  have hc : s.vm.findClass y.cls = some m2.cls := hcls ▸ findClass_of_methodNamed q3
  exact selects_self_of_private hc hkP hkPi hpriv hinst hy
theorem own_neA {a b : Addr} {C : String} {k : Nat} {ty : FieldType} {vs : List Value} (F : Exa Z h a C) (wi : (Cond.instantiable C k).before a0 Z = true) (G : Arl Z h b ty vs) : a ≠ b := by
  obtain ⟨c', A', -⟩ := G
  exact ne_arr F wi A'
theorem own_newP (X : Stand p l e R s m args below meth c T locs cells slots) (hx : p.tables.exec = Jvm.exec) (hZ : Z.Warmed39 s.vm) {aty : ArrayType} (w : (Cond.arrayClass (newarray.typeOf aty)).before a0 Z = true) (eT : T.heap = h) {g : JFrame} (hg : g.method = m) (hd : decode c.code g.pc = .ok (.newarray aty, 2)) {n : Int32} {rest : List Value} (hs : g.stack = .int n :: rest)
    (hn : ¬ n < 0) {cap : Nat} (hcap : n.toNatClampNeg ≤ cap) (hb : cap * 8 ≤ 536870912) (hc : cells + 1 ≤ R.cells) (hl : slots + cap ≤ R.slots) :
    ∃ T' h', Stand p l e R s m args below meth c T' locs (cells + 1) (slots + cap) ∧ T'.heap = h' ∧ Ext h h' ∧ Arl Z h' h.size (newarray.typeOf aty) (List.replicate n.toNatClampNeg (defaultValue (newarray.typeOf aty))) ∧
      ∀ target, Steps p.tables e below (T'.setTop { g with pc := g.pc + 2, stack := .ref h.size :: rest }) target → Steps p.tables e below (T.setTop g) target := by
  obtain ⟨T', h', cA, X', e', E', A', st⟩ := newP X hx hZ w eT hg hd hs hn hcap hb hc hl
  exact ⟨T', h', X', e', E', ⟨_, A', by simp [newA]⟩, st⟩
theorem own_stB (X : Stand p l e R s m args below meth c T locs cells slots) (hx : p.tables.exec = Jvm.exec) (hZ : Z.Warmed39 s.vm) (eT : T.heap = h) {a : Addr} {vs : List Value} (A : Arl Z h a .byte vs) {j x : Int32} (hj : ¬ j < 0) (hj' : j.toNatClampNeg < vs.length) {g : JFrame} (hg : g.method = m) {rest : List Value} (hs : g.stack = .int x :: .int j :: .ref a :: rest) (hd : decode c.code g.pc = .ok (.bastore, 1)) :
    ∃ T' h', Stand p l e R s m args below meth c T' (locs ++ [⟨a, j.toNatClampNeg⟩]) cells slots ∧ T'.heap = h' ∧ Wr h h' a j.toNatClampNeg (.int x.toInt8.toInt32) ∧ Arl Z h' a .byte (vs.set j.toNatClampNeg (.int x.toInt8.toInt32)) ∧ ∀ target, Steps p.tables e below (T'.setTop { g with pc := g.pc + 1, stack := rest }) target → Steps p.tables e below (T.setTop g) target := by
  obtain ⟨c', A', r⟩ := A
  obtain ⟨T', h', X', e', W, st⟩ := stB X hx hZ eT A' (own_in r hj hj') hg hs hd
  exact ⟨T', h', X', e', W, Arl.set ⟨c', A', r⟩ W, st⟩
theorem own_stI (X : Stand p l e R s m args below meth c T locs cells slots) (hx : p.tables.exec = Jvm.exec) (hZ : Z.Warmed39 s.vm) (eT : T.heap = h) {a : Addr} {vs : List Value} (A : Arl Z h a .int vs) {j x : Int32} (hj : ¬ j < 0) (hj' : j.toNatClampNeg < vs.length) {g : JFrame} (hg : g.method = m) {rest : List Value} (hs : g.stack = .int x :: .int j :: .ref a :: rest) (hd : decode c.code g.pc = .ok (.iastore, 1)) :
    ∃ T' h', Stand p l e R s m args below meth c T' (locs ++ [⟨a, j.toNatClampNeg⟩]) cells slots ∧ T'.heap = h' ∧ Wr h h' a j.toNatClampNeg (.int x) ∧ Arl Z h' a .int (vs.set j.toNatClampNeg (.int x)) ∧ ∀ target, Steps p.tables e below (T'.setTop { g with pc := g.pc + 1, stack := rest }) target → Steps p.tables e below (T.setTop g) target := by
  obtain ⟨c', A', r⟩ := A
  obtain ⟨T', h', X', e', W, st⟩ := stI X hx hZ eT A' (own_in r hj hj') hg hs hd
  exact ⟨T', h', X', e', W, Arl.set ⟨c', A', r⟩ W, st⟩
theorem own_stJ (X : Stand p l e R s m args below meth c T locs cells slots) (hx : p.tables.exec = Jvm.exec) (hZ : Z.Warmed39 s.vm) (eT : T.heap = h) {a : Addr} {vs : List Value} (A : Arl Z h a .long vs) {j : Int32} {x : Int64} (hj : ¬ j < 0) (hj' : j.toNatClampNeg < vs.length) {g : JFrame} (hg : g.method = m) {rest : List Value} (hs : g.stack = .long x :: .int j :: .ref a :: rest) (hd : decode c.code g.pc = .ok (.lastore, 1)) :
    ∃ T' h', Stand p l e R s m args below meth c T' (locs ++ [⟨a, j.toNatClampNeg⟩]) cells slots ∧ T'.heap = h' ∧ Wr h h' a j.toNatClampNeg (.long x) ∧ Arl Z h' a .long (vs.set j.toNatClampNeg (.long x)) ∧ ∀ target, Steps p.tables e below (T'.setTop { g with pc := g.pc + 1, stack := rest }) target → Steps p.tables e below (T.setTop g) target := by
  obtain ⟨c', A', r⟩ := A
  obtain ⟨T', h', X', e', W, st⟩ := stJ X hx hZ eT A' (own_in r hj hj') hg hs hd
  exact ⟨T', h', X', e', W, Arl.set ⟨c', A', r⟩ W, st⟩
theorem own_at {a : Addr} {c' : Cell} {vs : List Value} {v : Value} {j : Int32} (r : c'.slots.toList = vs) (hv : vs[j.toNatClampNeg]? = some v) : c'.slots[j.toNatClampNeg]? = some v := by
  subst r; simpa using hv
theorem own_ldB (X : Stand p l e R s m args below meth c T locs cells slots) (hx : p.tables.exec = Jvm.exec) (hZ : Z.Warmed39 s.vm) (eT : T.heap = h) {a : Addr} {vs : List Value} {v : Value} (A : Arl Z h a .byte vs) {j : Int32} (hj : ¬ j < 0) (hv : vs[j.toNatClampNeg]? = some v) {g : JFrame} (hg : g.method = m) {rest : List Value} (hs : g.stack = .int j :: .ref a :: rest) (hd : decode c.code g.pc = .ok (.baload, 1)) :
    ∀ target, Steps p.tables e below (T.setTop { g with pc := g.pc + 1, stack := v :: rest }) target → Steps p.tables e below (T.setTop g) target := by
  obtain ⟨c', A', r⟩ := A
  exact fun t k => X.baloadBytes hx (by rw [eT]; exact A'.1) (State.isArrayOf_alike hZ.alike A'.2.1) A'.2.2 (own_in r hj (own_lt hv)) (own_at (a := a) r hv) hg hs hd t k
theorem own_ldI (X : Stand p l e R s m args below meth c T locs cells slots) (hx : p.tables.exec = Jvm.exec) (hZ : Z.Warmed39 s.vm) (eT : T.heap = h) {a : Addr} {vs : List Value} {v : Value} (A : Arl Z h a .int vs) {j : Int32} (hj : ¬ j < 0) (hv : vs[j.toNatClampNeg]? = some v) {g : JFrame} (hg : g.method = m) {rest : List Value} (hs : g.stack = .int j :: .ref a :: rest) (hd : decode c.code g.pc = .ok (.iaload, 1)) :
    ∀ target, Steps p.tables e below (T.setTop { g with pc := g.pc + 1, stack := v :: rest }) target → Steps p.tables e below (T.setTop g) target := by
  obtain ⟨c', A', r⟩ := A
  exact fun t k => X.iaload hx (by rw [eT]; exact A'.1) (State.isArrayOf_alike hZ.alike A'.2.1) A'.2.2 (own_in r hj (own_lt hv)) (own_at (a := a) r hv) hg hs hd t k
theorem own_ldJ (X : Stand p l e R s m args below meth c T locs cells slots) (hx : p.tables.exec = Jvm.exec) (hZ : Z.Warmed39 s.vm) (eT : T.heap = h) {a : Addr} {vs : List Value} {v : Value} (A : Arl Z h a .long vs) {j : Int32} (hj : ¬ j < 0) (hv : vs[j.toNatClampNeg]? = some v) {g : JFrame} (hg : g.method = m) {rest : List Value} (hs : g.stack = .int j :: .ref a :: rest) (hd : decode c.code g.pc = .ok (.laload, 1)) :
    ∀ target, Steps p.tables e below (T.setTop { g with pc := g.pc + 1, stack := v :: rest }) target → Steps p.tables e below (T.setTop g) target := by
  obtain ⟨c', A', r⟩ := A
  exact fun t k => X.laload hx (by rw [eT]; exact A'.1) (State.isArrayOf_alike hZ.alike A'.2.1) A'.2.2 (own_in r hj (own_lt hv)) (own_at (a := a) r hv) hg hs hd t k
theorem own_len (X : Stand p l e R s m args below meth c T locs cells slots) (hx : p.tables.exec = Jvm.exec) (hZ : Z.Warmed39 s.vm) (eT : T.heap = h) {a : Addr} {ty : FieldType} {vs : List Value} (A : Arl Z h a ty vs) {n : Int32} (hn : vs.length.toInt32 = n) {g : JFrame} (hg : g.method = m) {rest : List Value} (hs : g.stack = .ref a :: rest) (hd : decode c.code g.pc = .ok (.arraylength, 1)) :
    ∀ target, Steps p.tables e below (T.setTop { g with pc := g.pc + 1, stack := .int n :: rest }) target → Steps p.tables e below (T.setTop g) target := by
  obtain ⟨c', A', r⟩ := A
  have q : c'.slots.size.toInt32 = n := by rw [← hn, ← r, Array.length_toList]
  exact fun t k => X.arraylength hx (ty := ty) (by rw [eT]; exact A'.1) (State.isArrayOf_alike hZ.alike A'.2.1) hg hs hd t (q.symm ▸ k)
end Own
def rsF (g : Int32) : Int32 := if g &&& (1 : Int32) = 0 then 0 else 1
def owF (g : Int32) : Int32 := if rsF g = 0 then (if g &&& (2 : Int32) = 0 then 0 else 1) else 0
theorem own_lo : ∀ b : BitVec 2, (b = 2#2) ↔ (b &&& 1#2 = 0#2 ∧ ¬ b &&& 2#2 = 0#2) := by decide
theorem own_m (g : Int32) : (g &&& (3 : Int32)) = 2 ↔ (g &&& (1 : Int32) = 0 ∧ ¬ g &&& (2 : Int32) = 0) := by
  have h3 := c_mask g 3 2 (by decide) (by decide)
  have h1 := c_mask g 1 1 (by decide) (by decide)
  have e2 : g &&& (2 : Int32) = (g &&& (3 : Int32)) - (g &&& (1 : Int32)) := by
    apply Int32.toBitVec_inj.mp
    simp only [Int32.toBitVec_and, Int32.toBitVec_sub]
    generalize g.toBitVec = x
    have hx : x &&& 2#32 = (x &&& 3#32) &&& 2#32 := by rw [BitVec.and_assoc]; rfl
    have hy : x &&& 1#32 = (x &&& 3#32) &&& 1#32 := by rw [BitVec.and_assoc]; rfl
    show x &&& 2#32 = (x &&& 3#32) - (x &&& 1#32)
    rw [hx, hy]
    have hlt : (x &&& 3#32).toNat < 4 := by
      rw [BitVec.toNat_and]; exact Nat.lt_of_le_of_lt Nat.and_le_right (by decide)
    generalize hz : x &&& 3#32 = z at *
    have : z = 0#32 ∨ z = 1#32 ∨ z = 2#32 ∨ z = 3#32 := by
      have h4 : z.toNat = 0 ∨ z.toNat = 1 ∨ z.toNat = 2 ∨ z.toNat = 3 := by omega
      rcases h4 with h | h | h | h
      · exact Or.inl (BitVec.eq_of_toNat_eq h)
      · exact Or.inr (Or.inl (BitVec.eq_of_toNat_eq h))
      · exact Or.inr (Or.inr (Or.inl (BitVec.eq_of_toNat_eq h)))
      · exact Or.inr (Or.inr (Or.inr (BitVec.eq_of_toNat_eq h)))
    rcases this with rfl | rfl | rfl | rfl <;> decide
  have e2' := c_isub (g &&& (3 : Int32)) (g &&& (1 : Int32))
  rw [← e2] at e2'
  have r2 := rng32 (g &&& (2 : Int32))
  simp only [← Int32.toInt_inj]
  have z0 : (0 : Int32).toInt = 0 := by decide
  have z2 : (2 : Int32).toInt = 2 := by decide
  omega
theorem own_yes {g v : Int32} (hv : (g &&& (3 : Int32)) = v) (h : v = 2) : owF g = 1 := by
  have q := (own_m g).mp (hv.trans h)
  simp [owF, rsF, q.1, q.2]
theorem own_no {g v : Int32} (hv : (g &&& (3 : Int32)) = v) (h : ¬ v = 2) : owF g = 0 := by
  have q : ¬ (g &&& (1 : Int32) = 0 ∧ ¬ g &&& (2 : Int32) = 0) := fun e => h (hv.symm.trans ((own_m g).mpr e))
  by_cases h1 : g &&& (1 : Int32) = 0
  · have h2 : g &&& (2 : Int32) = 0 := by
      by_cases h2 : g &&& (2 : Int32) = 0
      · exact h2
      · exact absurd ⟨h1, h2⟩ q
    simp [owF, rsF, h1, h2]
  · simp [owF, rsF, h1]
theorem pd0 : parseMethodDescriptor "(IIIILjava/lang/String;Ljava/util/Map;[B)V" = some ⟨[.int, .int, .int, .int, (.object "java/lang/String"), (.object "java/util/Map"), (.array .byte)], none⟩ := by decide +kernel
theorem pd1 : parseMethodDescriptor "()V" = some ⟨[], none⟩ := by decide +kernel
theorem pd2 : parseMethodDescriptor "()Z" = some ⟨[], (some .boolean)⟩ := by decide +kernel
theorem pd3 : parseMethodDescriptor "(IIII)Z" = some ⟨[.int, .int, .int, .int], (some .boolean)⟩ := by decide +kernel
theorem d1_0 : decode prog_2_method_1_code 0 = .ok (.aload_n 0, 1) := by decide +kernel
theorem d1_1 : decode prog_2_method_1_code 1 = .ok (.invokespecial 1, 3) := by decide +kernel
theorem d1_4 : decode prog_2_method_1_code 4 = .ok (.aload_n 0, 1) := by decide +kernel
theorem d1_5 : decode prog_2_method_1_code 5 = .ok (.iload_n 1, 1) := by decide +kernel
theorem d1_6 : decode prog_2_method_1_code 6 = .ok (.putfield 7, 3) := by decide +kernel
theorem d1_9 : decode prog_2_method_1_code 9 = .ok (.aload_n 0, 1) := by decide +kernel
theorem d1_10 : decode prog_2_method_1_code 10 = .ok (.iload_n 2, 1) := by decide +kernel
theorem d1_11 : decode prog_2_method_1_code 11 = .ok (.putfield 13, 3) := by decide +kernel
theorem d1_14 : decode prog_2_method_1_code 14 = .ok (.aload_n 0, 1) := by decide +kernel
theorem d1_15 : decode prog_2_method_1_code 15 = .ok (.iload_n 3, 1) := by decide +kernel
theorem d1_16 : decode prog_2_method_1_code 16 = .ok (.putfield 16, 3) := by decide +kernel
theorem d1_19 : decode prog_2_method_1_code 19 = .ok (.aload_n 0, 1) := by decide +kernel
theorem d1_20 : decode prog_2_method_1_code 20 = .ok (.iload 4, 2) := by decide +kernel
theorem d1_22 : decode prog_2_method_1_code 22 = .ok (.putfield 19, 3) := by decide +kernel
theorem d1_25 : decode prog_2_method_1_code 25 = .ok (.aload_n 0, 1) := by decide +kernel
theorem d1_26 : decode prog_2_method_1_code 26 = .ok (.aload 5, 2) := by decide +kernel
theorem d1_28 : decode prog_2_method_1_code 28 = .ok (.putfield 22, 3) := by decide +kernel
theorem d1_31 : decode prog_2_method_1_code 31 = .ok (.aload_n 0, 1) := by decide +kernel
theorem d1_32 : decode prog_2_method_1_code 32 = .ok (.aload 6, 2) := by decide +kernel
theorem d1_34 : decode prog_2_method_1_code 34 = .ok (.putfield 26, 3) := by decide +kernel
theorem d1_37 : decode prog_2_method_1_code 37 = .ok (.aload_n 0, 1) := by decide +kernel
theorem d1_38 : decode prog_2_method_1_code 38 = .ok (.aload 7, 2) := by decide +kernel
theorem d1_40 : decode prog_2_method_1_code 40 = .ok (.putfield 30, 3) := by decide +kernel
theorem d1_43 : decode prog_2_method_1_code 43 = .ok (.return_, 1) := by decide +kernel
theorem pn0 : plainName "com/example/xixi/xixi/remoting/RemotingCommand" = true := by first | (simp [plainName, overriddenIn]; done) | decide +kernel
theorem ef_rm1 (m : MethodId) (a : Addr) (p0 : Int32) (p1 : Int32) (p2 : Int32) (p3 : Int32) : entryFrame m #[(.ref a), (.int p0), (.int p1), (.int p2), (.int p3), .null, .null, .null] 8 = mkF m 0 #[.val (.ref a), .val (.int p0), .val (.int p1), .val (.int p2), .val (.int p3), .val .null, .val .null, .val .null] [] := by first | (simp [entryFrame, mkF, argsToLocals, Value.category]; done) | rfl
def Q_rm1 (Z : State) (a : Addr) (p0 : Int32) (p1 : Int32) (p2 : Int32) (p3 : Int32) (h0 : Heap) (n0 : Nat) (v : Option Value) (h : Heap) (L : List Loc) : Prop := v = none ∧ Fr n0 L ∧ Keep h0 h [a] ∧ Exa Z h a "com/example/xixi/xixi/remoting/RemotingCommand" ∧ Fld Z h a "com/example/xixi/xixi/remoting/RemotingCommand" "code" "I" (.int p0) ∧ Fld Z h a "com/example/xixi/xixi/remoting/RemotingCommand" "version" "I" (.int p1) ∧ Fld Z h a "com/example/xixi/xixi/remoting/RemotingCommand" "opaque" "I" (.int p2) ∧ Fld Z h a "com/example/xixi/xixi/remoting/RemotingCommand" "flag" "I" (.int p3) ∧ Fld Z h a "com/example/xixi/xixi/remoting/RemotingCommand" "remark" "Ljava/lang/String;" .null ∧ Fld Z h a "com/example/xixi/xixi/remoting/RemotingCommand" "extFields" "Ljava/util/Map;" .null ∧ Fld Z h a "com/example/xixi/xixi/remoting/RemotingCommand" "body" "[B" .null
set_option maxRecDepth 65536 in
set_option maxHeartbeats 40000000 in
theorem rm1 (l : Launch) (Z : State) (a0 : Array Value) (hw : ∀ d ∈ tables_1, d.before a0 Z = true) (ws : List Jvm.Cond) (a : Addr) (p0 : Int32) (p1 : Int32) (p2 : Int32) (p3 : Int32) (h0 : Heap) (n0 : Nat) (Z0 : n0 ≤ h0.size) (E0 : Exa Z h0 a "com/example/xixi/xixi/remoting/RemotingCommand") (F_code : Fld Z h0 a "com/example/xixi/xixi/remoting/RemotingCommand" "code" "I" (.int (0 : Int32))) (F_version : Fld Z h0 a "com/example/xixi/xixi/remoting/RemotingCommand" "version" "I" (.int (0 : Int32))) (F_opaque : Fld Z h0 a "com/example/xixi/xixi/remoting/RemotingCommand" "opaque" "I" (.int (0 : Int32))) (F_flag : Fld Z h0 a "com/example/xixi/xixi/remoting/RemotingCommand" "flag" "I" (.int (0 : Int32))) (F_remark : Fld Z h0 a "com/example/xixi/xixi/remoting/RemotingCommand" "remark" "Ljava/lang/String;" .null) (F_extFields : Fld Z h0 a "com/example/xixi/xixi/remoting/RemotingCommand" "extFields" "Ljava/util/Map;" .null) (F_body : Fld Z h0 a "com/example/xixi/xixi/remoting/RemotingCommand" "body" "[B" .null) (ga : n0 ≤ a) :
    MetFree l (⟨"com/example/xixi/xixi/remoting/RemotingCommand", "<init>", "(IIIILjava/lang/String;Ljava/util/Map;[B)V"⟩ : MethodName) (head1 (Jvm.Cond.code (⟨"com/example/xixi/xixi/remoting/RemotingCommand", "<init>", "(IIIILjava/lang/String;Ljava/util/Map;[B)V"⟩ : MethodName) prog_2_method_1_code 8 none :: ws) ({ frames := 1, cells := 0, slots := 0, locals := 12 } : Room)) (fun aa U => aa = #[(.ref a), (.int p0), (.int p1), (.int p2), (.int p3), .null, .null, .null] ∧ Z.Warmed39 U.vm ∧ U.heap = h0) (fun _ _ _ _ _ => True) (fun _ U o U' => ∃ v L, o = .returned v ∧ Q_rm1 Z a p0 p1 p2 p3 h0 n0 v U'.heap L ∧ FrameEnd U o U' L ({ frames := 1, cells := 0, slots := 0, locals := 12 } : Room).cells ({ frames := 1, cells := 0, slots := 0, locals := 12 } : Room).slots) := by
  refine MetFree.of_bodySF (plainFor_of_name pn0) hisR ?_
  intro p e s m args below meth c s₁ Bd hml0 hP hK
  obtain ⟨rfl, hZ, hh⟩ := hP
  have hx := Bd.exec
  have hby := Bd.bytes
  have hml : c.maxLocals = 8 := hml0
  have hown : s.vm.findClass "com/example/xixi/xixi/remoting/RemotingCommand" = some m.cls := findClass_of_methodNamed Bd.named
  have hnm := (name_of_methodNamed Bd.named Bd.method).1
  have hlk : meth.locks = false := Bd.notSynchronized
  have hret := Bd.returns
  have X0 : Stand p l e ({ frames := 1, cells := 0, slots := 0, locals := 12 } : Room) s m #[(.ref a), (.int p0), (.int p1), (.int p2), (.int p3), .null, .null, .null] below meth c s₁ [] 0 0 := Stand.of_body Bd
  have e0 : s₁.heap = h0 := by rw [← hh, Bd.state]; rfl
  have N0 := Fr.nil n0
  have K0 : Keep h0 h0 [a] := Keep.refl _ _
  show Goes p e below s (Q_rm1 Z a p0 p1 p2 p3 h0 n0) ({ frames := 1, cells := 0, slots := 0, locals := 12 } : Room).cells ({ frames := 1, cells := 0, slots := 0, locals := 12 } : Room).slots _
  refine Goes.go (fun t k => castTop (ef_rm1 m a p0 p1 p2 p3) k) ?_
  show Goes _ _ _ _ _ _ _ (s₁.setTop (mkF m 0 #[.val (.ref a), .val (.int p0), .val (.int p1), .val (.int p2), .val (.int p3), .val .null, .val .null, .val .null] []))
  refine Goes.go (fun _ k => XS.aloadN X0.here hx rfl (hb hby d1_0) rfl rfl k) ?_
  show Goes _ _ _ _ _ _ _ (s₁.setTop (mkF m 1 _ [(.ref a)]))
  obtain ⟨T1, X1, e1, st1⟩ := initO X0 hx hZ hown (hw _ (List.mem_of_getElem? (i := 6) rfl)) (hw _ (List.mem_of_getElem? (i := 7) rfl)) (hw _ (List.mem_of_getElem? (i := 8) rfl)) e0 (g := (mkF m 1 #[.val (.ref a), .val (.int p0), .val (.int p1), .val (.int p2), .val (.int p3), .val .null, .val .null, .val .null] [(.ref a)])) rfl (by rw [hml]; rfl) rfl (hb hby d1_1) (by decide) (W := 0) (by show 2 * 0 + _ ≤ _; exact Nat.le_of_eq rfl) (by decide)
  refine Goes.go (st1) ?_
  show Goes _ _ _ _ _ _ _ (T1.setTop (mkF m 4 _ []))
  refine Goes.go (fun _ k => XS.aloadN X1.here hx rfl (hb hby d1_4) rfl rfl k) ?_
  show Goes _ _ _ _ _ _ _ (T1.setTop (mkF m 5 _ [(.ref a)]))
  refine Goes.go (fun _ k => XS.iloadN X1.here hx rfl (hb hby d1_5) rfl k) ?_
  show Goes _ _ _ _ _ _ _ (T1.setTop (mkF m 6 _ [(.int p0), (.ref a)]))
  obtain ⟨T2, h2, X2, e2, W2, st2⟩ := putF X1 hx hZ hown (host := "") (Or.inl (hw _ (List.mem_of_getElem? (i := 9) rfl))) Via.refl e1 F_code E0 (Or.inr ⟨(hw _ (List.mem_of_getElem? (i := 10) rfl)), rfl, hnm⟩) (hw _ (List.mem_of_getElem? (i := 1) rfl)) (ty := .int) (by decide) rfl rfl (g := (mkF m 6 #[.val (.ref a), .val (.int p0), .val (.int p1), .val (.int p2), .val (.int p3), .val .null, .val .null, .val .null] [(.int p0), (.ref a)])) rfl rfl (hb hby d1_6)
  have N2 := Fr.snoc X2 N0 ga
  have f := Exa.wr W2 E0
  have f_1 := Fld.other W2 F_version (Or.inr (slot_ne (Or.inr (hw _ (List.mem_of_getElem? (i := 12) rfl))) (Or.inr (hw _ (List.mem_of_getElem? (i := 10) rfl))) (by decide) (t := .int) (t' := .int) (by decide) (by decide)))
  have f_2 := Fld.other W2 F_opaque (Or.inr (slot_ne (Or.inr (hw _ (List.mem_of_getElem? (i := 14) rfl))) (Or.inr (hw _ (List.mem_of_getElem? (i := 10) rfl))) (by decide) (t := .int) (t' := .int) (by decide) (by decide)))
  have f_3 := Fld.other W2 F_flag (Or.inr (slot_ne (Or.inr (hw _ (List.mem_of_getElem? (i := 16) rfl))) (Or.inr (hw _ (List.mem_of_getElem? (i := 10) rfl))) (by decide) (t := .int) (t' := .int) (by decide) (by decide)))
  have f_4 := Fld.other W2 F_remark (Or.inr (slot_ne (Or.inr (hw _ (List.mem_of_getElem? (i := 18) rfl))) (Or.inr (hw _ (List.mem_of_getElem? (i := 10) rfl))) (by decide) (t := (.object "java/lang/String")) (t' := .int) (by decide) (by decide)))
  have f_5 := Fld.other W2 F_extFields (Or.inr (slot_ne (Or.inr (hw _ (List.mem_of_getElem? (i := 20) rfl))) (Or.inr (hw _ (List.mem_of_getElem? (i := 10) rfl))) (by decide) (t := (.object "java/util/Map")) (t' := .int) (by decide) (by decide)))
  have f_6 := Fld.other W2 F_body (Or.inr (slot_ne (Or.inr (hw _ (List.mem_of_getElem? (i := 22) rfl))) (Or.inr (hw _ (List.mem_of_getElem? (i := 10) rfl))) (by decide) (t := (.array .byte)) (t' := .int) (by decide) (by decide)))
  have f_7 := Fld.same W2 F_code
  have Z2 : n0 ≤ h2.size := by rw [W2.size]; exact Z0
  have K2 := K0.wr W2 (Or.inl (List.mem_of_getElem? (i := 0) rfl))
  refine Goes.go (st2) ?_
  show Goes _ _ _ _ _ _ _ (T2.setTop (mkF m 9 _ []))
  refine Goes.go (fun _ k => XS.aloadN X2.here hx rfl (hb hby d1_9) rfl rfl k) ?_
  show Goes _ _ _ _ _ _ _ (T2.setTop (mkF m 10 _ [(.ref a)]))
  refine Goes.go (fun _ k => XS.iloadN X2.here hx rfl (hb hby d1_10) rfl k) ?_
  show Goes _ _ _ _ _ _ _ (T2.setTop (mkF m 11 _ [(.int p1), (.ref a)]))
  obtain ⟨T3, h3, X3, e3, W3, st3⟩ := putF X2 hx hZ hown (host := "") (Or.inl (hw _ (List.mem_of_getElem? (i := 11) rfl))) Via.refl e2 f_1 f (Or.inr ⟨(hw _ (List.mem_of_getElem? (i := 12) rfl)), rfl, hnm⟩) (hw _ (List.mem_of_getElem? (i := 1) rfl)) (ty := .int) (by decide) rfl rfl (g := (mkF m 11 #[.val (.ref a), .val (.int p0), .val (.int p1), .val (.int p2), .val (.int p3), .val .null, .val .null, .val .null] [(.int p1), (.ref a)])) rfl rfl (hb hby d1_11)
  have N3 := Fr.snoc X3 N2 ga
  have f_8 := Exa.wr W3 f
  have f_9 := Fld.other W3 f_7 (Or.inr (slot_ne (Or.inr (hw _ (List.mem_of_getElem? (i := 10) rfl))) (Or.inr (hw _ (List.mem_of_getElem? (i := 12) rfl))) (by decide) (t := .int) (t' := .int) (by decide) (by decide)))
  have f_10 := Fld.other W3 f_2 (Or.inr (slot_ne (Or.inr (hw _ (List.mem_of_getElem? (i := 14) rfl))) (Or.inr (hw _ (List.mem_of_getElem? (i := 12) rfl))) (by decide) (t := .int) (t' := .int) (by decide) (by decide)))
  have f_11 := Fld.other W3 f_3 (Or.inr (slot_ne (Or.inr (hw _ (List.mem_of_getElem? (i := 16) rfl))) (Or.inr (hw _ (List.mem_of_getElem? (i := 12) rfl))) (by decide) (t := .int) (t' := .int) (by decide) (by decide)))
  have f_12 := Fld.other W3 f_4 (Or.inr (slot_ne (Or.inr (hw _ (List.mem_of_getElem? (i := 18) rfl))) (Or.inr (hw _ (List.mem_of_getElem? (i := 12) rfl))) (by decide) (t := (.object "java/lang/String")) (t' := .int) (by decide) (by decide)))
  have f_13 := Fld.other W3 f_5 (Or.inr (slot_ne (Or.inr (hw _ (List.mem_of_getElem? (i := 20) rfl))) (Or.inr (hw _ (List.mem_of_getElem? (i := 12) rfl))) (by decide) (t := (.object "java/util/Map")) (t' := .int) (by decide) (by decide)))
  have f_14 := Fld.other W3 f_6 (Or.inr (slot_ne (Or.inr (hw _ (List.mem_of_getElem? (i := 22) rfl))) (Or.inr (hw _ (List.mem_of_getElem? (i := 12) rfl))) (by decide) (t := (.array .byte)) (t' := .int) (by decide) (by decide)))
  have f_15 := Fld.same W3 f_1
  have Z3 : n0 ≤ h3.size := by rw [W3.size]; exact Z2
  have K3 := K2.wr W3 (Or.inl (List.mem_of_getElem? (i := 0) rfl))
  refine Goes.go (st3) ?_
  show Goes _ _ _ _ _ _ _ (T3.setTop (mkF m 14 _ []))
  refine Goes.go (fun _ k => XS.aloadN X3.here hx rfl (hb hby d1_14) rfl rfl k) ?_
  show Goes _ _ _ _ _ _ _ (T3.setTop (mkF m 15 _ [(.ref a)]))
  refine Goes.go (fun _ k => XS.iloadN X3.here hx rfl (hb hby d1_15) rfl k) ?_
  show Goes _ _ _ _ _ _ _ (T3.setTop (mkF m 16 _ [(.int p2), (.ref a)]))
  obtain ⟨T4, h4, X4, e4, W4, st4⟩ := putF X3 hx hZ hown (host := "") (Or.inl (hw _ (List.mem_of_getElem? (i := 13) rfl))) Via.refl e3 f_10 f_8 (Or.inr ⟨(hw _ (List.mem_of_getElem? (i := 14) rfl)), rfl, hnm⟩) (hw _ (List.mem_of_getElem? (i := 1) rfl)) (ty := .int) (by decide) rfl rfl (g := (mkF m 16 #[.val (.ref a), .val (.int p0), .val (.int p1), .val (.int p2), .val (.int p3), .val .null, .val .null, .val .null] [(.int p2), (.ref a)])) rfl rfl (hb hby d1_16)
  have N4 := Fr.snoc X4 N3 ga
  have f_16 := Exa.wr W4 f_8
  have f_17 := Fld.other W4 f_9 (Or.inr (slot_ne (Or.inr (hw _ (List.mem_of_getElem? (i := 10) rfl))) (Or.inr (hw _ (List.mem_of_getElem? (i := 14) rfl))) (by decide) (t := .int) (t' := .int) (by decide) (by decide)))
  have f_18 := Fld.other W4 f_15 (Or.inr (slot_ne (Or.inr (hw _ (List.mem_of_getElem? (i := 12) rfl))) (Or.inr (hw _ (List.mem_of_getElem? (i := 14) rfl))) (by decide) (t := .int) (t' := .int) (by decide) (by decide)))
  have f_19 := Fld.other W4 f_11 (Or.inr (slot_ne (Or.inr (hw _ (List.mem_of_getElem? (i := 16) rfl))) (Or.inr (hw _ (List.mem_of_getElem? (i := 14) rfl))) (by decide) (t := .int) (t' := .int) (by decide) (by decide)))
  have f_20 := Fld.other W4 f_12 (Or.inr (slot_ne (Or.inr (hw _ (List.mem_of_getElem? (i := 18) rfl))) (Or.inr (hw _ (List.mem_of_getElem? (i := 14) rfl))) (by decide) (t := (.object "java/lang/String")) (t' := .int) (by decide) (by decide)))
  have f_21 := Fld.other W4 f_13 (Or.inr (slot_ne (Or.inr (hw _ (List.mem_of_getElem? (i := 20) rfl))) (Or.inr (hw _ (List.mem_of_getElem? (i := 14) rfl))) (by decide) (t := (.object "java/util/Map")) (t' := .int) (by decide) (by decide)))
  have f_22 := Fld.other W4 f_14 (Or.inr (slot_ne (Or.inr (hw _ (List.mem_of_getElem? (i := 22) rfl))) (Or.inr (hw _ (List.mem_of_getElem? (i := 14) rfl))) (by decide) (t := (.array .byte)) (t' := .int) (by decide) (by decide)))
  have f_23 := Fld.same W4 f_10
  have Z4 : n0 ≤ h4.size := by rw [W4.size]; exact Z3
  have K4 := K3.wr W4 (Or.inl (List.mem_of_getElem? (i := 0) rfl))
  refine Goes.go (st4) ?_
  show Goes _ _ _ _ _ _ _ (T4.setTop (mkF m 19 _ []))
  refine Goes.go (fun _ k => XS.aloadN X4.here hx rfl (hb hby d1_19) rfl rfl k) ?_
  show Goes _ _ _ _ _ _ _ (T4.setTop (mkF m 20 _ [(.ref a)]))
  refine Goes.go (fun _ k => XS.iload X4.here hx rfl (hb hby d1_20) rfl k) ?_
  show Goes _ _ _ _ _ _ _ (T4.setTop (mkF m 22 _ [(.int p3), (.ref a)]))
  obtain ⟨T5, h5, X5, e5, W5, st5⟩ := putF X4 hx hZ hown (host := "") (Or.inl (hw _ (List.mem_of_getElem? (i := 15) rfl))) Via.refl e4 f_19 f_16 (Or.inr ⟨(hw _ (List.mem_of_getElem? (i := 16) rfl)), rfl, hnm⟩) (hw _ (List.mem_of_getElem? (i := 1) rfl)) (ty := .int) (by decide) rfl rfl (g := (mkF m 22 #[.val (.ref a), .val (.int p0), .val (.int p1), .val (.int p2), .val (.int p3), .val .null, .val .null, .val .null] [(.int p3), (.ref a)])) rfl rfl (hb hby d1_22)
  have N5 := Fr.snoc X5 N4 ga
  have f_24 := Exa.wr W5 f_16
  have f_25 := Fld.other W5 f_17 (Or.inr (slot_ne (Or.inr (hw _ (List.mem_of_getElem? (i := 10) rfl))) (Or.inr (hw _ (List.mem_of_getElem? (i := 16) rfl))) (by decide) (t := .int) (t' := .int) (by decide) (by decide)))
  have f_26 := Fld.other W5 f_18 (Or.inr (slot_ne (Or.inr (hw _ (List.mem_of_getElem? (i := 12) rfl))) (Or.inr (hw _ (List.mem_of_getElem? (i := 16) rfl))) (by decide) (t := .int) (t' := .int) (by decide) (by decide)))
  have f_27 := Fld.other W5 f_23 (Or.inr (slot_ne (Or.inr (hw _ (List.mem_of_getElem? (i := 14) rfl))) (Or.inr (hw _ (List.mem_of_getElem? (i := 16) rfl))) (by decide) (t := .int) (t' := .int) (by decide) (by decide)))
  have f_28 := Fld.other W5 f_20 (Or.inr (slot_ne (Or.inr (hw _ (List.mem_of_getElem? (i := 18) rfl))) (Or.inr (hw _ (List.mem_of_getElem? (i := 16) rfl))) (by decide) (t := (.object "java/lang/String")) (t' := .int) (by decide) (by decide)))
  have f_29 := Fld.other W5 f_21 (Or.inr (slot_ne (Or.inr (hw _ (List.mem_of_getElem? (i := 20) rfl))) (Or.inr (hw _ (List.mem_of_getElem? (i := 16) rfl))) (by decide) (t := (.object "java/util/Map")) (t' := .int) (by decide) (by decide)))
  have f_30 := Fld.other W5 f_22 (Or.inr (slot_ne (Or.inr (hw _ (List.mem_of_getElem? (i := 22) rfl))) (Or.inr (hw _ (List.mem_of_getElem? (i := 16) rfl))) (by decide) (t := (.array .byte)) (t' := .int) (by decide) (by decide)))
  have f_31 := Fld.same W5 f_19
  have Z5 : n0 ≤ h5.size := by rw [W5.size]; exact Z4
  have K5 := K4.wr W5 (Or.inl (List.mem_of_getElem? (i := 0) rfl))
  refine Goes.go (st5) ?_
  show Goes _ _ _ _ _ _ _ (T5.setTop (mkF m 25 _ []))
  refine Goes.go (fun _ k => XS.aloadN X5.here hx rfl (hb hby d1_25) rfl rfl k) ?_
  show Goes _ _ _ _ _ _ _ (T5.setTop (mkF m 26 _ [(.ref a)]))
  refine Goes.go (fun _ k => XS.aload X5.here hx rfl (hb hby d1_26) rfl rfl k) ?_
  show Goes _ _ _ _ _ _ _ (T5.setTop (mkF m 28 _ [.null, (.ref a)]))
  obtain ⟨T6, h6, X6, e6, W6, st6⟩ := putF X5 hx hZ hown (host := "") (Or.inl (hw _ (List.mem_of_getElem? (i := 17) rfl))) Via.refl e5 f_28 f_24 (Or.inr ⟨(hw _ (List.mem_of_getElem? (i := 18) rfl)), rfl, hnm⟩) (hw _ (List.mem_of_getElem? (i := 1) rfl)) (ty := (.object "java/lang/String")) (by decide) rfl rfl (g := (mkF m 28 #[.val (.ref a), .val (.int p0), .val (.int p1), .val (.int p2), .val (.int p3), .val .null, .val .null, .val .null] [.null, (.ref a)])) rfl rfl (hb hby d1_28)
  have N6 := Fr.snoc X6 N5 ga
  have f_32 := Exa.wr W6 f_24
  have f_33 := Fld.other W6 f_25 (Or.inr (slot_ne (Or.inr (hw _ (List.mem_of_getElem? (i := 10) rfl))) (Or.inr (hw _ (List.mem_of_getElem? (i := 18) rfl))) (by decide) (t := .int) (t' := (.object "java/lang/String")) (by decide) (by decide)))
  have f_34 := Fld.other W6 f_26 (Or.inr (slot_ne (Or.inr (hw _ (List.mem_of_getElem? (i := 12) rfl))) (Or.inr (hw _ (List.mem_of_getElem? (i := 18) rfl))) (by decide) (t := .int) (t' := (.object "java/lang/String")) (by decide) (by decide)))
  have f_35 := Fld.other W6 f_27 (Or.inr (slot_ne (Or.inr (hw _ (List.mem_of_getElem? (i := 14) rfl))) (Or.inr (hw _ (List.mem_of_getElem? (i := 18) rfl))) (by decide) (t := .int) (t' := (.object "java/lang/String")) (by decide) (by decide)))
  have f_36 := Fld.other W6 f_31 (Or.inr (slot_ne (Or.inr (hw _ (List.mem_of_getElem? (i := 16) rfl))) (Or.inr (hw _ (List.mem_of_getElem? (i := 18) rfl))) (by decide) (t := .int) (t' := (.object "java/lang/String")) (by decide) (by decide)))
  have f_37 := Fld.other W6 f_29 (Or.inr (slot_ne (Or.inr (hw _ (List.mem_of_getElem? (i := 20) rfl))) (Or.inr (hw _ (List.mem_of_getElem? (i := 18) rfl))) (by decide) (t := (.object "java/util/Map")) (t' := (.object "java/lang/String")) (by decide) (by decide)))
  have f_38 := Fld.other W6 f_30 (Or.inr (slot_ne (Or.inr (hw _ (List.mem_of_getElem? (i := 22) rfl))) (Or.inr (hw _ (List.mem_of_getElem? (i := 18) rfl))) (by decide) (t := (.array .byte)) (t' := (.object "java/lang/String")) (by decide) (by decide)))
  have f_39 := Fld.same W6 f_28
  have Z6 : n0 ≤ h6.size := by rw [W6.size]; exact Z5
  have K6 := K5.wr W6 (Or.inl (List.mem_of_getElem? (i := 0) rfl))
  refine Goes.go (st6) ?_
  show Goes _ _ _ _ _ _ _ (T6.setTop (mkF m 31 _ []))
  refine Goes.go (fun _ k => XS.aloadN X6.here hx rfl (hb hby d1_31) rfl rfl k) ?_
  show Goes _ _ _ _ _ _ _ (T6.setTop (mkF m 32 _ [(.ref a)]))
  refine Goes.go (fun _ k => XS.aload X6.here hx rfl (hb hby d1_32) rfl rfl k) ?_
  show Goes _ _ _ _ _ _ _ (T6.setTop (mkF m 34 _ [.null, (.ref a)]))
  obtain ⟨T7, h7, X7, e7, W7, st7⟩ := putF X6 hx hZ hown (host := "") (Or.inl (hw _ (List.mem_of_getElem? (i := 19) rfl))) Via.refl e6 f_37 f_32 (Or.inr ⟨(hw _ (List.mem_of_getElem? (i := 20) rfl)), rfl, hnm⟩) (hw _ (List.mem_of_getElem? (i := 1) rfl)) (ty := (.object "java/util/Map")) (by decide) rfl rfl (g := (mkF m 34 #[.val (.ref a), .val (.int p0), .val (.int p1), .val (.int p2), .val (.int p3), .val .null, .val .null, .val .null] [.null, (.ref a)])) rfl rfl (hb hby d1_34)
  have N7 := Fr.snoc X7 N6 ga
  have f_40 := Exa.wr W7 f_32
  have f_41 := Fld.other W7 f_33 (Or.inr (slot_ne (Or.inr (hw _ (List.mem_of_getElem? (i := 10) rfl))) (Or.inr (hw _ (List.mem_of_getElem? (i := 20) rfl))) (by decide) (t := .int) (t' := (.object "java/util/Map")) (by decide) (by decide)))
  have f_42 := Fld.other W7 f_34 (Or.inr (slot_ne (Or.inr (hw _ (List.mem_of_getElem? (i := 12) rfl))) (Or.inr (hw _ (List.mem_of_getElem? (i := 20) rfl))) (by decide) (t := .int) (t' := (.object "java/util/Map")) (by decide) (by decide)))
  have f_43 := Fld.other W7 f_35 (Or.inr (slot_ne (Or.inr (hw _ (List.mem_of_getElem? (i := 14) rfl))) (Or.inr (hw _ (List.mem_of_getElem? (i := 20) rfl))) (by decide) (t := .int) (t' := (.object "java/util/Map")) (by decide) (by decide)))
  have f_44 := Fld.other W7 f_36 (Or.inr (slot_ne (Or.inr (hw _ (List.mem_of_getElem? (i := 16) rfl))) (Or.inr (hw _ (List.mem_of_getElem? (i := 20) rfl))) (by decide) (t := .int) (t' := (.object "java/util/Map")) (by decide) (by decide)))
  have f_45 := Fld.other W7 f_39 (Or.inr (slot_ne (Or.inr (hw _ (List.mem_of_getElem? (i := 18) rfl))) (Or.inr (hw _ (List.mem_of_getElem? (i := 20) rfl))) (by decide) (t := (.object "java/lang/String")) (t' := (.object "java/util/Map")) (by decide) (by decide)))
  have f_46 := Fld.other W7 f_38 (Or.inr (slot_ne (Or.inr (hw _ (List.mem_of_getElem? (i := 22) rfl))) (Or.inr (hw _ (List.mem_of_getElem? (i := 20) rfl))) (by decide) (t := (.array .byte)) (t' := (.object "java/util/Map")) (by decide) (by decide)))
  have f_47 := Fld.same W7 f_37
  have Z7 : n0 ≤ h7.size := by rw [W7.size]; exact Z6
  have K7 := K6.wr W7 (Or.inl (List.mem_of_getElem? (i := 0) rfl))
  refine Goes.go (st7) ?_
  show Goes _ _ _ _ _ _ _ (T7.setTop (mkF m 37 _ []))
  refine Goes.go (fun _ k => XS.aloadN X7.here hx rfl (hb hby d1_37) rfl rfl k) ?_
  show Goes _ _ _ _ _ _ _ (T7.setTop (mkF m 38 _ [(.ref a)]))
  refine Goes.go (fun _ k => XS.aload X7.here hx rfl (hb hby d1_38) rfl rfl k) ?_
  show Goes _ _ _ _ _ _ _ (T7.setTop (mkF m 40 _ [.null, (.ref a)]))
  obtain ⟨T8, h8, X8, e8, W8, st8⟩ := putF X7 hx hZ hown (host := "") (Or.inl (hw _ (List.mem_of_getElem? (i := 21) rfl))) Via.refl e7 f_46 f_40 (Or.inr ⟨(hw _ (List.mem_of_getElem? (i := 22) rfl)), rfl, hnm⟩) (hw _ (List.mem_of_getElem? (i := 1) rfl)) (ty := (.array .byte)) (by decide) rfl rfl (g := (mkF m 40 #[.val (.ref a), .val (.int p0), .val (.int p1), .val (.int p2), .val (.int p3), .val .null, .val .null, .val .null] [.null, (.ref a)])) rfl rfl (hb hby d1_40)
  have N8 := Fr.snoc X8 N7 ga
  have f_48 := Exa.wr W8 f_40
  have f_49 := Fld.other W8 f_41 (Or.inr (slot_ne (Or.inr (hw _ (List.mem_of_getElem? (i := 10) rfl))) (Or.inr (hw _ (List.mem_of_getElem? (i := 22) rfl))) (by decide) (t := .int) (t' := (.array .byte)) (by decide) (by decide)))
  have f_50 := Fld.other W8 f_42 (Or.inr (slot_ne (Or.inr (hw _ (List.mem_of_getElem? (i := 12) rfl))) (Or.inr (hw _ (List.mem_of_getElem? (i := 22) rfl))) (by decide) (t := .int) (t' := (.array .byte)) (by decide) (by decide)))
  have f_51 := Fld.other W8 f_43 (Or.inr (slot_ne (Or.inr (hw _ (List.mem_of_getElem? (i := 14) rfl))) (Or.inr (hw _ (List.mem_of_getElem? (i := 22) rfl))) (by decide) (t := .int) (t' := (.array .byte)) (by decide) (by decide)))
  have f_52 := Fld.other W8 f_44 (Or.inr (slot_ne (Or.inr (hw _ (List.mem_of_getElem? (i := 16) rfl))) (Or.inr (hw _ (List.mem_of_getElem? (i := 22) rfl))) (by decide) (t := .int) (t' := (.array .byte)) (by decide) (by decide)))
  have f_53 := Fld.other W8 f_45 (Or.inr (slot_ne (Or.inr (hw _ (List.mem_of_getElem? (i := 18) rfl))) (Or.inr (hw _ (List.mem_of_getElem? (i := 22) rfl))) (by decide) (t := (.object "java/lang/String")) (t' := (.array .byte)) (by decide) (by decide)))
  have f_54 := Fld.other W8 f_47 (Or.inr (slot_ne (Or.inr (hw _ (List.mem_of_getElem? (i := 20) rfl))) (Or.inr (hw _ (List.mem_of_getElem? (i := 22) rfl))) (by decide) (t := (.object "java/util/Map")) (t' := (.array .byte)) (by decide) (by decide)))
  have f_55 := Fld.same W8 f_46
  have Z8 : n0 ≤ h8.size := by rw [W8.size]; exact Z7
  have K8 := K7.wr W8 (Or.inl (List.mem_of_getElem? (i := 0) rfl))
  refine Goes.go (st8) ?_
  show Goes _ _ _ _ _ _ _ (T8.setTop (mkF m 43 _ []))
  exact Goes.outV X8 hx hlk hret (hb hby d1_43) e8 ⟨rfl, N8, K8, f_48, f_49, f_50, f_51, f_52, f_53, f_54, f_55⟩ (by decide) (by decide)
theorem d4_0 : decode prog_2_method_13_code 0 = .ok (.aload_n 0, 1) := by decide +kernel
theorem d4_1 : decode prog_2_method_13_code 1 = .ok (.getfield 19, 3) := by decide +kernel
theorem d4_4 : decode prog_2_method_13_code 4 = .ok (.iconst 1, 1) := by decide +kernel
theorem d4_5 : decode prog_2_method_13_code 5 = .ok (.iand, 1) := by decide +kernel
theorem d4_6 : decode prog_2_method_13_code 6 = .ok (.ifCond .eq 7, 3) := by decide +kernel
theorem d4_9 : decode prog_2_method_13_code 9 = .ok (.iconst 1, 1) := by decide +kernel
theorem d4_10 : decode prog_2_method_13_code 10 = .ok (.goto 4, 3) := by decide +kernel
theorem d4_13 : decode prog_2_method_13_code 13 = .ok (.iconst 0, 1) := by decide +kernel
theorem d4_14 : decode prog_2_method_13_code 14 = .ok (.ireturn, 1) := by decide +kernel
theorem ef_rm3 (m : MethodId) (a : Addr) : entryFrame m #[(.ref a)] 1 = mkF m 0 #[.val (.ref a)] [] := by first | (simp [entryFrame, mkF, argsToLocals, Value.category]; done) | rfl
def Q_rm3 (Z : State) (a : Addr) (g : Int32) (h0 : Heap) (n0 : Nat) (v : Option Value) (h : Heap) (L : List Loc) : Prop := v = some (.int (rsF g)) ∧ Fr n0 L ∧ h = h0
set_option maxRecDepth 65536 in
set_option maxHeartbeats 40000000 in
theorem rm3 (l : Launch) (Z : State) (a0 : Array Value) (hw : ∀ d ∈ tables_1, d.before a0 Z = true) (ws : List Jvm.Cond) (a : Addr) (g : Int32) (h0 : Heap) (n0 : Nat) (Z0 : n0 ≤ h0.size) (F0 : Fld Z h0 a "com/example/xixi/xixi/remoting/RemotingCommand" "flag" "I" (.int g)) :
    MetFree l (⟨"com/example/xixi/xixi/remoting/RemotingCommand", "isResponse", "()Z"⟩ : MethodName) (head1 (Jvm.Cond.code (⟨"com/example/xixi/xixi/remoting/RemotingCommand", "isResponse", "()Z"⟩ : MethodName) prog_2_method_13_code 1 (some .boolean) :: ws) ({ frames := 0, cells := 0, slots := 0, locals := 0 } : Room)) (fun aa U => aa = #[(.ref a)] ∧ Z.Warmed39 U.vm ∧ U.heap = h0) (fun _ _ _ _ _ => True) (fun _ U o U' => ∃ v L, o = .returned v ∧ Q_rm3 Z a g h0 n0 v U'.heap L ∧ FrameEnd U o U' L ({ frames := 0, cells := 0, slots := 0, locals := 0 } : Room).cells ({ frames := 0, cells := 0, slots := 0, locals := 0 } : Room).slots) := by
  refine MetFree.of_bodySF (plainFor_of_name pn0) hisR ?_
  intro p e s m args below meth c s₁ Bd hml0 hP hK
  obtain ⟨rfl, hZ, hh⟩ := hP
  have hx := Bd.exec
  have hby := Bd.bytes
  have hml : c.maxLocals = 1 := hml0
  have hown : s.vm.findClass "com/example/xixi/xixi/remoting/RemotingCommand" = some m.cls := findClass_of_methodNamed Bd.named
  have hnm := (name_of_methodNamed Bd.named Bd.method).1
  have hlk : meth.locks = false := Bd.notSynchronized
  have hret := Bd.returns
  have X0 : Stand p l e ({ frames := 0, cells := 0, slots := 0, locals := 0 } : Room) s m #[(.ref a)] below meth c s₁ [] 0 0 := Stand.of_body Bd
  have e0 : s₁.heap = h0 := by rw [← hh, Bd.state]; rfl
  have N0 := Fr.nil n0
  have K0 : Keep h0 h0 [] := Keep.refl _ _
  show Goes p e below s (Q_rm3 Z a g h0 n0) ({ frames := 0, cells := 0, slots := 0, locals := 0 } : Room).cells ({ frames := 0, cells := 0, slots := 0, locals := 0 } : Room).slots _
  refine Goes.go (fun t k => castTop (ef_rm3 m a) k) ?_
  show Goes _ _ _ _ _ _ _ (s₁.setTop (mkF m 0 #[.val (.ref a)] []))
  refine Goes.go (fun _ k => XS.aloadN X0.here hx rfl (hb hby d4_0) rfl rfl k) ?_
  show Goes _ _ _ _ _ _ _ (s₁.setTop (mkF m 1 _ [(.ref a)]))
  obtain ⟨T1, X1, e1, st1⟩ := getF X0 hx hZ hown (host := "") (Or.inl (hw _ (List.mem_of_getElem? (i := 15) rfl))) Via.refl e0 F0 (g := (mkF m 1 #[.val (.ref a)] [(.ref a)])) rfl rfl (hb hby d4_1)
  refine Goes.go (st1) ?_
  show Goes _ _ _ _ _ _ _ (T1.setTop (mkF m 4 _ [(.int g)]))
  refine Goes.go (fun _ k => XS.iconst X1.here hx rfl (hb hby d4_4) k) ?_
  show Goes _ _ _ _ _ _ _ (T1.setTop (mkF m 5 _ [(.int (1 : Int32)), (.int g)]))
  refine Goes.go (fun _ k => XS.iand X1.here hx rfl (hb hby d4_5) rfl k) ?_
  show Goes _ _ _ _ _ _ _ (T1.setTop (mkF m 6 _ [(.int (g &&& (1 : Int32)))]))
  by_cases c6 : (g &&& (1 : Int32)) = 0
  · skip
    refine Goes.go (fun _ k => XS.ifYes X1.here hx rfl (pc0 := 6) (pc' := 13) rfl (hb hby d4_6) rfl (XT.i0_eq_t c6) (by decide) (by decide) k) ?_
    show Goes _ _ _ _ _ _ _ (T1.setTop (mkF m 13 _ []))
    refine Goes.go (fun _ k => XS.iconst X1.here hx rfl (hb hby d4_13) k) ?_
    show Goes _ _ _ _ _ _ _ (T1.setTop (mkF m 14 _ [(.int (0 : Int32))]))
    exact Goes.outZ X1 hx hlk hret rfl (hb hby d4_14) e1 ⟨by simp [rsF, c6], N0, rfl⟩ (by decide) (by decide)
  · skip
    refine Goes.go (fun _ k => XS.ifNo X1.here hx rfl (hb hby d4_6) rfl (XT.i0_eq_f c6) k) ?_
    show Goes _ _ _ _ _ _ _ (T1.setTop (mkF m 9 _ []))
    refine Goes.go (fun _ k => XS.iconst X1.here hx rfl (hb hby d4_9) k) ?_
    show Goes _ _ _ _ _ _ _ (T1.setTop (mkF m 10 _ [(.int (1 : Int32))]))
    refine Goes.go (fun _ k => XS.goto X1.here hx rfl (pc0 := 10) (pc' := 14) rfl (hb hby d4_10) (by decide) (by decide) k) ?_
    show Goes _ _ _ _ _ _ _ (T1.setTop (mkF m 14 _ [(.int (1 : Int32))]))
    exact Goes.outZ X1 hx hlk hret rfl (hb hby d4_14) e1 ⟨by simp [rsF, c6], N0, rfl⟩ (by decide) (by decide)
theorem d3_0 : decode prog_2_method_14_code 0 = .ok (.aload_n 0, 1) := by decide +kernel
theorem d3_1 : decode prog_2_method_14_code 1 = .ok (.invokevirtual 57, 3) := by decide +kernel
theorem d3_4 : decode prog_2_method_14_code 4 = .ok (.ifCond .ne 16, 3) := by decide +kernel
theorem d3_7 : decode prog_2_method_14_code 7 = .ok (.aload_n 0, 1) := by decide +kernel
theorem d3_8 : decode prog_2_method_14_code 8 = .ok (.getfield 19, 3) := by decide +kernel
theorem d3_11 : decode prog_2_method_14_code 11 = .ok (.iconst 2, 1) := by decide +kernel
theorem d3_12 : decode prog_2_method_14_code 12 = .ok (.iand, 1) := by decide +kernel
theorem d3_13 : decode prog_2_method_14_code 13 = .ok (.ifCond .eq 7, 3) := by decide +kernel
theorem d3_16 : decode prog_2_method_14_code 16 = .ok (.iconst 1, 1) := by decide +kernel
theorem d3_17 : decode prog_2_method_14_code 17 = .ok (.goto 4, 3) := by decide +kernel
theorem d3_20 : decode prog_2_method_14_code 20 = .ok (.iconst 0, 1) := by decide +kernel
theorem d3_21 : decode prog_2_method_14_code 21 = .ok (.ireturn, 1) := by decide +kernel
theorem ef_rm2 (m : MethodId) (a : Addr) : entryFrame m #[(.ref a)] 1 = mkF m 0 #[.val (.ref a)] [] := by first | (simp [entryFrame, mkF, argsToLocals, Value.category]; done) | rfl
def Q_rm2 (Z : State) (a : Addr) (g : Int32) (h0 : Heap) (n0 : Nat) (v : Option Value) (h : Heap) (L : List Loc) : Prop := v = some (.int (owF g)) ∧ Fr n0 L ∧ h = h0
set_option maxRecDepth 65536 in
set_option maxHeartbeats 40000000 in
theorem rm2 (l : Launch) (Z : State) (a0 : Array Value) (hw : ∀ d ∈ tables_1, d.before a0 Z = true) (ws : List Jvm.Cond) (a : Addr) (g : Int32) (h0 : Heap) (n0 : Nat) (Z0 : n0 ≤ h0.size) (F0 : Fld Z h0 a "com/example/xixi/xixi/remoting/RemotingCommand" "flag" "I" (.int g)) (E0 : Exa Z h0 a "com/example/xixi/xixi/remoting/RemotingCommand") :
    MetFree l (⟨"com/example/xixi/xixi/remoting/RemotingCommand", "isOneWay", "()Z"⟩ : MethodName) (head1 (Jvm.Cond.code (⟨"com/example/xixi/xixi/remoting/RemotingCommand", "isOneWay", "()Z"⟩ : MethodName) prog_2_method_14_code 1 (some .boolean) :: ws) ({ frames := 1, cells := 0, slots := 0, locals := 12 } : Room)) (fun aa U => aa = #[(.ref a)] ∧ Z.Warmed39 U.vm ∧ U.heap = h0) (fun _ _ _ _ _ => True) (fun _ U o U' => ∃ v L, o = .returned v ∧ Q_rm2 Z a g h0 n0 v U'.heap L ∧ FrameEnd U o U' L ({ frames := 1, cells := 0, slots := 0, locals := 12 } : Room).cells ({ frames := 1, cells := 0, slots := 0, locals := 12 } : Room).slots) := by
  refine MetFree.of_bodySF (plainFor_of_name pn0) hisR ?_
  intro p e s m args below meth c s₁ Bd hml0 hP hK
  obtain ⟨rfl, hZ, hh⟩ := hP
  have hx := Bd.exec
  have hby := Bd.bytes
  have hml : c.maxLocals = 1 := hml0
  have hown : s.vm.findClass "com/example/xixi/xixi/remoting/RemotingCommand" = some m.cls := findClass_of_methodNamed Bd.named
  have hnm := (name_of_methodNamed Bd.named Bd.method).1
  have hlk : meth.locks = false := Bd.notSynchronized
  have hret := Bd.returns
  have X0 : Stand p l e ({ frames := 1, cells := 0, slots := 0, locals := 12 } : Room) s m #[(.ref a)] below meth c s₁ [] 0 0 := Stand.of_body Bd
  have e0 : s₁.heap = h0 := by rw [← hh, Bd.state]; rfl
  have N0 := Fr.nil n0
  have K0 : Keep h0 h0 [] := Keep.refl _ _
  show Goes p e below s (Q_rm2 Z a g h0 n0) ({ frames := 1, cells := 0, slots := 0, locals := 12 } : Room).cells ({ frames := 1, cells := 0, slots := 0, locals := 12 } : Room).slots _
  refine Goes.go (fun t k => castTop (ef_rm2 m a) k) ?_
  show Goes _ _ _ _ _ _ _ (s₁.setTop (mkF m 0 #[.val (.ref a)] []))
  refine Goes.go (fun _ k => XS.aloadN X0.here hx rfl (hb hby d3_0) rfl rfl k) ?_
  show Goes _ _ _ _ _ _ _ (s₁.setTop (mkF m 1 _ [(.ref a)]))
  obtain ⟨cq1, kq1, qa1, qb1, qc1⟩ := isOf hZ e0 E0
  obtain ⟨_, _, ⟨T1, L1, k1, n1⟩, -, X1, ⟨Lc1, hQ1, l1, y1, z1⟩, st1⟩ := X0.virtualBack hx (y := (⟨"com/example/xixi/xixi/remoting/RemotingCommand", "isResponse", "()Z"⟩ : MethodName)) (z := (⟨"com/example/xixi/xixi/remoting/RemotingCommand", "isResponse", "()Z"⟩ : MethodName)) hown (mvT hZ (hw _ (List.mem_of_getElem? (i := 28) rfl))) (mvT hZ (hw _ (List.mem_of_getElem? (i := 29) rfl))) (notFace_of_selects (args := #[]) (mvT hZ (hw _ (List.mem_of_getElem? (i := 31) rfl)))) (mvT hZ (hw _ (List.mem_of_getElem? (i := 31) rfl))) (mvT hZ (hw _ (List.mem_of_getElem? (i := 30) rfl))) (by decide) (backOf (W := 0) (rm3 l Z a0 hw [] a g h0 n0 Z0 F0) hZ (hw _ (List.mem_of_getElem? (i := 32) rfl)) (hw _ (List.mem_of_getElem? (i := 2) rfl)) (by decide) (by decide)) qa1 qc1 (g := (mkF m 1 #[.val (.ref a)] [(.ref a)])) rfl (by rw [hml]; rfl) (Steps.refl _) (argsL := []) (rest := []) (lenOf pd2 rfl) rfl (by show 2 * 0 + _ ≤ _; exact Nat.le_of_eq rfl) (hb hby d3_1) (fun _ _ => ⟨rfl, e0, (by decide : 0 + 0 ≤ _), (by decide : 0 + 0 ≤ _)⟩)
  dsimp only [Pt.U, Pt.locs, Pt.cells, Pt.slots] at X1 l1 y1 z1 st1 hQ1
  subst l1 y1 z1
  obtain ⟨rfl, Nq1, hh1⟩ := hQ1
  have N1 := Fr.app N0 Nq1
  refine Goes.go (fun _ k => st1.trans k) ?_
  show Goes _ _ _ _ _ _ _ (T1.setTop (mkF m 4 _ [(.int (rsF g))]))
  by_cases c4 : (rsF g) = 0
  · skip
    refine Goes.go (fun _ k => XS.ifNo X1.here hx rfl (hb hby d3_4) rfl (XT.i0_ne_f c4) k) ?_
    show Goes _ _ _ _ _ _ _ (T1.setTop (mkF m 7 _ []))
    refine Goes.go (fun _ k => XS.aloadN X1.here hx rfl (hb hby d3_7) rfl rfl k) ?_
    show Goes _ _ _ _ _ _ _ (T1.setTop (mkF m 8 _ [(.ref a)]))
    obtain ⟨T2, X2, e2, st2⟩ := getF X1 hx hZ hown (host := "") (Or.inl (hw _ (List.mem_of_getElem? (i := 15) rfl))) Via.refl hh1 F0 (g := (mkF m 8 #[.val (.ref a)] [(.ref a)])) rfl rfl (hb hby d3_8)
    refine Goes.go (st2) ?_
    show Goes _ _ _ _ _ _ _ (T2.setTop (mkF m 11 _ [(.int g)]))
    refine Goes.go (fun _ k => XS.iconst X2.here hx rfl (hb hby d3_11) k) ?_
    show Goes _ _ _ _ _ _ _ (T2.setTop (mkF m 12 _ [(.int (2 : Int32)), (.int g)]))
    refine Goes.go (fun _ k => XS.iand X2.here hx rfl (hb hby d3_12) rfl k) ?_
    show Goes _ _ _ _ _ _ _ (T2.setTop (mkF m 13 _ [(.int (g &&& (2 : Int32)))]))
    by_cases c13 : (g &&& (2 : Int32)) = 0
    · skip
      refine Goes.go (fun _ k => XS.ifYes X2.here hx rfl (pc0 := 13) (pc' := 20) rfl (hb hby d3_13) rfl (XT.i0_eq_t c13) (by decide) (by decide) k) ?_
      show Goes _ _ _ _ _ _ _ (T2.setTop (mkF m 20 _ []))
      refine Goes.go (fun _ k => XS.iconst X2.here hx rfl (hb hby d3_20) k) ?_
      show Goes _ _ _ _ _ _ _ (T2.setTop (mkF m 21 _ [(.int (0 : Int32))]))
      exact Goes.outZ X2 hx hlk hret rfl (hb hby d3_21) e2 ⟨by simp [owF, c4, c13], N1, rfl⟩ (by decide) (by decide)
    · skip
      refine Goes.go (fun _ k => XS.ifNo X2.here hx rfl (hb hby d3_13) rfl (XT.i0_eq_f c13) k) ?_
      show Goes _ _ _ _ _ _ _ (T2.setTop (mkF m 16 _ []))
      refine Goes.go (fun _ k => XS.iconst X2.here hx rfl (hb hby d3_16) k) ?_
      show Goes _ _ _ _ _ _ _ (T2.setTop (mkF m 17 _ [(.int (1 : Int32))]))
      refine Goes.go (fun _ k => XS.goto X2.here hx rfl (pc0 := 17) (pc' := 21) rfl (hb hby d3_17) (by decide) (by decide) k) ?_
      show Goes _ _ _ _ _ _ _ (T2.setTop (mkF m 21 _ [(.int (1 : Int32))]))
      exact Goes.outZ X2 hx hlk hret rfl (hb hby d3_21) e2 ⟨by simp [owF, c4, c13], N1, rfl⟩ (by decide) (by decide)
  · skip
    refine Goes.go (fun _ k => XS.ifYes X1.here hx rfl (pc0 := 4) (pc' := 20) rfl (hb hby d3_4) rfl (XT.i0_ne_t c4) (by decide) (by decide) k) ?_
    show Goes _ _ _ _ _ _ _ (T1.setTop (mkF m 20 _ []))
    refine Goes.go (fun _ k => XS.iconst X1.here hx rfl (hb hby d3_20) k) ?_
    show Goes _ _ _ _ _ _ _ (T1.setTop (mkF m 21 _ [(.int (0 : Int32))]))
    exact Goes.outZ X1 hx hlk hret rfl (hb hby d3_21) hh1 ⟨by simp [owF, c4], N1, rfl⟩ (by decide) (by decide)
theorem pn1 : plainName "com/example/xixi/xixi/remoting/RemotingCommandIsOneWayPinLaw" = true := by first | (simp [plainName, overriddenIn]; done) | decide +kernel
theorem ef_rm0 (m : MethodId) (p0 : Int32) (p1 : Int32) (p2 : Int32) (p3 : Int32) : entryFrame m #[(.int p0), (.int p1), (.int p2), (.int p3)] maxLocals = mkF m 0 #[.val (.int p0), .val (.int p1), .val (.int p2), .val (.int p3), .unset, .unset, .unset] [] := by first | (simp [entryFrame, mkF, argsToLocals, Value.category, maxLocals]; done) | rfl
def Q_rm0 (Z : State) (p0 : Int32) (p1 : Int32) (p2 : Int32) (p3 : Int32) (h0 : Heap) (n0 : Nat) (v : Option Value) (h : Heap) (L : List Loc) : Prop := v = some (.int 1) ∧ Fr n0 L
set_option maxRecDepth 65536 in
set_option maxHeartbeats 40000000 in
theorem rm0 (l : Launch) (Z : State) (a0 : Array Value) (hw : ∀ d ∈ tables_1, d.before a0 Z = true) (ws : List Jvm.Cond) (p0 : Int32) (p1 : Int32) (p2 : Int32) (p3 : Int32) (h0 : Heap) (n0 : Nat) (Z0 : n0 ≤ h0.size)  :
    MetFree l x (head1 (Jvm.Cond.code x code maxLocals ret :: ws) room_1) (fun aa U => aa = #[(.int p0), (.int p1), (.int p2), (.int p3)] ∧ Z.Warmed39 U.vm ∧ U.heap = h0) (fun _ _ _ _ _ => True) (fun _ U o U' => ∃ v L, o = .returned v ∧ Q_rm0 Z p0 p1 p2 p3 h0 n0 v U'.heap L ∧ FrameEnd U o U' L room_1.cells room_1.slots) := by
  refine MetFree.of_bodySF (plainFor_of_name pn1) hisR ?_
  intro p e s m args below meth c s₁ Bd hml0 hP hK
  obtain ⟨rfl, hZ, hh⟩ := hP
  have hx := Bd.exec
  have hby := Bd.bytes
  have hml : c.maxLocals = 7 := hml0
  have hown : s.vm.findClass "com/example/xixi/xixi/remoting/RemotingCommandIsOneWayPinLaw" = some m.cls := findClass_of_methodNamed Bd.named
  have hnm := (name_of_methodNamed Bd.named Bd.method).1
  have hlk : meth.locks = false := Bd.notSynchronized
  have hret := Bd.returns
  have X0 : Stand p l e room_1 s m #[(.int p0), (.int p1), (.int p2), (.int p3)] below meth c s₁ [] 0 0 := Stand.of_body Bd
  have e0 : s₁.heap = h0 := by rw [← hh, Bd.state]; rfl
  have N0 := Fr.nil n0
  have K0 : Keep h0 h0 [] := Keep.refl _ _
  show Goes p e below s (Q_rm0 Z p0 p1 p2 p3 h0 n0) room_1.cells room_1.slots _
  refine Goes.go (fun t k => castTop (ef_rm0 m p0 p1 p2 p3) k) ?_
  show Goes _ _ _ _ _ _ _ (s₁.setTop (mkF m 0 #[.val (.int p0), .val (.int p1), .val (.int p2), .val (.int p3), .unset, .unset, .unset] []))
  obtain ⟨T1, h1, X1, e1, E1, A1, D1, -, st1⟩ := newO X0 hx hZ hown (hw _ (List.mem_of_getElem? (i := 0) rfl)) (hw _ (List.mem_of_getElem? (i := 1) rfl)) (hw _ (List.mem_of_getElem? (i := 2) rfl)) e0 (g := (mkF m 0 #[.val (.int p0), .val (.int p1), .val (.int p2), .val (.int p3), .unset, .unset, .unset] [])) rfl (hb hby at_0) (by decide) (by decide)
  obtain ⟨ob0, gob0⟩ : ∃ z, z = h0.size := ⟨_, rfl⟩
  rw [← gob0] at A1 D1 st1
  have Z1 : n0 ≤ h1.size := Nat.le_trans Z0 E1.1
  have ge_ob0 : n0 ≤ ob0 := Nat.le_trans Z0 (Nat.le_of_eq gob0.symm)
  have f : Fld Z h1 ob0 "com/example/xixi/xixi/remoting/RemotingCommand" "code" "I" (.int (0 : Int32)) := D1 (Or.inr (hw _ (List.mem_of_getElem? (i := 10) rfl))) (ty := .int) (by decide)
  have f_1 : Fld Z h1 ob0 "com/example/xixi/xixi/remoting/RemotingCommand" "version" "I" (.int (0 : Int32)) := D1 (Or.inr (hw _ (List.mem_of_getElem? (i := 12) rfl))) (ty := .int) (by decide)
  have f_2 : Fld Z h1 ob0 "com/example/xixi/xixi/remoting/RemotingCommand" "opaque" "I" (.int (0 : Int32)) := D1 (Or.inr (hw _ (List.mem_of_getElem? (i := 14) rfl))) (ty := .int) (by decide)
  have f_3 : Fld Z h1 ob0 "com/example/xixi/xixi/remoting/RemotingCommand" "flag" "I" (.int (0 : Int32)) := D1 (Or.inr (hw _ (List.mem_of_getElem? (i := 16) rfl))) (ty := .int) (by decide)
  have f_4 : Fld Z h1 ob0 "com/example/xixi/xixi/remoting/RemotingCommand" "remark" "Ljava/lang/String;" .null := D1 (Or.inr (hw _ (List.mem_of_getElem? (i := 18) rfl))) (ty := (.object "java/lang/String")) (by decide)
  have f_5 : Fld Z h1 ob0 "com/example/xixi/xixi/remoting/RemotingCommand" "extFields" "Ljava/util/Map;" .null := D1 (Or.inr (hw _ (List.mem_of_getElem? (i := 20) rfl))) (ty := (.object "java/util/Map")) (by decide)
  have f_6 : Fld Z h1 ob0 "com/example/xixi/xixi/remoting/RemotingCommand" "body" "[B" .null := D1 (Or.inr (hw _ (List.mem_of_getElem? (i := 22) rfl))) (ty := (.array .byte)) (by decide)
  refine Goes.go (st1) ?_
  show Goes _ _ _ _ _ _ _ (T1.setTop (mkF m 3 _ [(.ref ob0)]))
  refine Goes.go (fun _ k => XS.dup X1.here hx rfl (hb hby at_3) rfl rfl k) ?_
  show Goes _ _ _ _ _ _ _ (T1.setTop (mkF m 4 _ [(.ref ob0), (.ref ob0)]))
  refine Goes.go (fun _ k => XS.iloadN X1.here hx rfl (hb hby at_4) rfl k) ?_
  show Goes _ _ _ _ _ _ _ (T1.setTop (mkF m 5 _ [(.int p0), (.ref ob0), (.ref ob0)]))
  refine Goes.go (fun _ k => XS.iloadN X1.here hx rfl (hb hby at_5) rfl k) ?_
  show Goes _ _ _ _ _ _ _ (T1.setTop (mkF m 6 _ [(.int p1), (.int p0), (.ref ob0), (.ref ob0)]))
  refine Goes.go (fun _ k => XS.iloadN X1.here hx rfl (hb hby at_6) rfl k) ?_
  show Goes _ _ _ _ _ _ _ (T1.setTop (mkF m 7 _ [(.int p2), (.int p1), (.int p0), (.ref ob0), (.ref ob0)]))
  refine Goes.go (fun _ k => XS.iloadN X1.here hx rfl (hb hby at_7) rfl k) ?_
  show Goes _ _ _ _ _ _ _ (T1.setTop (mkF m 8 _ [(.int p3), (.int p2), (.int p1), (.int p0), (.ref ob0), (.ref ob0)]))
  refine Goes.go (fun _ k => XS.aconstNull X1.here hx rfl (hb hby at_8) k) ?_
  show Goes _ _ _ _ _ _ _ (T1.setTop (mkF m 9 _ [.null, (.int p3), (.int p2), (.int p1), (.int p0), (.ref ob0), (.ref ob0)]))
  refine Goes.go (fun _ k => XS.aconstNull X1.here hx rfl (hb hby at_9) k) ?_
  show Goes _ _ _ _ _ _ _ (T1.setTop (mkF m 10 _ [.null, .null, (.int p3), (.int p2), (.int p1), (.int p0), (.ref ob0), (.ref ob0)]))
  refine Goes.go (fun _ k => XS.aconstNull X1.here hx rfl (hb hby at_10) k) ?_
  show Goes _ _ _ _ _ _ _ (T1.setTop (mkF m 11 _ [.null, .null, .null, (.int p3), (.int p2), (.int p1), (.int p0), (.ref ob0), (.ref ob0)]))
  obtain ⟨_, _, ⟨T2, L2, k2, n2⟩, -, X2, ⟨Lc2, hQ2, l2, y2, z2⟩, st2⟩ := X1.specialBack hx (y := (⟨"com/example/xixi/xixi/remoting/RemotingCommand", "<init>", "(IIIILjava/lang/String;Ljava/util/Map;[B)V"⟩ : MethodName)) rfl hown (mvT hZ (hw _ (List.mem_of_getElem? (i := 3) rfl))) (mvT hZ (hw _ (List.mem_of_getElem? (i := 4) rfl))) (mvT hZ (hw _ (List.mem_of_getElem? (i := 5) rfl))) (by decide) (backOf (W := 1) (rm1 l Z a0 hw [] ob0 p0 p1 p2 p3 h1 n0 Z1 A1 f f_1 f_2 f_3 f_4 f_5 f_6 ge_ob0) hZ (hw _ (List.mem_of_getElem? (i := 5) rfl)) (hw _ (List.mem_of_getElem? (i := 2) rfl)) (by decide) (by decide)) (g := (mkF m 11 #[.val (.int p0), .val (.int p1), .val (.int p2), .val (.int p3), .unset, .unset, .unset] [.null, .null, .null, (.int p3), (.int p2), (.int p1), (.int p0), (.ref ob0), (.ref ob0)])) rfl (by rw [hml]; rfl) (Steps.refl _) (a := ob0) (argsL := [(.int p0), (.int p1), (.int p2), (.int p3), .null, .null, .null]) (rest := [(.ref ob0)]) (lenOf pd0 rfl) rfl (by show 2 * 0 + _ ≤ _; exact Nat.le_of_eq rfl) (hb hby at_11) (fun _ _ => ⟨rfl, e1, (by decide : 1 + 0 ≤ _), (by decide : 7 + 0 ≤ _)⟩)
  dsimp only [Pt.U, Pt.locs, Pt.cells, Pt.slots] at X2 l2 y2 z2 st2 hQ2
  subst l2 y2 z2
  obtain ⟨rfl, Nq2, Kq2, Eq2, Fq2_0, Fq2_1, Fq2_2, Fq2_3, Fq2_4, Fq2_5, Fq2_6⟩ := hQ2
  have N2 := Fr.app N0 Nq2
  have Z2 : n0 ≤ T2.heap.size := Nat.le_trans Z1 Kq2.1
  refine Goes.go (fun _ k => st2.trans k) ?_
  show Goes _ _ _ _ _ _ _ (T2.setTop (mkF m 14 _ [(.ref ob0)]))
  refine Goes.go (fun _ k => XS.astore X2.here hx rfl (hb hby at_14) rfl rfl (l' := #[.val (.int p0), .val (.int p1), .val (.int p2), .val (.int p3), .val (.ref ob0), .unset, .unset]) rfl k) ?_
  show Goes _ _ _ _ _ _ _ (T2.setTop (mkF m 16 #[.val (.int p0), .val (.int p1), .val (.int p2), .val (.int p3), .val (.ref ob0), .unset, .unset] []))
  refine Goes.go (fun _ k => XS.iloadN X2.here hx rfl (hb hby at_16) rfl k) ?_
  show Goes _ _ _ _ _ _ _ (T2.setTop (mkF m 17 _ [(.int p3)]))
  refine Goes.go (fun _ k => XS.iconst X2.here hx rfl (hb hby at_17) k) ?_
  show Goes _ _ _ _ _ _ _ (T2.setTop (mkF m 18 _ [(.int (3 : Int32)), (.int p3)]))
  refine Goes.go (fun _ k => XS.iand X2.here hx rfl (hb hby at_18) rfl k) ?_
  show Goes _ _ _ _ _ _ _ (T2.setTop (mkF m 19 _ [(.int (p3 &&& (3 : Int32)))]))
  generalize hv19 : (p3 &&& (3 : Int32)) = v19
  refine Goes.go (fun _ k => XS.istore X2.here hx rfl (hb hby at_19) rfl (l' := #[.val (.int p0), .val (.int p1), .val (.int p2), .val (.int p3), .val (.ref ob0), .val (.int v19), .unset]) rfl k) ?_
  show Goes _ _ _ _ _ _ _ (T2.setTop (mkF m 21 #[.val (.int p0), .val (.int p1), .val (.int p2), .val (.int p3), .val (.ref ob0), .val (.int v19), .unset] []))
  refine Goes.go (fun _ k => XS.iload X2.here hx rfl (hb hby at_21) rfl k) ?_
  show Goes _ _ _ _ _ _ _ (T2.setTop (mkF m 23 _ [(.int v19)]))
  refine Goes.go (fun _ k => XS.iconst X2.here hx rfl (hb hby at_23) k) ?_
  show Goes _ _ _ _ _ _ _ (T2.setTop (mkF m 24 _ [(.int (2 : Int32)), (.int v19)]))
  by_cases c24 : v19 = (2 : Int32)
  · skip
    refine Goes.go (fun _ k => XS.icmpNo X2.here hx rfl (hb hby at_24) rfl (XT.ii_ne_f c24) k) ?_
    show Goes _ _ _ _ _ _ _ (T2.setTop (mkF m 27 _ []))
    refine Goes.go (fun _ k => XS.iconst X2.here hx rfl (hb hby at_27) k) ?_
    show Goes _ _ _ _ _ _ _ (T2.setTop (mkF m 28 _ [(.int (1 : Int32))]))
    refine Goes.go (fun _ k => XS.istore X2.here hx rfl (hb hby at_28) rfl (l' := #[.val (.int p0), .val (.int p1), .val (.int p2), .val (.int p3), .val (.ref ob0), .val (.int v19), .val (.int (1 : Int32))]) rfl k) ?_
    show Goes _ _ _ _ _ _ _ (T2.setTop (mkF m 30 #[.val (.int p0), .val (.int p1), .val (.int p2), .val (.int p3), .val (.ref ob0), .val (.int v19), .val (.int (1 : Int32))] []))
    refine Goes.go (fun _ k => XS.goto X2.here hx rfl (pc0 := 30) (pc' := 36) rfl (hb hby at_30) (by decide) (by decide) k) ?_
    show Goes _ _ _ _ _ _ _ (T2.setTop (mkF m 36 _ []))
    refine Goes.go (fun _ k => XS.aload X2.here hx rfl (hb hby at_36) rfl rfl k) ?_
    show Goes _ _ _ _ _ _ _ (T2.setTop (mkF m 38 _ [(.ref ob0)]))
    obtain ⟨cq3, kq3, qa3, qb3, qc3⟩ := isOf hZ rfl Eq2
    obtain ⟨_, _, ⟨T3, L3, k3, n3⟩, -, X3, ⟨Lc3, hQ3, l3, y3, z3⟩, st3⟩ := X2.virtualBack hx (y := (⟨"com/example/xixi/xixi/remoting/RemotingCommand", "isOneWay", "()Z"⟩ : MethodName)) (z := (⟨"com/example/xixi/xixi/remoting/RemotingCommand", "isOneWay", "()Z"⟩ : MethodName)) hown (mvT hZ (hw _ (List.mem_of_getElem? (i := 23) rfl))) (mvT hZ (hw _ (List.mem_of_getElem? (i := 24) rfl))) (notFace_of_selects (args := #[]) (mvT hZ (hw _ (List.mem_of_getElem? (i := 26) rfl)))) (mvT hZ (hw _ (List.mem_of_getElem? (i := 26) rfl))) (mvT hZ (hw _ (List.mem_of_getElem? (i := 25) rfl))) (by decide) (backOf (W := 0) (rm2 l Z a0 hw [] ob0 p3 T2.heap n0 Z2 Fq2_3 Eq2) hZ (hw _ (List.mem_of_getElem? (i := 27) rfl)) (hw _ (List.mem_of_getElem? (i := 2) rfl)) (by decide) (by decide)) qa3 qc3 (g := (mkF m 38 #[.val (.int p0), .val (.int p1), .val (.int p2), .val (.int p3), .val (.ref ob0), .val (.int v19), .val (.int (1 : Int32))] [(.ref ob0)])) rfl (by rw [hml]; rfl) (Steps.refl _) (argsL := []) (rest := []) (lenOf pd2 rfl) rfl (by show 2 * 0 + _ ≤ _; exact Nat.le_of_eq rfl) (hb hby at_38) (fun _ _ => ⟨rfl, rfl, (by decide : 1 + 0 ≤ _), (by decide : 7 + 0 ≤ _)⟩)
    dsimp only [Pt.U, Pt.locs, Pt.cells, Pt.slots] at X3 l3 y3 z3 st3 hQ3
    subst l3 y3 z3
    obtain ⟨rfl, Nq3, hh3⟩ := hQ3
    have N3 := Fr.app N2 Nq3
    refine Goes.go (fun _ k => st3.trans k) ?_
    show Goes _ _ _ _ _ _ _ (T3.setTop (mkF m 41 _ [(.int (owF p3))]))
    refine Goes.go (fun _ k => XS.iload X3.here hx rfl (hb hby at_41) rfl k) ?_
    show Goes _ _ _ _ _ _ _ (T3.setTop (mkF m 43 _ [(.int (1 : Int32)), (.int (owF p3))]))
    refine Goes.go (fun _ k => XS.icmpNo X3.here hx rfl (hb hby at_43) rfl (XT.ii_ne_f (own_yes hv19 c24)) k) ?_
    show Goes _ _ _ _ _ _ _ (T3.setTop (mkF m 46 _ []))
    refine Goes.go (fun _ k => XS.iconst X3.here hx rfl (hb hby at_46) k) ?_
    show Goes _ _ _ _ _ _ _ (T3.setTop (mkF m 47 _ [(.int (1 : Int32))]))
    refine Goes.go (fun _ k => XS.goto X3.here hx rfl (pc0 := 47) (pc' := 51) rfl (hb hby at_47) (by decide) (by decide) k) ?_
    show Goes _ _ _ _ _ _ _ (T3.setTop (mkF m 51 _ [(.int (1 : Int32))]))
    exact Goes.outZ X3 hx hlk hret rfl (hb hby at_51) hh3 ⟨rfl, N3⟩ (by decide) (by decide)
  · skip
    refine Goes.go (fun _ k => XS.icmpYes X2.here hx rfl (pc0 := 24) (pc' := 33) rfl (hb hby at_24) rfl (XT.ii_ne_t c24) (by decide) (by decide) k) ?_
    show Goes _ _ _ _ _ _ _ (T2.setTop (mkF m 33 _ []))
    refine Goes.go (fun _ k => XS.iconst X2.here hx rfl (hb hby at_33) k) ?_
    show Goes _ _ _ _ _ _ _ (T2.setTop (mkF m 34 _ [(.int (0 : Int32))]))
    refine Goes.go (fun _ k => XS.istore X2.here hx rfl (hb hby at_34) rfl (l' := #[.val (.int p0), .val (.int p1), .val (.int p2), .val (.int p3), .val (.ref ob0), .val (.int v19), .val (.int (0 : Int32))]) rfl k) ?_
    show Goes _ _ _ _ _ _ _ (T2.setTop (mkF m 36 #[.val (.int p0), .val (.int p1), .val (.int p2), .val (.int p3), .val (.ref ob0), .val (.int v19), .val (.int (0 : Int32))] []))
    refine Goes.go (fun _ k => XS.aload X2.here hx rfl (hb hby at_36) rfl rfl k) ?_
    show Goes _ _ _ _ _ _ _ (T2.setTop (mkF m 38 _ [(.ref ob0)]))
    obtain ⟨cq3, kq3, qa3, qb3, qc3⟩ := isOf hZ rfl Eq2
    obtain ⟨_, _, ⟨T3, L3, k3, n3⟩, -, X3, ⟨Lc3, hQ3, l3, y3, z3⟩, st3⟩ := X2.virtualBack hx (y := (⟨"com/example/xixi/xixi/remoting/RemotingCommand", "isOneWay", "()Z"⟩ : MethodName)) (z := (⟨"com/example/xixi/xixi/remoting/RemotingCommand", "isOneWay", "()Z"⟩ : MethodName)) hown (mvT hZ (hw _ (List.mem_of_getElem? (i := 23) rfl))) (mvT hZ (hw _ (List.mem_of_getElem? (i := 24) rfl))) (notFace_of_selects (args := #[]) (mvT hZ (hw _ (List.mem_of_getElem? (i := 26) rfl)))) (mvT hZ (hw _ (List.mem_of_getElem? (i := 26) rfl))) (mvT hZ (hw _ (List.mem_of_getElem? (i := 25) rfl))) (by decide) (backOf (W := 0) (rm2 l Z a0 hw [] ob0 p3 T2.heap n0 Z2 Fq2_3 Eq2) hZ (hw _ (List.mem_of_getElem? (i := 27) rfl)) (hw _ (List.mem_of_getElem? (i := 2) rfl)) (by decide) (by decide)) qa3 qc3 (g := (mkF m 38 #[.val (.int p0), .val (.int p1), .val (.int p2), .val (.int p3), .val (.ref ob0), .val (.int v19), .val (.int (0 : Int32))] [(.ref ob0)])) rfl (by rw [hml]; rfl) (Steps.refl _) (argsL := []) (rest := []) (lenOf pd2 rfl) rfl (by show 2 * 0 + _ ≤ _; exact Nat.le_of_eq rfl) (hb hby at_38) (fun _ _ => ⟨rfl, rfl, (by decide : 1 + 0 ≤ _), (by decide : 7 + 0 ≤ _)⟩)
    dsimp only [Pt.U, Pt.locs, Pt.cells, Pt.slots] at X3 l3 y3 z3 st3 hQ3
    subst l3 y3 z3
    obtain ⟨rfl, Nq3, hh3⟩ := hQ3
    have N3 := Fr.app N2 Nq3
    refine Goes.go (fun _ k => st3.trans k) ?_
    show Goes _ _ _ _ _ _ _ (T3.setTop (mkF m 41 _ [(.int (owF p3))]))
    refine Goes.go (fun _ k => XS.iload X3.here hx rfl (hb hby at_41) rfl k) ?_
    show Goes _ _ _ _ _ _ _ (T3.setTop (mkF m 43 _ [(.int (0 : Int32)), (.int (owF p3))]))
    refine Goes.go (fun _ k => XS.icmpNo X3.here hx rfl (hb hby at_43) rfl (XT.ii_ne_f (own_no hv19 c24)) k) ?_
    show Goes _ _ _ _ _ _ _ (T3.setTop (mkF m 46 _ []))
    refine Goes.go (fun _ k => XS.iconst X3.here hx rfl (hb hby at_46) k) ?_
    show Goes _ _ _ _ _ _ _ (T3.setTop (mkF m 47 _ [(.int (1 : Int32))]))
    refine Goes.go (fun _ k => XS.goto X3.here hx rfl (pc0 := 47) (pc' := 51) rfl (hb hby at_47) (by decide) (by decide) k) ?_
    show Goes _ _ _ _ _ _ _ (T3.setTop (mkF m 51 _ [(.int (1 : Int32))]))
    exact Goes.outZ X3 hx hlk hret rfl (hb hby at_51) hh3 ⟨rfl, N3⟩ (by decide) (by decide)
set_option maxRecDepth 65536 in
set_option maxHeartbeats 40000000 in
theorem comes_1 {Post : Tables → Env → Array Value → State → Outcome → State → Prop} (hpost : ∀ tb e args s v u, (limb_1_1.after args s (.returned v) u = true ∧ limb_1_2.after args s (.returned v) u = true ∧ True) → FrameEnd s (.returned v) u (Jvm.fieldLocs frame_1_writes args s ++ Jvm.arrayLocs frame_1_arrays args s ++ Jvm.staticLocs frame_1_statics s) 16 128 → Post tb e args s (.returned v) u) :
    ArmFor flags0 classFile x code maxLocals ret World_1 tables_1 room_1 Calls_1 rest_1 Pre_1 Post := by
  intro l hfl _ _ p e ha hc hk s m args below hf hA hF happ hP
  obtain ⟨hcalls, hrest, hpre⟩ := hP
  obtain ⟨-, -, -, hnamed, -, -, -, hat⟩ := (Spec.applies_iff hf).mp happ
  obtain ⟨hg, hn⟩ := and_e (Cond.before_iff.mp (show (Jvm.Cond.and given_1 narrow_1).before args s = true from hpre))
  obtain ⟨gc, gr0⟩ := and_e hg
  obtain ⟨g0, gr1⟩ := and_e gr0
  obtain ⟨g1, gr2⟩ := and_e gr1
  obtain ⟨g2, gr3⟩ := and_e gr2
  obtain ⟨w0, w1, w2, w3, rfl⟩ : ∃ w0 w1 w2 w3 : Value, args = #[w0, w1, w2, w3] := by
    have hs : args.size = 4 := by simpa [Cond.value, given_1] using gc
    obtain ⟨L⟩ := args
    match L, hs with
    | [w0, w1, w2, w3], _ => exact ⟨w0, w1, w2, w3, rfl⟩
  have hw := fun d (hd : d ∈ tables_1) => atoms_spec (ws := Jvm.Cond.code x code maxLocals ret :: tables_1) hat d (List.mem_cons_of_mem _ hd)
  obtain ⟨i0, ei0⟩ := is_v g0
  obtain rfl : w0 = (.int i0) := Option.some.inj ei0
  obtain ⟨i1, ei1⟩ := is_v g1
  obtain rfl : w1 = (.int i1) := Option.some.inj ei1
  obtain ⟨i2, ei2⟩ := is_v g2
  obtain rfl : w2 = (.int i2) := Option.some.inj ei2
  obtain ⟨i3, ei3⟩ := is_v gr3
  obtain rfl : w3 = (.int i3) := Option.some.inj ei3
  obtain ⟨n, o, h1, h2, h3, _, L, rfl, ⟨rfl, N⟩, hq⟩ := rm0 l s _ hw tables_1 i0 i1 i2 i3 s.heap s.heap.size (Nat.le_refl _)  p e ha hc hk s m _ below hf ((Spec.applies_iff_loose hf).mp happ).1 ⟨rfl, State.Warmed39.refl s, rfl⟩ trivial
  refine ⟨n, _, h1, h2, h3, hpost _ _ _ _ _ _ ⟨Cond.after_iff.mpr rfl, Cond.after_iff.mpr (eq_i res_at (Term.int_eval (1)) rfl), trivial⟩ ⟨hq.1, hq.2.1, (hq.2.2.sift fun y hy => Or.inr (N y hy)).mono (by decide) (by decide)⟩⟩
theorem main_1_1 : Claimed_1_1 := comes_1 fun _ _ _ _ _ _ h hF => ⟨h.1, hF⟩
theorem main_1_2 : Claimed_1_2 := comes_1 fun _ _ _ _ _ _ h hF => ⟨h.2.1, hF⟩
end Jvm.Pilot.@@N@@
namespace Jvm.Pilot.@@N@@
open Jvm Jvm.ClassFile Sem Op Lib Jvm.Free Jvm.Stand Jvm.Pilot.@@N@@.Jvm.D
/-! MADE BY PROGRAM (witnessworld.py) out of the Statement's table words and the real class files: 9 classes; the members and pool entries that the words name. The judged class is class 1, her method 1. -/
namespace start1
open Jvm.ClassFile
def u (s : String) : CpInfo := .utf8 (stringToUtf16 s)
/-- a pool by its gaps: so many unusable entries, then the entry; so many at the end -/
def gap : Nat → List CpInfo → List CpInfo
  | 0, r => r
  | n + 1, r => .unusable :: gap n r
def poolList (es : List (Nat × CpInfo)) (last : Nat) : List CpInfo := es.foldr (fun e r => gap e.1 (e.2 :: r)) (gap last [])
def pool (es : List (Nat × CpInfo)) (last : Nat) : Array CpInfo := ⟨poolList es last⟩
def fileOf (pool : Array CpInfo) (this : Nat) (attrs : Array Attribute := #[]) (ms : Array MethodInfo := #[]) (fl : Nat := 33) (sup : Nat := 0) (ifs : Array Nat := #[]) (fds : Array FieldInfo := #[]) : ClassFile where
  minorVersion := 0
  majorVersion := 65
  constantPool := pool
  accessFlags := fl
  thisClass := this
  superClass := sup
  interfaces := ifs
  fields := fds
  methods := ms
  attributes := attrs
def plain (name : String) (sup : Option ClassId) : Class where
  name := name
  kind := .ordinary
  loader := none
  accessFlags := 33
  super := sup
  interfaces := #[]
  cf := none
  fields := #[]
  methods := #[]
  instanceTypes := #[]
  staticTypes := #[]
  resolved := #[]
  callSites := []
  init := .initialized
  statics := none
  mirror := none

def pool0 : Array CpInfo := pool [(5, u "<init>"), (0, u "()V"), (1, .class_ 10), (1, u "java/lang/Object")] 113

def k0c0 : Code := { maxStack := 0, maxLocals := 1, code := object_method_1_code, exceptionTable := #[], attributes := #[] }
def k0m0 : Method := { name := "<init>", desc := "()V", sig := { parameters := [], returnType := none }, accessFlags := 1, code := some k0c0 }
/-- java/lang/Object -/
def k0 : Class := { plain "java/lang/Object" none with
  accessFlags := 33
  interfaces := #[]
  cf := some (fileOf pool0 8 #[] #[{ accessFlags := 1, nameIndex := 5, descriptorIndex := 6, attributes := #[] }] 33 0 #[] #[])
  fields := #[]
  methods := #[k0m0]
  instanceTypes := #[]
  staticTypes := #[]
  resolved := Array.replicate 124 none
  statics := none }

def pool1 : Array CpInfo := pool [(2, .class_ 4), (1, u "java/lang/Object"), (0, u "<init>"), (0, u "()V"), (0, .class_ 8), (0, u "com/example/xixi/xixi/remoting/RemotingCommand"), (0, .methodref 7 10), (0, .nameAndType 5 11), (0, u "(IIIILjava/lang/String;Ljava/util/Map;[B)V"), (0, .methodref 7 13), (0, .nameAndType 14 15), (0, u "isOneWay"), (0, u "()Z"), (0, .class_ 17), (0, u "com/example/xixi/xixi/remoting/RemotingCommandIsOneWayPinLaw"), (2, u "law"), (0, u "(IIII)Z")] 3

def k1m0 : Method := { name := "<init>", desc := "()V", sig := { parameters := [], returnType := none }, accessFlags := 2, code := none }
def k1c1 : Code := { maxStack := 9, maxLocals := 7, code := code, exceptionTable := #[], attributes := #[] }
def k1m1 : Method := { name := "law", desc := "(IIII)Z", sig := { parameters := [.int, .int, .int, .int], returnType := some .boolean }, accessFlags := 9, code := some k1c1 }
/-- com/example/xixi/xixi/remoting/RemotingCommandIsOneWayPinLaw -/
def k1 : Class := { plain "com/example/xixi/xixi/remoting/RemotingCommandIsOneWayPinLaw" (some 0) with
  accessFlags := 49
  interfaces := #[]
  cf := some (fileOf pool1 16 #[] #[{ accessFlags := 2, nameIndex := 5, descriptorIndex := 6, attributes := #[] }, { accessFlags := 9, nameIndex := 20, descriptorIndex := 21, attributes := #[] }] 49 2 #[] #[])
  fields := #[]
  methods := #[k1m0, k1m1]
  instanceTypes := #[]
  staticTypes := #[]
  resolved := Array.replicate 25 none
  statics := none }

def pool2 : Array CpInfo := pool [(1, .methodref 2 3), (0, .class_ 4), (0, .nameAndType 5 6), (0, u "java/lang/Object"), (0, u "<init>"), (0, u "()V"), (0, .fieldref 8 9), (0, .class_ 10), (0, .nameAndType 11 12), (0, u "com/example/xixi/xixi/remoting/RemotingCommand"), (0, u "code"), (0, u "I"), (0, .fieldref 8 14), (0, .nameAndType 15 12), (0, u "version"), (0, .fieldref 8 17), (0, .nameAndType 18 12), (0, u "opaque"), (0, .fieldref 8 20), (0, .nameAndType 21 12), (0, u "flag"), (0, .fieldref 8 23), (0, .nameAndType 24 25), (0, u "remark"), (0, u "Ljava/lang/String;"), (0, .fieldref 8 27), (0, .nameAndType 28 29), (0, u "extFields"), (0, u "Ljava/util/Map;"), (0, .fieldref 8 31), (0, .nameAndType 32 33), (0, u "body"), (0, u "[B"), (8, u "(IIIILjava/lang/String;Ljava/util/Map;[B)V"), (2, u "NO_BODY"), (11, .methodref 8 58), (0, .nameAndType 59 60), (0, u "isResponse"), (0, u "()Z"), (70, u "RESPONSE_FLAG"), (2, u "ONE_WAY_FLAG"), (20, u "isOneWay")] 31

def k2c0 : Code := { maxStack := 2, maxLocals := 8, code := prog_2_method_1_code, exceptionTable := #[], attributes := #[] }
def k2m0 : Method := { name := "<init>", desc := "(IIIILjava/lang/String;Ljava/util/Map;[B)V", sig := { parameters := [.int, .int, .int, .int, (.object "java/lang/String"), (.object "java/util/Map"), (.array .byte)], returnType := none }, accessFlags := 0, code := some k2c0 }
def k2c1 : Code := { maxStack := 2, maxLocals := 1, code := prog_2_method_13_code, exceptionTable := #[], attributes := #[] }
def k2m1 : Method := { name := "isResponse", desc := "()Z", sig := { parameters := [], returnType := some .boolean }, accessFlags := 1, code := some k2c1 }
def k2c2 : Code := { maxStack := 2, maxLocals := 1, code := prog_2_method_14_code, exceptionTable := #[], attributes := #[] }
def k2m2 : Method := { name := "isOneWay", desc := "()Z", sig := { parameters := [], returnType := some .boolean }, accessFlags := 1, code := some k2c2 }
/-- com/example/xixi/xixi/remoting/RemotingCommand -/
def k2 : Class := { plain "com/example/xixi/xixi/remoting/RemotingCommand" (some 0) with
  accessFlags := 49
  interfaces := #[]
  cf := some (fileOf pool2 8 #[] #[{ accessFlags := 0, nameIndex := 5, descriptorIndex := 42, attributes := #[] }, { accessFlags := 1, nameIndex := 59, descriptorIndex := 60, attributes := #[] }, { accessFlags := 1, nameIndex := 155, descriptorIndex := 60, attributes := #[] }] 49 2 #[] #[{ accessFlags := 26, nameIndex := 131, descriptorIndex := 12, attributes := #[] }, { accessFlags := 26, nameIndex := 134, descriptorIndex := 12, attributes := #[] }, { accessFlags := 26, nameIndex := 45, descriptorIndex := 33, attributes := #[] }, { accessFlags := 18, nameIndex := 11, descriptorIndex := 12, attributes := #[] }, { accessFlags := 18, nameIndex := 15, descriptorIndex := 12, attributes := #[] }, { accessFlags := 18, nameIndex := 18, descriptorIndex := 12, attributes := #[] }, { accessFlags := 18, nameIndex := 21, descriptorIndex := 12, attributes := #[] }, { accessFlags := 18, nameIndex := 24, descriptorIndex := 25, attributes := #[] }, { accessFlags := 18, nameIndex := 28, descriptorIndex := 29, attributes := #[] }, { accessFlags := 18, nameIndex := 32, descriptorIndex := 33, attributes := #[] }])
  fields := #[{ name := "RESPONSE_FLAG", type := .int, accessFlags := 26, slot := 0, constantValue := 0 }, { name := "ONE_WAY_FLAG", type := .int, accessFlags := 26, slot := 1, constantValue := 0 }, { name := "NO_BODY", type := (.array .byte), accessFlags := 26, slot := 2, constantValue := 0 }, { name := "code", type := .int, accessFlags := 18, slot := 0, constantValue := 0 }, { name := "version", type := .int, accessFlags := 18, slot := 1, constantValue := 0 }, { name := "opaque", type := .int, accessFlags := 18, slot := 2, constantValue := 0 }, { name := "flag", type := .int, accessFlags := 18, slot := 3, constantValue := 0 }, { name := "remark", type := (.object "java/lang/String"), accessFlags := 18, slot := 4, constantValue := 0 }, { name := "extFields", type := (.object "java/util/Map"), accessFlags := 18, slot := 5, constantValue := 0 }, { name := "body", type := (.array .byte), accessFlags := 18, slot := 6, constantValue := 0 }]
  methods := #[k2m0, k2m1, k2m2]
  instanceTypes := #[.int, .int, .int, .int, (.object "java/lang/String"), (.object "java/util/Map"), (.array .byte)]
  staticTypes := #[.int, .int, (.array .byte)]
  resolved := Array.replicate 187 none
  statics := none }

def pool3 : Array CpInfo := pool [(1, u "java/lang/Cloneable"), (0, .class_ 1), (0, u "java/lang/Object"), (0, .class_ 3)] 3

/-- java/lang/Cloneable -/
def k3 : Class := { plain "java/lang/Cloneable" (some 0) with
  accessFlags := 1537
  interfaces := #[]
  cf := some (fileOf pool3 2 #[] #[] 1537 4 #[] #[])
  fields := #[]
  methods := #[]
  instanceTypes := #[]
  staticTypes := #[]
  resolved := Array.replicate 8 none
  statics := none }

def pool4 : Array CpInfo := pool [(1, u "java/io/Serializable"), (0, .class_ 1), (0, u "java/lang/Object"), (0, .class_ 3)] 3

/-- java/io/Serializable -/
def k4 : Class := { plain "java/io/Serializable" (some 0) with
  accessFlags := 1537
  interfaces := #[]
  cf := some (fileOf pool4 2 #[] #[] 1537 4 #[] #[])
  fields := #[]
  methods := #[]
  instanceTypes := #[]
  staticTypes := #[]
  resolved := Array.replicate 8 none
  statics := none }

/-- the primitive byte -/
def k5 : Class := { plain "byte" none with kind := .primitive 'B', accessFlags := 0x411 }
/-- [B -/
def k6 : Class := { plain "[B" (some 0) with kind := .array 5 .byte, interfaces := #[3, 4], accessFlags := 1041 }

/-- the primitive int -/
def k7 : Class := { plain "int" none with kind := .primitive 'I', accessFlags := 0x411 }
/-- [I -/
def k8 : Class := { plain "[I" (some 0) with kind := .array 7 .int, interfaces := #[3, 4], accessFlags := 1041 }

def heap : Heap := #[]
def classes : Array Class := #[k0, k1, k2, k3, k4, k5, k6, k7, k8]
def interned : List (Array UInt16 × Addr) := []
def slotsUsed : Nat := 0
def theMethod : MethodId := ⟨1, 1⟩
def args0 : Array Value := #[.int 100, .int 7, .int 9, .int 77]
def aboutOver (below : List Frame) : State where
  vm := { classes := classes, interned := interned.toArray }
  heap := heap
  slotsUsed := slotsUsed
  threads := #[{ frames := .invoking theMethod args0 :: below }]
def below0 : List Frame := [.native { method := ⟨0, 0⟩, args := #[] }]
def about1 : State := aboutOver below0
def p0 : Program := .bare "" "" ""
def e0 : Env := launch0.env 0 0 0
theorem w_frames : about1.frames = Frame.invoking theMethod args0 :: below0 := rfl
set_option maxRecDepth 65536 in
theorem w_args : argsFit about1.vm theMethod args0 = true := by decide +kernel
set_option maxRecDepth 65536 in
theorem w_heap : heapFits about1 = true := by decide +kernel
set_option maxRecDepth 65536 in
theorem w_runnable : about1.curStatus? = some .runnable := by decide +kernel
set_option maxRecDepth 65536 in
theorem w_alone : about1.alone = true := by decide +kernel
set_option maxRecDepth 65536 in
theorem w_named : about1.methodNamed? x = some theMethod := by decide +kernel
set_option maxRecDepth 65536 in
theorem w_hears : about1.hears theMethod below0 = true := by decide +kernel
set_option maxRecDepth 65536 in
theorem w_ripe : about1.ripe theMethod args0 below0 = true := by decide +kernel
theorem w_running : about1.status = .running := rfl
set_option maxRecDepth 65536 in
theorem w_room : about1.hasRoom e0.platform room_1 = true :=
  launch0.hasRoom_least _ room_1 (by decide +kernel) (by decide +kernel) (by decide +kernel) (by decide +kernel) (by decide +kernel) (by decide +kernel)
theorem allAtoms_all (ts : List Jvm.Cond) (a : Array Jvm.Value) (st : Jvm.State) : (allAtoms ts).before a st = ts.all (fun c => c.before a st) := by
  induction ts with
  | nil => rfl
  | cons c t ih =>
    show (Jvm.Cond.and c (allAtoms t)).before a st = _
    rw [Jvm.Cond.before_and, ih, List.all_cons]
def words1 : List Jvm.Cond := Jvm.Cond.code x code maxLocals ret :: tables_1
/-- a 'code' word, met by the world's own term for the bytes: nothing is compared byte by byte -/
theorem code_word {y : MethodName} {bytes : ByteArray} {mx : Nat} {rt : Option FieldType} {a : Array Value} {s : State} {m : MethodId} {meth : Method} {c : Code} (h1 : s.methodNamed? y = some m) (h2 : s.vm.method? m = some meth) (h3 : meth.code = some c) (h4 : c.code = bytes)
    (h5 : (c.maxLocals == mx && c.exceptionTable.isEmpty && decide (c.maxStack ≤ mostOperands) && decide (meth.sig.returnType = rt) && !meth.locks && decide (parseMethodDescriptor y.desc = some meth.sig)) = true) : (Jvm.Cond.code y bytes mx rt).before a s = true := by
  simp only [Bool.and_eq_true, beq_iff_eq, Bool.not_eq_true', decide_eq_true_eq] at h5
  obtain ⟨⟨⟨⟨⟨g1, g2⟩, g3⟩, g4⟩, g5⟩, g6⟩ := h5
  simp [Cond.before, Cond.holds, Cond.value, h1, h2, h3, h4, g1, g2, g3, g4, g5, g6]
def isCode : Jvm.Cond → Bool
  | .code _ _ _ _ => true
  | _ => false
theorem all_split {L : List Jvm.Cond} {P : Jvm.Cond → Bool} (h1 : L.all (fun c => isCode c || P c) = true) (h2 : ∀ c ∈ L.filter isCode, P c = true) : L.all P = true := by
  refine List.all_eq_true.mpr fun c hc => ?_
  have h := List.all_eq_true.mp h1 c hc
  rcases Bool.eq_false_or_eq_true (isCode c) with hi | hi
  · exact h2 c (List.mem_filter.mpr ⟨hc, hi⟩)
  · simpa [hi] using h
set_option maxRecDepth 65536 in
theorem w_c0 : (Jvm.Cond.code x code maxLocals ret).before args0 about1 = true := code_word (m := ⟨1, 1⟩) (meth := k1m1) (c := k1c1) (by decide +kernel) rfl rfl rfl (by decide +kernel)
set_option maxRecDepth 65536 in
theorem w_c1 : (Jvm.Cond.code ({ cls := "com/example/xixi/xixi/remoting/RemotingCommand", name := "<init>", desc := "(IIIILjava/lang/String;Ljava/util/Map;[B)V" } : Jvm.MethodName) prog_2_method_1_code (8 : Nat) (Option.none : Option Jvm.ClassFile.FieldType)).before args0 about1 = true := code_word (m := ⟨2, 0⟩) (meth := k2m0) (c := k2c0) (by decide +kernel) rfl rfl rfl (by decide +kernel)
set_option maxRecDepth 65536 in
theorem w_c2 : (Jvm.Cond.code ({ cls := "java/lang/Object", name := "<init>", desc := "()V" } : Jvm.MethodName) object_method_1_code (1 : Nat) (Option.none : Option Jvm.ClassFile.FieldType)).before args0 about1 = true := code_word (m := ⟨0, 0⟩) (meth := k0m0) (c := k0c0) (by decide +kernel) rfl rfl rfl (by decide +kernel)
set_option maxRecDepth 65536 in
theorem w_c3 : (Jvm.Cond.code ({ cls := "com/example/xixi/xixi/remoting/RemotingCommand", name := "isOneWay", desc := "()Z" } : Jvm.MethodName) prog_2_method_14_code (1 : Nat) (Option.some Jvm.ClassFile.FieldType.boolean)).before args0 about1 = true := code_word (m := ⟨2, 2⟩) (meth := k2m2) (c := k2c2) (by decide +kernel) rfl rfl rfl (by decide +kernel)
set_option maxRecDepth 65536 in
theorem w_c4 : (Jvm.Cond.code ({ cls := "com/example/xixi/xixi/remoting/RemotingCommand", name := "isResponse", desc := "()Z" } : Jvm.MethodName) prog_2_method_13_code (1 : Nat) (Option.some Jvm.ClassFile.FieldType.boolean)).before args0 about1 = true := code_word (m := ⟨2, 1⟩) (meth := k2m1) (c := k2c1) (by decide +kernel) rfl rfl rfl (by decide +kernel)
def codes1 : List Jvm.Cond := [Jvm.Cond.code x code maxLocals ret, Jvm.Cond.code ({ cls := "com/example/xixi/xixi/remoting/RemotingCommand", name := "<init>", desc := "(IIIILjava/lang/String;Ljava/util/Map;[B)V" } : Jvm.MethodName) prog_2_method_1_code (8 : Nat) (Option.none : Option Jvm.ClassFile.FieldType), Jvm.Cond.code ({ cls := "java/lang/Object", name := "<init>", desc := "()V" } : Jvm.MethodName) object_method_1_code (1 : Nat) (Option.none : Option Jvm.ClassFile.FieldType), Jvm.Cond.code ({ cls := "com/example/xixi/xixi/remoting/RemotingCommand", name := "isOneWay", desc := "()Z" } : Jvm.MethodName) prog_2_method_14_code (1 : Nat) (Option.some Jvm.ClassFile.FieldType.boolean), Jvm.Cond.code ({ cls := "com/example/xixi/xixi/remoting/RemotingCommand", name := "isResponse", desc := "()Z" } : Jvm.MethodName) prog_2_method_13_code (1 : Nat) (Option.some Jvm.ClassFile.FieldType.boolean)]
set_option maxRecDepth 65536 in
theorem codes_eq : words1.filter isCode = codes1 := rfl
theorem w_codes : ∀ c ∈ words1.filter isCode, c.before args0 about1 = true := by
  rw [codes_eq]
  intro c hc
  simp only [codes1, List.mem_cons, List.not_mem_nil, or_false] at hc
  rcases hc with rfl | rfl | rfl | rfl | rfl
  · exact w_c0
  · exact w_c1
  · exact w_c2
  · exact w_c3
  · exact w_c4
set_option maxRecDepth 65536 in
theorem w_t1 : (words1.take 24).all (fun c => isCode c || c.before args0 about1) = true := by decide +kernel
set_option maxRecDepth 65536 in
theorem w_t2 : (words1.drop 24).all (fun c => isCode c || c.before args0 about1) = true := by decide +kernel
theorem w_tables : (allAtoms (Jvm.Cond.code x code maxLocals ret :: tables_1)).before args0 about1 = true := by
  rw [allAtoms_all]
  show words1.all (fun c => c.before args0 about1) = true
  refine all_split ?_ w_codes
  rw [← List.take_append_drop 24 words1, List.all_append, w_t1, w_t2]
  rfl
set_option maxRecDepth 65536 in
theorem w_case : (Jvm.Cond.and given_1 narrow_1).before args0 about1 = true := by decide +kernel
theorem w_applies : (headSpec (Jvm.Cond.code x code maxLocals ret :: tables_1) room_1).applies x e0.platform about1 = true :=
  (Spec.applies_iff w_frames).mpr ⟨w_running, w_runnable, w_alone, w_named, w_hears, w_ripe, w_room, w_tables⟩
theorem atStart : AtStart classFile x code maxLocals ret World_1 tables_1 room_1 Calls_1 rest_1 Pre_1 launch0 p0 e0 about1 theMethod args0 below0 :=
  ⟨lists_1, trivial, launch0.admits_env _ _ _, launch0.least_env, fairChoices_fair.cas, fairChoices_fair.clock, w_frames, w_args, w_heap, w_applies, trivial, trivial, w_case⟩
end start1
theorem witness_1 : WitnessClaimed_1 := ⟨start1.p0, start1.e0, start1.about1, start1.theMethod, start1.args0, start1.below0, start1.atStart⟩
end Jvm.Pilot.@@N@@
