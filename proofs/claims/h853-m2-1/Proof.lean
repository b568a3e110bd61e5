import JvmDerived
import JvmDerived.Pilot.@@N@@Statement
import JvmDerived.Pilot.@@N@@Code
set_option linter.unusedVariables false
set_option linter.unusedSimpArgs false
namespace Jvm.Pilot.@@N@@
open Jvm Jvm.ClassFile Sem Op Lib Jvm.Free Jvm.Stand Jvm.LawKit Jvm.RoadKit Bundle Jvm.Pilot.@@N@@.Jvm.D
section Own
variable {p : Program} {l : Launch} {e : Env} {R : Room} {s : State} {m : MethodId} {args : Array Value} {below : List Frame} {meth : Method} {c : Code} {T : State} {locs : List Loc} {cells slots : Nat} {Z : State} {a0 : Array Value} {h h' : Heap} {Q : Option Value → Heap → List Loc → Prop} {k n : Nat}
/-- from U the walk comes to a return of which Q holds -/
def Goes (p : Program) (e : Env) (below : List Frame) (s : State) (Q : Option Value → Heap → List Loc → Prop) (k n : Nat) (U : State) : Prop :=
  ∃ s₂ o, Steps p.tables e below U s₂ ∧ s₂.status = .running ∧ Ended s₂ below o ∧ ∃ v L, o = .returned v ∧ Q v s₂.heap L ∧ FrameEnd s o s₂ L k n
theorem Goes.go {U U' : State} (h : ∀ t, Steps p.tables e below U' t → Steps p.tables e below U t) (r : Goes p e below s Q k n U') : Goes p e below s Q k n U := by
  obtain ⟨s₂, o, h1, r⟩ := r
  exact ⟨s₂, o, h _ h1, r⟩
theorem Goes.outI (X : Stand p l e R s m args below meth c T locs cells slots) (hx : p.tables.exec = Jvm.exec) (hlk : meth.locks = false) (hret : meth.sig.returnType = some .int) {pc : Nat} {Ls : Array Slot} {z : Int32} (hd : decode c.code pc = .ok (.ireturn, 1)) (eT : T.heap = h) (hq : Q (some (.int z)) h locs) (hk : cells ≤ k) (hn : slots ≤ n) :
    Goes p e below s Q k n (T.setTop (mkF m pc Ls [.int z])) := by
  obtain ⟨fs, hr, hrun, hended, hW, hsame⟩ := X.leave (v := some (.int z)) (fun h => by rw [hret] at h; cases h) hlk
  refine ⟨_, _, X.ireturnOut hx hret rfl (Or.inl rfl) hd hr, hrun, hended, _, _, rfl, ?_, ⟨_, rfl⟩, hW, hsame.mono hk hn⟩
  show Q _ T.heap _
  rw [eT]; exact hq
theorem Goes.outZ (X : Stand p l e R s m args below meth c T locs cells slots) (hx : p.tables.exec = Jvm.exec) (hlk : meth.locks = false) (hret : meth.sig.returnType = some .boolean) {pc : Nat} {Ls : Array Slot} {z : Int32} (hz : narrow .boolean (.int z) = .int z) (hd : decode c.code pc = .ok (.ireturn, 1)) (eT : T.heap = h) (hq : Q (some (.int z)) h locs) (hk : cells ≤ k) (hn : slots ≤ n) :
    Goes p e below s Q k n (T.setTop (mkF m pc Ls [.int z])) := by
  obtain ⟨fs, hr, hrun, hended, hW, hsame⟩ := X.leave (v := some (.int z)) (fun h => by rw [hret] at h; cases h) hlk
  refine ⟨_, _, X.ireturnOut hx hret hz (Or.inr (Or.inl rfl)) hd hr, hrun, hended, _, _, rfl, ?_, ⟨_, rfl⟩, hW, hsame.mono hk hn⟩
  show Q _ T.heap _
  rw [eT]; exact hq
theorem Goes.outJ (X : Stand p l e R s m args below meth c T locs cells slots) (hx : p.tables.exec = Jvm.exec) (hlk : meth.locks = false) (hret : meth.sig.returnType = some .long) {pc : Nat} {Ls : Array Slot} {z : Int64} (hd : decode c.code pc = .ok (.lreturn, 1)) (eT : T.heap = h) (hq : Q (some (.long z)) h locs) (hk : cells ≤ k) (hn : slots ≤ n) :
    Goes p e below s Q k n (T.setTop (mkF m pc Ls [.long z])) := by
  obtain ⟨fs, hr, hrun, hended, hW, hsame⟩ := X.leave (v := some (.long z)) (fun h => by rw [hret] at h; cases h) hlk
  refine ⟨_, _, X.lreturnOut hx hret hd hr, hrun, hended, _, _, rfl, ?_, ⟨_, rfl⟩, hW, hsame.mono hk hn⟩
  show Q _ T.heap _
  rw [eT]; exact hq
theorem Goes.outA (X : Stand p l e R s m args below meth c T locs cells slots) (hx : p.tables.exec = Jvm.exec) (hlk : meth.locks = false) {t : FieldType} (hret : meth.sig.returnType = some t) (ht : t.isReference = true) {pc : Nat} {Ls : Array Slot} {w : Value} (hw : w.isRef = true) (hd : decode c.code pc = .ok (.areturn, 1)) (eT : T.heap = h) (hq : Q (some w) h locs) (hk : cells ≤ k) (hn : slots ≤ n) :
    Goes p e below s Q k n (T.setTop (mkF m pc Ls [w])) := by
  obtain ⟨fs, hr, hrun, hended, hW, hsame⟩ := X.leave (v := some w) (fun h => by rw [hret] at h; cases h) hlk
  refine ⟨_, _, X.areturnOut hx hw hret ht hd hr, hrun, hended, _, _, rfl, ?_, ⟨_, rfl⟩, hW, hsame.mono hk hn⟩
  show Q _ T.heap _
  rw [eT]; exact hq
theorem Goes.outV (X : Stand p l e R s m args below meth c T locs cells slots) (hx : p.tables.exec = Jvm.exec) (hlk : meth.locks = false) (hret : meth.sig.returnType = none) {pc : Nat} {Ls : Array Slot} (hd : decode c.code pc = .ok (.return_, 1)) (eT : T.heap = h) (hq : Q none h locs) (hk : cells ≤ k) (hn : slots ≤ n) :
    Goes p e below s Q k n (T.setTop (mkF m pc Ls [])) := by
  obtain ⟨fs, hr, hrun, hended, hW, hsame⟩ := X.leave (v := none) (fun _ => rfl) hlk
  refine ⟨_, _, X.returnOut hx hret hd hr, hrun, hended, _, _, rfl, ?_, ⟨_, rfl⟩, hW, hsame.mono hk hn⟩
  show Q _ T.heap _
  rw [eT]; exact hq
/-- an array, by the list of what it holds -/
def Arl (Z : State) (h : Heap) (a : Addr) (ty : FieldType) (vs : List Value) : Prop := ∃ c : Cell, Arr Z h a c ty ∧ c.slots.toList = vs
section Arls
variable {a b : Addr} {ty : FieldType} {vs : List Value} {v : Value} {sl : Nat} {ws : List Addr} {j : Int32}
theorem Arl.lt (F : Arl Z h a ty vs) : a < h.size := by obtain ⟨c, A, -⟩ := F; exact A.lt
theorem Arl.ext (F : Arl Z h a ty vs) (E : Ext h h') : Arl Z h' a ty vs := by obtain ⟨c, A, r⟩ := F; exact ⟨c, A.ext E, r⟩
theorem Arl.other (F : Arl Z h b ty vs) (W : Wr h h' a sl v) (q : b ≠ a) : Arl Z h' b ty vs := by obtain ⟨c, A, r⟩ := F; exact ⟨c, A.other W q, r⟩
theorem Arl.keep (F : Arl Z h a ty vs) (K : Keep h h' ws) (q : a ∉ ws) : Arl Z h' a ty vs := by obtain ⟨c, A, r⟩ := F; exact ⟨c, ⟨K.2.1 a c A.1 q, A.2⟩, r⟩
theorem Arl.set (F : Arl Z h a ty vs) (W : Wr h h' a sl v) : Arl Z h' a ty (vs.set sl v) := by
  obtain ⟨c, A, r⟩ := F
  refine ⟨_, A.same W, ?_⟩
  subst r
  simp [Cell.setSlot]
theorem Arl.eq {vs' : List Value} (F : Arl Z h a ty vs) (e : vs = vs') : Arl Z h a ty vs' := e ▸ F
theorem own_in {c : Cell} (r : c.slots.toList = vs) (h0 : ¬ j < 0) (h1 : j.toNatClampNeg < vs.length) : ¬ (j < 0 ∨ c.slots.size ≤ j.toNatClampNeg) := by
  subst r
  intro q
  rcases q with q | q
  · exact h0 q
  · rw [Array.length_toList] at h1; omega
theorem own_lt (hv : vs[sl]? = some v) : sl < vs.length := (List.getElem?_eq_some_iff.mp hv).1
end Arls
theorem own_ati {xs : List Int32} {j : Nat} {w : Int32} (h : xs[j]? = some w) : (xs.map Value.int)[j]? = some (.int w) := by
  rw [List.getElem?_map, h]; rfl
theorem own_lni {xs : List Int32} {j k : Nat} (hl : xs.length = k) (h : j < k) : j < (xs.map Value.int).length := by
  rw [List.length_map, hl]; exact h
theorem own_sti {a : Addr} {xs : List Int32} {j : Nat} {w : Int32} (A : Arl Z h a .int ((xs.map Value.int).set j (.int w))) : Arl Z h a .int ((xs.set j w).map Value.int) := A.eq List.map_set.symm
theorem own_selP {C : String} {y y' : MethodName} (hs : (Cond.selects C y' y').before args s = true) (hcls : y'.cls = y.cls) (hpriv : s.PrivateAt y) (hinst : (Cond.instanceMethod y).before args s = true) (hy : y.cls ≠ "java/lang/invoke/MethodHandle" ∧ y.cls ≠ "java/lang/invoke/VarHandle") : (Cond.selects y.cls y y).before args s = true := by
  obtain ⟨c2, r2, m2, -, -, q3, -, kP, hkP, hkPi⟩ := Cond.selects_spec hs
  have hc : s.vm.findClass y.cls = some m2.cls := hcls ▸ findClass_of_methodNamed q3
  exact selects_self_of_private hc hkP hkPi hpriv hinst hy
theorem own_neA {a b : Addr} {C : String} {k : Nat} {ty : FieldType} {vs : List Value} (F : Exa Z h a C) (wi : (Cond.instantiable C k).before a0 Z = true) (G : Arl Z h b ty vs) : a ≠ b := by
  obtain ⟨c', A', -⟩ := G
  exact ne_arr F wi A'
theorem own_newP (X : Stand p l e R s m args below meth c T locs cells slots) (hx : p.tables.exec = Jvm.exec) (hZ : Z.Warmed39 s.vm) {aty : ArrayType} (w : (Cond.arrayClass (newarray.typeOf aty)).before a0 Z = true) (eT : T.heap = h) {g : JFrame} (hg : g.method = m) (hd : decode c.code g.pc = .ok (.newarray aty, 2)) {n : Int32} {rest : List Value} (hs : g.stack = .int n :: rest)
    (hn : ¬ n < 0) {cap : Nat} (hcap : n.toNatClampNeg ≤ cap) (hb : cap * 8 ≤ 536870912) (hc : cells + 1 ≤ R.cells) (hl : slots + cap ≤ R.slots) :
    ∃ T' h', Stand p l e R s m args below meth c T' locs (cells + 1) (slots + cap) ∧ T'.heap = h' ∧ Ext h h' ∧ Arl Z h' h.size (newarray.typeOf aty) (List.replicate n.toNatClampNeg (defaultValue (newarray.typeOf aty))) ∧
      ∀ target, Steps p.tables e below (T'.setTop { g with pc := g.pc + 2, stack := .ref h.size :: rest }) target → Steps p.tables e below (T.setTop g) target := by
  obtain ⟨T', h', cA, X', e', E', A', st⟩ := newP X hx hZ w eT hg hd hs hn hcap hb hc hl
  exact ⟨T', h', X', e', E', ⟨_, A', by simp [newA]⟩, st⟩
theorem own_stB (X : Stand p l e R s m args below meth c T locs cells slots) (hx : p.tables.exec = Jvm.exec) (hZ : Z.Warmed39 s.vm) (eT : T.heap = h) {a : Addr} {vs : List Value} (A : Arl Z h a .byte vs) {j x : Int32} (hj : ¬ j < 0) (hj' : j.toNatClampNeg < vs.length) {g : JFrame} (hg : g.method = m) {rest : List Value} (hs : g.stack = .int x :: .int j :: .ref a :: rest) (hd : decode c.code g.pc = .ok (.bastore, 1)) :
    ∃ T' h', Stand p l e R s m args below meth c T' (locs ++ [⟨a, j.toNatClampNeg⟩]) cells slots ∧ T'.heap = h' ∧ Wr h h' a j.toNatClampNeg (.int x.toInt8.toInt32) ∧ Arl Z h' a .byte (vs.set j.toNatClampNeg (.int x.toInt8.toInt32)) ∧ ∀ target, Steps p.tables e below (T'.setTop { g with pc := g.pc + 1, stack := rest }) target → Steps p.tables e below (T.setTop g) target := by
  obtain ⟨c', A', r⟩ := A
  obtain ⟨T', h', X', e', W, st⟩ := stB X hx hZ eT A' (own_in r hj hj') hg hs hd
  exact ⟨T', h', X', e', W, Arl.set ⟨c', A', r⟩ W, st⟩
theorem own_stI (X : Stand p l e R s m args below meth c T locs cells slots) (hx : p.tables.exec = Jvm.exec) (hZ : Z.Warmed39 s.vm) (eT : T.heap = h) {a : Addr} {vs : List Value} (A : Arl Z h a .int vs) {j x : Int32} (hj : ¬ j < 0) (hj' : j.toNatClampNeg < vs.length) {g : JFrame} (hg : g.method = m) {rest : List Value} (hs : g.stack = .int x :: .int j :: .ref a :: rest) (hd : decode c.code g.pc = .ok (.iastore, 1)) :
    ∃ T' h', Stand p l e R s m args below meth c T' (locs ++ [⟨a, j.toNatClampNeg⟩]) cells slots ∧ T'.heap = h' ∧ Wr h h' a j.toNatClampNeg (.int x) ∧ Arl Z h' a .int (vs.set j.toNatClampNeg (.int x)) ∧ ∀ target, Steps p.tables e below (T'.setTop { g with pc := g.pc + 1, stack := rest }) target → Steps p.tables e below (T.setTop g) target := by
  obtain ⟨c', A', r⟩ := A
  obtain ⟨T', h', X', e', W, st⟩ := stI X hx hZ eT A' (own_in r hj hj') hg hs hd
  exact ⟨T', h', X', e', W, Arl.set ⟨c', A', r⟩ W, st⟩
theorem own_stJ (X : Stand p l e R s m args below meth c T locs cells slots) (hx : p.tables.exec = Jvm.exec) (hZ : Z.Warmed39 s.vm) (eT : T.heap = h) {a : Addr} {vs : List Value} (A : Arl Z h a .long vs) {j : Int32} {x : Int64} (hj : ¬ j < 0) (hj' : j.toNatClampNeg < vs.length) {g : JFrame} (hg : g.method = m) {rest : List Value} (hs : g.stack = .long x :: .int j :: .ref a :: rest) (hd : decode c.code g.pc = .ok (.lastore, 1)) :
    ∃ T' h', Stand p l e R s m args below meth c T' (locs ++ [⟨a, j.toNatClampNeg⟩]) cells slots ∧ T'.heap = h' ∧ Wr h h' a j.toNatClampNeg (.long x) ∧ Arl Z h' a .long (vs.set j.toNatClampNeg (.long x)) ∧ ∀ target, Steps p.tables e below (T'.setTop { g with pc := g.pc + 1, stack := rest }) target → Steps p.tables e below (T.setTop g) target := by
  obtain ⟨c', A', r⟩ := A
  obtain ⟨T', h', X', e', W, st⟩ := stJ X hx hZ eT A' (own_in r hj hj') hg hs hd
  exact ⟨T', h', X', e', W, Arl.set ⟨c', A', r⟩ W, st⟩
theorem own_at {a : Addr} {c' : Cell} {vs : List Value} {v : Value} {j : Int32} (r : c'.slots.toList = vs) (hv : vs[j.toNatClampNeg]? = some v) : c'.slots[j.toNatClampNeg]? = some v := by
  subst r; simpa using hv
theorem own_ldB (X : Stand p l e R s m args below meth c T locs cells slots) (hx : p.tables.exec = Jvm.exec) (hZ : Z.Warmed39 s.vm) (eT : T.heap = h) {a : Addr} {vs : List Value} {v : Value} (A : Arl Z h a .byte vs) {j : Int32} (hj : ¬ j < 0) (hv : vs[j.toNatClampNeg]? = some v) {g : JFrame} (hg : g.method = m) {rest : List Value} (hs : g.stack = .int j :: .ref a :: rest) (hd : decode c.code g.pc = .ok (.baload, 1)) :
    ∀ target, Steps p.tables e below (T.setTop { g with pc := g.pc + 1, stack := v :: rest }) target → Steps p.tables e below (T.setTop g) target := by
  obtain ⟨c', A', r⟩ := A
  exact fun t k => X.baloadBytes hx (by rw [eT]; exact A'.1) (State.isArrayOf_alike hZ.alike A'.2.1) A'.2.2 (own_in r hj (own_lt hv)) (own_at (a := a) r hv) hg hs hd t k
theorem own_ldI (X : Stand p l e R s m args below meth c T locs cells slots) (hx : p.tables.exec = Jvm.exec) (hZ : Z.Warmed39 s.vm) (eT : T.heap = h) {a : Addr} {vs : List Value} {v : Value} (A : Arl Z h a .int vs) {j : Int32} (hj : ¬ j < 0) (hv : vs[j.toNatClampNeg]? = some v) {g : JFrame} (hg : g.method = m) {rest : List Value} (hs : g.stack = .int j :: .ref a :: rest) (hd : decode c.code g.pc = .ok (.iaload, 1)) :
    ∀ target, Steps p.tables e below (T.setTop { g with pc := g.pc + 1, stack := v :: rest }) target → Steps p.tables e below (T.setTop g) target := by
  obtain ⟨c', A', r⟩ := A
  exact fun t k => X.iaload hx (by rw [eT]; exact A'.1) (State.isArrayOf_alike hZ.alike A'.2.1) A'.2.2 (own_in r hj (own_lt hv)) (own_at (a := a) r hv) hg hs hd t k
theorem own_ldJ (X : Stand p l e R s m args below meth c T locs cells slots) (hx : p.tables.exec = Jvm.exec) (hZ : Z.Warmed39 s.vm) (eT : T.heap = h) {a : Addr} {vs : List Value} {v : Value} (A : Arl Z h a .long vs) {j : Int32} (hj : ¬ j < 0) (hv : vs[j.toNatClampNeg]? = some v) {g : JFrame} (hg : g.method = m) {rest : List Value} (hs : g.stack = .int j :: .ref a :: rest) (hd : decode c.code g.pc = .ok (.laload, 1)) :
    ∀ target, Steps p.tables e below (T.setTop { g with pc := g.pc + 1, stack := v :: rest }) target → Steps p.tables e below (T.setTop g) target := by
  obtain ⟨c', A', r⟩ := A
  exact fun t k => X.laload hx (by rw [eT]; exact A'.1) (State.isArrayOf_alike hZ.alike A'.2.1) A'.2.2 (own_in r hj (own_lt hv)) (own_at (a := a) r hv) hg hs hd t k
theorem own_len (X : Stand p l e R s m args below meth c T locs cells slots) (hx : p.tables.exec = Jvm.exec) (hZ : Z.Warmed39 s.vm) (eT : T.heap = h) {a : Addr} {ty : FieldType} {vs : List Value} (A : Arl Z h a ty vs) {n : Int32} (hn : vs.length.toInt32 = n) {g : JFrame} (hg : g.method = m) {rest : List Value} (hs : g.stack = .ref a :: rest) (hd : decode c.code g.pc = .ok (.arraylength, 1)) :
    ∀ target, Steps p.tables e below (T.setTop { g with pc := g.pc + 1, stack := .int n :: rest }) target → Steps p.tables e below (T.setTop g) target := by
  obtain ⟨c', A', r⟩ := A
  have q : c'.slots.size.toInt32 = n := by rw [← hn, ← r, Array.length_toList]
  exact fun t k => X.arraylength hx (ty := ty) (by rw [eT]; exact A'.1) (State.isArrayOf_alike hZ.alike A'.2.1) hg hs hd t (q.symm ▸ k)
end Own
theorem own_nar8 (x : Int32) : x.toInt8.toInt32.toInt8.toInt32 = x.toInt8.toInt32 := by simp
def exF (w off len i : Int32) : Int32 := if i < len then (((w).toUInt32 >>> (((8 : Int32) * (off + i)) &&& 31).toUInt32).toInt32 &&& (255 : Int32)) else (-1 : Int32)
theorem own_255 (x : Int32) : (x.toInt8.toInt32 &&& (255 : Int32)) = (x &&& (255 : Int32)) := by
  have h1 := c_i2b x
  have h2 := c_mask x 255 8 (by decide) (by decide)
  have h3 := c_mask x.toInt8.toInt32 255 8 (by decide) (by decide)
  apply Int32.toInt_inj.mp
  omega
theorem own_sh0 (x : Int32) : ((x).toUInt32 >>> ((0 : Int32) &&& 31).toUInt32).toInt32 = x := by
  have e : ((0 : Int32) &&& 31).toUInt32 = 0 := by decide
  rw [e]; simp
theorem own_0 {w off len i : Int32} (h : i < len) (h2 : (8 : Int32) * (off + i) = 0) : (w.toInt8.toInt32 &&& (255 : Int32)) = exF w off len i := by
  rw [exF, if_pos h, own_255, h2, own_sh0]
theorem own_n {w off len i : Int32} (j : Int32) (h : i < len) (h2 : (8 : Int32) * (off + i) = j) : ((((w).toUInt32 >>> (j &&& 31).toUInt32).toInt32).toInt8.toInt32 &&& (255 : Int32)) = exF w off len i := by
  rw [exF, if_pos h, own_255, h2]
theorem own_m {w off len i : Int32} (h : ¬ i < len) : (-1 : Int32) = exF w off len i := by
  rw [exF, if_neg h]
theorem own_o {x o : Int32} (h : (x &&& (2147483647 : Int32)) % (5 : Int32) = o) : 0 ≤ o.toInt ∧ o.toInt < 5 := by
  have h1 := c_mask x 2147483647 31 (by decide) (by decide)
  have h2 := c_irem (x &&& 2147483647) 5 5 (by decide)
  rw [h] at h2
  omega
theorem own_5 {o : Int32} (h : 0 ≤ o.toInt ∧ o.toInt < 5) : ((5 : Int32) - o).toInt = 5 - o.toInt := by
  have e : (5 : Int32).toInt = 5 := by decide
  have h1 := c_isub 5 o
  have r := rng32 ((5 : Int32) - o)
  omega
theorem own_5z {o : Int32} (h : 0 ≤ o.toInt ∧ o.toInt < 5) : ((5 : Int32) - o) ≠ 0 := fun q => by
  have h1 := own_5 h
  rw [q] at h1
  have e : (0 : Int32).toInt = 0 := by decide
  omega
theorem own_l {x o l : Int32} (h : 0 ≤ o.toInt ∧ o.toInt < 5) (hl : (x &&& (2147483647 : Int32)) % ((5 : Int32) - o) = l) : 0 ≤ l.toInt ∧ l.toInt < 5 - o.toInt := by
  have h1 := c_mask x 2147483647 31 (by decide) (by decide)
  have h2 := (c_iremV (x &&& 2147483647) ((5 : Int32) - o)).1
  rw [own_5 h, hl] at h2
  have h3 := h2 (by omega) (by omega)
  omega
theorem own_ol {o l : Int32} (h : 0 ≤ o.toInt ∧ o.toInt < 5) (hl : 0 ≤ l.toInt ∧ l.toInt < 5 - o.toInt) : (o = 0 ∧ l = 0) ∨ (o = 0 ∧ l = 1) ∨ (o = 0 ∧ l = 2) ∨ (o = 0 ∧ l = 3) ∨ (o = 0 ∧ l = 4) ∨ (o = 1 ∧ l = 0) ∨ (o = 1 ∧ l = 1) ∨ (o = 1 ∧ l = 2) ∨ (o = 1 ∧ l = 3) ∨ (o = 2 ∧ l = 0) ∨ (o = 2 ∧ l = 1) ∨ (o = 2 ∧ l = 2) ∨ (o = 3 ∧ l = 0) ∨ (o = 3 ∧ l = 1) ∨ (o = 4 ∧ l = 0) := by
  have e : ∀ k : Nat, k < 5 → o.toInt = k → o = Int32.ofNat k := fun k hk q => Int32.toInt_inj.mp (by rw [q, Int32.toInt_ofNat_of_lt (by omega)])
  have e' : ∀ k : Nat, k < 5 → l.toInt = k → l = Int32.ofNat k := fun k hk q => Int32.toInt_inj.mp (by rw [q, Int32.toInt_ofNat_of_lt (by omega)])
  have ho : o.toInt = (0 : Nat) ∨ o.toInt = (1 : Nat) ∨ o.toInt = (2 : Nat) ∨ o.toInt = (3 : Nat) ∨ o.toInt = (4 : Nat) := by omega
  have hl' : l.toInt = (0 : Nat) ∨ l.toInt = (1 : Nat) ∨ l.toInt = (2 : Nat) ∨ l.toInt = (3 : Nat) ∨ l.toInt = (4 : Nat) := by omega
  rcases ho with q | q | q | q | q <;> rcases hl' with r | r | r | r | r <;> first | (exfalso; omega) | (have a := e _ (by decide) q; have b := e' _ (by decide) r; subst a; subst b; simp)
theorem pd0 : parseMethodDescriptor "([BII)V" = some ⟨[(.array .byte), .int, .int], none⟩ := by decide +kernel
theorem pd1 : parseMethodDescriptor "()V" = some ⟨[], none⟩ := by decide +kernel
theorem pd2 : parseMethodDescriptor "()I" = some ⟨[], (some .int)⟩ := by decide +kernel
theorem pd3 : parseMethodDescriptor "(IIII)I" = some ⟨[.int, .int, .int, .int], (some .int)⟩ := by decide +kernel
theorem pd4 : parseMethodDescriptor "(III)Z" = some ⟨[.int, .int, .int], (some .boolean)⟩ := by decide +kernel
theorem d2_0 : decode jdk_2022_method_1_code 0 = .ok (.aload_n 0, 1) := by decide +kernel
theorem d2_1 : decode jdk_2022_method_1_code 1 = .ok (.invokespecial 3, 3) := by decide +kernel
theorem d2_4 : decode jdk_2022_method_1_code 4 = .ok (.return_, 1) := by decide +kernel
theorem pn0 : plainName "java/io/InputStream" = true := by first | (simp [plainName, overriddenIn]; done) | decide +kernel
theorem ef_rm2 (m : MethodId) (a : Addr) : entryFrame m #[(.ref a)] 1 = mkF m 0 #[.val (.ref a)] [] := by first | (simp [entryFrame, mkF, argsToLocals, Value.category]; done) | rfl
def Q_rm2 (Z : State) (a : Addr) (h0 : Heap) (n0 : Nat) (v : Option Value) (h : Heap) (L : List Loc) : Prop := v = none ∧ Fr n0 L ∧ h = h0
set_option maxRecDepth 65536 in
set_option maxHeartbeats 40000000 in
theorem rm2 (l : Launch) (Z : State) (a0 : Array Value) (hw : ∀ d ∈ tables_1, d.before a0 Z = true) (ws : List Jvm.Cond) (a : Addr) (h0 : Heap) (n0 : Nat) (Z0 : n0 ≤ h0.size)  :
    MetFree l (⟨"java/io/InputStream", "<init>", "()V"⟩ : MethodName) (head1 (Jvm.Cond.code (⟨"java/io/InputStream", "<init>", "()V"⟩ : MethodName) jdk_2022_method_1_code 1 none :: ws) ({ frames := 1, cells := 0, slots := 0, locals := 12 } : Room)) (fun aa U => aa = #[(.ref a)] ∧ Z.Warmed39 U.vm ∧ U.heap = h0) (fun _ _ _ _ _ => True) (fun _ U oo U' => ∃ v L, oo = .returned v ∧ Q_rm2 Z a h0 n0 v U'.heap L ∧ FrameEnd U oo U' L ({ frames := 1, cells := 0, slots := 0, locals := 12 } : Room).cells ({ frames := 1, cells := 0, slots := 0, locals := 12 } : Room).slots) := by
  refine MetFree.of_bodySF (plainFor_of_name pn0) hisR ?_
  intro p e s m args below meth c s₁ Bd hml0 hP hK
  obtain ⟨rfl, hZ, hh⟩ := hP
  have hx := Bd.exec
  have hby := Bd.bytes
  have hml : c.maxLocals = 1 := hml0
  have hown : s.vm.findClass "java/io/InputStream" = some m.cls := findClass_of_methodNamed Bd.named
  have hnm := (name_of_methodNamed Bd.named Bd.method).1
  have hlk : meth.locks = false := Bd.notSynchronized
  have hret := Bd.returns
  have X0 : Stand p l e ({ frames := 1, cells := 0, slots := 0, locals := 12 } : Room) s m #[(.ref a)] below meth c s₁ [] 0 0 := Stand.of_body Bd
  have e0 : s₁.heap = h0 := by rw [← hh, Bd.state]; rfl
  have N0 := Fr.nil n0
  have K0 : Keep h0 h0 [] := Keep.refl _ _
  show Goes p e below s (Q_rm2 Z a h0 n0) ({ frames := 1, cells := 0, slots := 0, locals := 12 } : Room).cells ({ frames := 1, cells := 0, slots := 0, locals := 12 } : Room).slots _
  refine Goes.go (fun t k => castTop (ef_rm2 m a) k) ?_
  show Goes _ _ _ _ _ _ _ (s₁.setTop (mkF m 0 #[.val (.ref a)] []))
  refine Goes.go (fun _ kk => XS.aloadN X0.here hx rfl (hb hby d2_0) rfl rfl kk) ?_
  show Goes _ _ _ _ _ _ _ (s₁.setTop (mkF m 1 _ [(.ref a)]))
  obtain ⟨T1, X1, e1, st1⟩ := initO X0 hx hZ hown (hw _ (List.mem_of_getElem? (i := 13) rfl)) (hw _ (List.mem_of_getElem? (i := 14) rfl)) (hw _ (List.mem_of_getElem? (i := 15) rfl)) e0 (g := (mkF m 1 #[.val (.ref a)] [(.ref a)])) rfl (by rw [hml]; rfl) rfl (hb hby d2_1) (by decide) (W := 0) (by show 2 * 0 + _ ≤ _; exact Nat.le_of_eq rfl) (by decide)
  refine Goes.go (st1) ?_
  show Goes _ _ _ _ _ _ _ (T1.setTop (mkF m 4 _ []))
  exact Goes.outV X1 hx hlk hret (hb hby d2_4) e1 ⟨rfl, N0, rfl⟩ (by decide) (by decide)
theorem d1_0 : decode prog_11_method_1_code 0 = .ok (.aload_n 0, 1) := by decide +kernel
theorem d1_1 : decode prog_11_method_1_code 1 = .ok (.invokespecial 1, 3) := by decide +kernel
theorem d1_4 : decode prog_11_method_1_code 4 = .ok (.aload_n 0, 1) := by decide +kernel
theorem d1_5 : decode prog_11_method_1_code 5 = .ok (.aload_n 1, 1) := by decide +kernel
theorem d1_6 : decode prog_11_method_1_code 6 = .ok (.putfield 7, 3) := by decide +kernel
theorem d1_9 : decode prog_11_method_1_code 9 = .ok (.aload_n 0, 1) := by decide +kernel
theorem d1_10 : decode prog_11_method_1_code 10 = .ok (.iload_n 2, 1) := by decide +kernel
theorem d1_11 : decode prog_11_method_1_code 11 = .ok (.putfield 13, 3) := by decide +kernel
theorem d1_14 : decode prog_11_method_1_code 14 = .ok (.aload_n 0, 1) := by decide +kernel
theorem d1_15 : decode prog_11_method_1_code 15 = .ok (.iload_n 2, 1) := by decide +kernel
theorem d1_16 : decode prog_11_method_1_code 16 = .ok (.iload_n 3, 1) := by decide +kernel
theorem d1_17 : decode prog_11_method_1_code 17 = .ok (.iadd, 1) := by decide +kernel
theorem d1_18 : decode prog_11_method_1_code 18 = .ok (.putfield 17, 3) := by decide +kernel
theorem d1_21 : decode prog_11_method_1_code 21 = .ok (.return_, 1) := by decide +kernel
theorem pn1 : plainName "com/example/wide_schema/wideschema/io/BytesInput" = true := by first | (simp [plainName, overriddenIn]; done) | decide +kernel
theorem ef_rm1 (m : MethodId) (a : Addr) (p0 : Addr) (p1 : Int32) (p2 : Int32) : entryFrame m #[(.ref a), (.ref p0), (.int p1), (.int p2)] 4 = mkF m 0 #[.val (.ref a), .val (.ref p0), .val (.int p1), .val (.int p2)] [] := by first | (simp [entryFrame, mkF, argsToLocals, Value.category]; done) | rfl
def Q_rm1 (Z : State) (a : Addr) (p0 : Addr) (p1 : Int32) (p2 : Int32) (h0 : Heap) (n0 : Nat) (v : Option Value) (h : Heap) (L : List Loc) : Prop := v = none ∧ Fr n0 L ∧ Keep h0 h [a] ∧ Exa Z h a "com/example/wide_schema/wideschema/io/BytesInput" ∧ Fld Z h a "com/example/wide_schema/wideschema/io/BytesInput" "_bytes" "[B" (.ref p0) ∧ Fld Z h a "com/example/wide_schema/wideschema/io/BytesInput" "_next" "I" (.int p1) ∧ Fld Z h a "com/example/wide_schema/wideschema/io/BytesInput" "_end" "I" (.int (p1 + p2))
set_option maxRecDepth 65536 in
set_option maxHeartbeats 40000000 in
theorem rm1 (l : Launch) (Z : State) (a0 : Array Value) (hw : ∀ d ∈ tables_1, d.before a0 Z = true) (ws : List Jvm.Cond) (a : Addr) (p0 : Addr) (p1 : Int32) (p2 : Int32) (h0 : Heap) (n0 : Nat) (Z0 : n0 ≤ h0.size) (E0 : Exa Z h0 a "com/example/wide_schema/wideschema/io/BytesInput") (F__bytes : Fld Z h0 a "com/example/wide_schema/wideschema/io/BytesInput" "_bytes" "[B" .null) (F__next : Fld Z h0 a "com/example/wide_schema/wideschema/io/BytesInput" "_next" "I" (.int (0 : Int32))) (F__end : Fld Z h0 a "com/example/wide_schema/wideschema/io/BytesInput" "_end" "I" (.int (0 : Int32))) (ga : n0 ≤ a) :
    MetFree l (⟨"com/example/wide_schema/wideschema/io/BytesInput", "<init>", "([BII)V"⟩ : MethodName) (head1 (Jvm.Cond.code (⟨"com/example/wide_schema/wideschema/io/BytesInput", "<init>", "([BII)V"⟩ : MethodName) prog_11_method_1_code 4 none :: ws) ({ frames := 2, cells := 0, slots := 0, locals := 24 } : Room)) (fun aa U => aa = #[(.ref a), (.ref p0), (.int p1), (.int p2)] ∧ Z.Warmed39 U.vm ∧ U.heap = h0) (fun _ _ _ _ _ => True) (fun _ U oo U' => ∃ v L, oo = .returned v ∧ Q_rm1 Z a p0 p1 p2 h0 n0 v U'.heap L ∧ FrameEnd U oo U' L ({ frames := 2, cells := 0, slots := 0, locals := 24 } : Room).cells ({ frames := 2, cells := 0, slots := 0, locals := 24 } : Room).slots) := by
  refine MetFree.of_bodySF (plainFor_of_name pn1) hisR ?_
  intro p e s m args below meth c s₁ Bd hml0 hP hK
  obtain ⟨rfl, hZ, hh⟩ := hP
  have hx := Bd.exec
  have hby := Bd.bytes
  have hml : c.maxLocals = 4 := hml0
  have hown : s.vm.findClass "com/example/wide_schema/wideschema/io/BytesInput" = some m.cls := findClass_of_methodNamed Bd.named
  have hnm := (name_of_methodNamed Bd.named Bd.method).1
  have hlk : meth.locks = false := Bd.notSynchronized
  have hret := Bd.returns
  have X0 : Stand p l e ({ frames := 2, cells := 0, slots := 0, locals := 24 } : Room) s m #[(.ref a), (.ref p0), (.int p1), (.int p2)] below meth c s₁ [] 0 0 := Stand.of_body Bd
  have e0 : s₁.heap = h0 := by rw [← hh, Bd.state]; rfl
  have N0 := Fr.nil n0
  have K0 : Keep h0 h0 [a] := Keep.refl _ _
  show Goes p e below s (Q_rm1 Z a p0 p1 p2 h0 n0) ({ frames := 2, cells := 0, slots := 0, locals := 24 } : Room).cells ({ frames := 2, cells := 0, slots := 0, locals := 24 } : Room).slots _
  refine Goes.go (fun t k => castTop (ef_rm1 m a p0 p1 p2) k) ?_
  show Goes _ _ _ _ _ _ _ (s₁.setTop (mkF m 0 #[.val (.ref a), .val (.ref p0), .val (.int p1), .val (.int p2)] []))
  refine Goes.go (fun _ kk => XS.aloadN X0.here hx rfl (hb hby d1_0) rfl rfl kk) ?_
  show Goes _ _ _ _ _ _ _ (s₁.setTop (mkF m 1 _ [(.ref a)]))
  obtain ⟨_, _, ⟨T1, L1, k1, n1⟩, -, X1, ⟨Lc1, hQ1, l1, y1, z1⟩, st1⟩ := X0.specialBack hx (y := (⟨"java/io/InputStream", "<init>", "()V"⟩ : MethodName)) rfl hown (mvT hZ (hw _ (List.mem_of_getElem? (i := 8) rfl))) (mvT hZ (hw _ (List.mem_of_getElem? (i := 9) rfl))) (mvT hZ (hw _ (List.mem_of_getElem? (i := 12) rfl))) (by decide) (backOf (W := 0) (rm2 l Z a0 hw [] a h0 n0 Z0) hZ (hw _ (List.mem_of_getElem? (i := 12) rfl)) (hw _ (List.mem_of_getElem? (i := 11) rfl)) (by decide) (by decide)) (g := (mkF m 1 #[.val (.ref a), .val (.ref p0), .val (.int p1), .val (.int p2)] [(.ref a)])) rfl (by rw [hml]; rfl) (Steps.refl _) (a := a) (argsL := []) (rest := []) (lenOf pd1 rfl) rfl (by show 2 * 0 + _ ≤ _; exact Nat.le_of_eq rfl) (hb hby d1_1) (fun _ _ => ⟨rfl, e0, (by decide : 0 + 0 ≤ _), (by decide : 0 + 0 ≤ _)⟩)
  dsimp only [Pt.U, Pt.locs, Pt.cells, Pt.slots] at X1 l1 y1 z1 st1 hQ1
  subst l1 y1 z1
  obtain ⟨rfl, Nq1, hh1⟩ := hQ1
  have N1 := Fr.app N0 Nq1
  refine Goes.go (fun _ kk => st1.trans kk) ?_
  show Goes _ _ _ _ _ _ _ (T1.setTop (mkF m 4 _ []))
  refine Goes.go (fun _ kk => XS.aloadN X1.here hx rfl (hb hby d1_4) rfl rfl kk) ?_
  show Goes _ _ _ _ _ _ _ (T1.setTop (mkF m 5 _ [(.ref a)]))
  refine Goes.go (fun _ kk => XS.aloadN X1.here hx rfl (hb hby d1_5) rfl rfl kk) ?_
  show Goes _ _ _ _ _ _ _ (T1.setTop (mkF m 6 _ [(.ref p0), (.ref a)]))
  obtain ⟨T2, h2, X2, e2, W2, st2⟩ := putF X1 hx hZ hown (host := "") (Or.inl (hw _ (List.mem_of_getElem? (i := 16) rfl))) Via.refl hh1 F__bytes E0 (Or.inr ⟨(hw _ (List.mem_of_getElem? (i := 17) rfl)), rfl, hnm⟩) (hw _ (List.mem_of_getElem? (i := 3) rfl)) (ty := (.array .byte)) (by decide) rfl rfl (g := (mkF m 6 #[.val (.ref a), .val (.ref p0), .val (.int p1), .val (.int p2)] [(.ref p0), (.ref a)])) rfl rfl (hb hby d1_6)
  have N2 := Fr.snoc X2 N1 ga
  have f := Exa.wr W2 E0
  have f_1 := Fld.other W2 F__next (Or.inr (slot_ne (Or.inl (hw _ (List.mem_of_getElem? (i := 19) rfl))) (Or.inr (hw _ (List.mem_of_getElem? (i := 17) rfl))) (by decide) (t := .int) (t' := (.array .byte)) (by decide) (by decide)))
  have f_2 := Fld.other W2 F__end (Or.inr (slot_ne (Or.inr (hw _ (List.mem_of_getElem? (i := 21) rfl))) (Or.inr (hw _ (List.mem_of_getElem? (i := 17) rfl))) (by decide) (t := .int) (t' := (.array .byte)) (by decide) (by decide)))
  have f_3 := Fld.same W2 F__bytes
  have Z2 : n0 ≤ h2.size := by rw [W2.size]; exact Z0
  have K2 := K0.wr W2 (Or.inl (List.mem_of_getElem? (i := 0) rfl))
  refine Goes.go (st2) ?_
  show Goes _ _ _ _ _ _ _ (T2.setTop (mkF m 9 _ []))
  refine Goes.go (fun _ kk => XS.aloadN X2.here hx rfl (hb hby d1_9) rfl rfl kk) ?_
  show Goes _ _ _ _ _ _ _ (T2.setTop (mkF m 10 _ [(.ref a)]))
  refine Goes.go (fun _ kk => XS.iloadN X2.here hx rfl (hb hby d1_10) rfl kk) ?_
  show Goes _ _ _ _ _ _ _ (T2.setTop (mkF m 11 _ [(.int p1), (.ref a)]))
  obtain ⟨T3, h3, X3, e3, W3, st3⟩ := putF X2 hx hZ hown (host := "") (Or.inl (hw _ (List.mem_of_getElem? (i := 18) rfl))) Via.refl e2 f_1 f (Or.inl (hw _ (List.mem_of_getElem? (i := 19) rfl))) (hw _ (List.mem_of_getElem? (i := 3) rfl)) (ty := .int) (by decide) rfl rfl (g := (mkF m 11 #[.val (.ref a), .val (.ref p0), .val (.int p1), .val (.int p2)] [(.int p1), (.ref a)])) rfl rfl (hb hby d1_11)
  have N3 := Fr.snoc X3 N2 ga
  have f_4 := Exa.wr W3 f
  have f_5 := Fld.other W3 f_3 (Or.inr (slot_ne (Or.inr (hw _ (List.mem_of_getElem? (i := 17) rfl))) (Or.inl (hw _ (List.mem_of_getElem? (i := 19) rfl))) (by decide) (t := (.array .byte)) (t' := .int) (by decide) (by decide)))
  have f_6 := Fld.other W3 f_2 (Or.inr (slot_ne (Or.inr (hw _ (List.mem_of_getElem? (i := 21) rfl))) (Or.inl (hw _ (List.mem_of_getElem? (i := 19) rfl))) (by decide) (t := .int) (t' := .int) (by decide) (by decide)))
  have f_7 := Fld.same W3 f_1
  have Z3 : n0 ≤ h3.size := by rw [W3.size]; exact Z2
  have K3 := K2.wr W3 (Or.inl (List.mem_of_getElem? (i := 0) rfl))
  refine Goes.go (st3) ?_
  show Goes _ _ _ _ _ _ _ (T3.setTop (mkF m 14 _ []))
  refine Goes.go (fun _ kk => XS.aloadN X3.here hx rfl (hb hby d1_14) rfl rfl kk) ?_
  show Goes _ _ _ _ _ _ _ (T3.setTop (mkF m 15 _ [(.ref a)]))
  refine Goes.go (fun _ kk => XS.iloadN X3.here hx rfl (hb hby d1_15) rfl kk) ?_
  show Goes _ _ _ _ _ _ _ (T3.setTop (mkF m 16 _ [(.int p1), (.ref a)]))
  refine Goes.go (fun _ kk => XS.iloadN X3.here hx rfl (hb hby d1_16) rfl kk) ?_
  show Goes _ _ _ _ _ _ _ (T3.setTop (mkF m 17 _ [(.int p2), (.int p1), (.ref a)]))
  refine Goes.go (fun _ kk => XS.iadd X3.here hx rfl (hb hby d1_17) rfl kk) ?_
  show Goes _ _ _ _ _ _ _ (T3.setTop (mkF m 18 _ [(.int (p1 + p2)), (.ref a)]))
  obtain ⟨T4, h4, X4, e4, W4, st4⟩ := putF X3 hx hZ hown (host := "") (Or.inl (hw _ (List.mem_of_getElem? (i := 20) rfl))) Via.refl e3 f_6 f_4 (Or.inr ⟨(hw _ (List.mem_of_getElem? (i := 21) rfl)), rfl, hnm⟩) (hw _ (List.mem_of_getElem? (i := 3) rfl)) (ty := .int) (by decide) rfl rfl (g := (mkF m 18 #[.val (.ref a), .val (.ref p0), .val (.int p1), .val (.int p2)] [(.int (p1 + p2)), (.ref a)])) rfl rfl (hb hby d1_18)
  have N4 := Fr.snoc X4 N3 ga
  have f_8 := Exa.wr W4 f_4
  have f_9 := Fld.other W4 f_5 (Or.inr (slot_ne (Or.inr (hw _ (List.mem_of_getElem? (i := 17) rfl))) (Or.inr (hw _ (List.mem_of_getElem? (i := 21) rfl))) (by decide) (t := (.array .byte)) (t' := .int) (by decide) (by decide)))
  have f_10 := Fld.other W4 f_7 (Or.inr (slot_ne (Or.inl (hw _ (List.mem_of_getElem? (i := 19) rfl))) (Or.inr (hw _ (List.mem_of_getElem? (i := 21) rfl))) (by decide) (t := .int) (t' := .int) (by decide) (by decide)))
  have f_11 := Fld.same W4 f_6
  have Z4 : n0 ≤ h4.size := by rw [W4.size]; exact Z3
  have K4 := K3.wr W4 (Or.inl (List.mem_of_getElem? (i := 0) rfl))
  refine Goes.go (st4) ?_
  show Goes _ _ _ _ _ _ _ (T4.setTop (mkF m 21 _ []))
  exact Goes.outV X4 hx hlk hret (hb hby d1_21) e4 ⟨rfl, N4, K4, f_8, f_9, f_10, f_11⟩ (by decide) (by decide)
theorem d4_0 : decode prog_11_method_5_code 0 = .ok (.aload_n 0, 1) := by decide +kernel
theorem d4_1 : decode prog_11_method_5_code 1 = .ok (.getfield 17, 3) := by decide +kernel
theorem d4_4 : decode prog_11_method_5_code 4 = .ok (.aload_n 0, 1) := by decide +kernel
theorem d4_5 : decode prog_11_method_5_code 5 = .ok (.getfield 13, 3) := by decide +kernel
theorem d4_8 : decode prog_11_method_5_code 8 = .ok (.isub, 1) := by decide +kernel
theorem d4_9 : decode prog_11_method_5_code 9 = .ok (.ireturn, 1) := by decide +kernel
theorem ef_rm3 (m : MethodId) (a : Addr) : entryFrame m #[(.ref a)] 1 = mkF m 0 #[.val (.ref a)] [] := by first | (simp [entryFrame, mkF, argsToLocals, Value.category]; done) | rfl
def Q_rm3 (Z : State) (a : Addr) (nx : Int32) (en : Int32) (h0 : Heap) (n0 : Nat) (v : Option Value) (h : Heap) (L : List Loc) : Prop := v = some (.int (en - nx)) ∧ Fr n0 L ∧ h = h0
set_option maxRecDepth 65536 in
set_option maxHeartbeats 40000000 in
theorem rm3 (l : Launch) (Z : State) (a0 : Array Value) (hw : ∀ d ∈ tables_1, d.before a0 Z = true) (ws : List Jvm.Cond) (a : Addr) (nx : Int32) (en : Int32) (h0 : Heap) (n0 : Nat) (Z0 : n0 ≤ h0.size) (F_next : Fld Z h0 a "com/example/wide_schema/wideschema/io/BytesInput" "_next" "I" (.int nx)) (F_end : Fld Z h0 a "com/example/wide_schema/wideschema/io/BytesInput" "_end" "I" (.int en)) :
    MetFree l (⟨"com/example/wide_schema/wideschema/io/BytesInput", "available", "()I"⟩ : MethodName) (head1 (Jvm.Cond.code (⟨"com/example/wide_schema/wideschema/io/BytesInput", "available", "()I"⟩ : MethodName) prog_11_method_5_code 1 (some .int) :: ws) ({ frames := 0, cells := 0, slots := 0, locals := 0 } : Room)) (fun aa U => aa = #[(.ref a)] ∧ Z.Warmed39 U.vm ∧ U.heap = h0) (fun _ _ _ _ _ => True) (fun _ U oo U' => ∃ v L, oo = .returned v ∧ Q_rm3 Z a nx en h0 n0 v U'.heap L ∧ FrameEnd U oo U' L ({ frames := 0, cells := 0, slots := 0, locals := 0 } : Room).cells ({ frames := 0, cells := 0, slots := 0, locals := 0 } : Room).slots) := by
  refine MetFree.of_bodySF (plainFor_of_name pn1) hisR ?_
  intro p e s m args below meth c s₁ Bd hml0 hP hK
  obtain ⟨rfl, hZ, hh⟩ := hP
  have hx := Bd.exec
  have hby := Bd.bytes
  have hml : c.maxLocals = 1 := hml0
  have hown : s.vm.findClass "com/example/wide_schema/wideschema/io/BytesInput" = some m.cls := findClass_of_methodNamed Bd.named
  have hnm := (name_of_methodNamed Bd.named Bd.method).1
  have hlk : meth.locks = false := Bd.notSynchronized
  have hret := Bd.returns
  have X0 : Stand p l e ({ frames := 0, cells := 0, slots := 0, locals := 0 } : Room) s m #[(.ref a)] below meth c s₁ [] 0 0 := Stand.of_body Bd
  have e0 : s₁.heap = h0 := by rw [← hh, Bd.state]; rfl
  have N0 := Fr.nil n0
  have K0 : Keep h0 h0 [] := Keep.refl _ _
  show Goes p e below s (Q_rm3 Z a nx en h0 n0) ({ frames := 0, cells := 0, slots := 0, locals := 0 } : Room).cells ({ frames := 0, cells := 0, slots := 0, locals := 0 } : Room).slots _
  refine Goes.go (fun t k => castTop (ef_rm3 m a) k) ?_
  show Goes _ _ _ _ _ _ _ (s₁.setTop (mkF m 0 #[.val (.ref a)] []))
  refine Goes.go (fun _ kk => XS.aloadN X0.here hx rfl (hb hby d4_0) rfl rfl kk) ?_
  show Goes _ _ _ _ _ _ _ (s₁.setTop (mkF m 1 _ [(.ref a)]))
  obtain ⟨T1, X1, e1, st1⟩ := getF X0 hx hZ hown (host := "") (Or.inl (hw _ (List.mem_of_getElem? (i := 20) rfl))) Via.refl e0 F_end (g := (mkF m 1 #[.val (.ref a)] [(.ref a)])) rfl rfl (hb hby d4_1)
  refine Goes.go (st1) ?_
  show Goes _ _ _ _ _ _ _ (T1.setTop (mkF m 4 _ [(.int en)]))
  refine Goes.go (fun _ kk => XS.aloadN X1.here hx rfl (hb hby d4_4) rfl rfl kk) ?_
  show Goes _ _ _ _ _ _ _ (T1.setTop (mkF m 5 _ [(.ref a), (.int en)]))
  obtain ⟨T2, X2, e2, st2⟩ := getF X1 hx hZ hown (host := "") (Or.inl (hw _ (List.mem_of_getElem? (i := 18) rfl))) Via.refl e1 F_next (g := (mkF m 5 #[.val (.ref a)] [(.ref a), (.int en)])) rfl rfl (hb hby d4_5)
  refine Goes.go (st2) ?_
  show Goes _ _ _ _ _ _ _ (T2.setTop (mkF m 8 _ [(.int nx), (.int en)]))
  refine Goes.go (fun _ kk => XS.isub X2.here hx rfl (hb hby d4_8) rfl kk) ?_
  show Goes _ _ _ _ _ _ _ (T2.setTop (mkF m 9 _ [(.int (en - nx))]))
  exact Goes.outI X2 hx hlk hret (hb hby d4_9) e2 ⟨rfl, N0, rfl⟩ (by decide) (by decide)
theorem d5_0 : decode prog_11_method_2_code 0 = .ok (.aload_n 0, 1) := by decide +kernel
theorem d5_1 : decode prog_11_method_2_code 1 = .ok (.getfield 13, 3) := by decide +kernel
theorem d5_4 : decode prog_11_method_2_code 4 = .ok (.aload_n 0, 1) := by decide +kernel
theorem d5_5 : decode prog_11_method_2_code 5 = .ok (.getfield 17, 3) := by decide +kernel
theorem d5_8 : decode prog_11_method_2_code 8 = .ok (.if_icmp .ge 26, 3) := by decide +kernel
theorem d5_11 : decode prog_11_method_2_code 11 = .ok (.aload_n 0, 1) := by decide +kernel
theorem d5_12 : decode prog_11_method_2_code 12 = .ok (.getfield 7, 3) := by decide +kernel
theorem d5_15 : decode prog_11_method_2_code 15 = .ok (.aload_n 0, 1) := by decide +kernel
theorem d5_16 : decode prog_11_method_2_code 16 = .ok (.dup, 1) := by decide +kernel
theorem d5_17 : decode prog_11_method_2_code 17 = .ok (.getfield 13, 3) := by decide +kernel
theorem d5_20 : decode prog_11_method_2_code 20 = .ok (.dup_x1, 1) := by decide +kernel
theorem d5_21 : decode prog_11_method_2_code 21 = .ok (.iconst 1, 1) := by decide +kernel
theorem d5_22 : decode prog_11_method_2_code 22 = .ok (.iadd, 1) := by decide +kernel
theorem d5_23 : decode prog_11_method_2_code 23 = .ok (.putfield 13, 3) := by decide +kernel
theorem d5_26 : decode prog_11_method_2_code 26 = .ok (.baload, 1) := by decide +kernel
theorem d5_27 : decode prog_11_method_2_code 27 = .ok (.sipush 255, 3) := by decide +kernel
theorem d5_30 : decode prog_11_method_2_code 30 = .ok (.iand, 1) := by decide +kernel
theorem d5_31 : decode prog_11_method_2_code 31 = .ok (.goto 4, 3) := by decide +kernel
theorem d5_34 : decode prog_11_method_2_code 34 = .ok (.iconst (-1), 1) := by decide +kernel
theorem d5_35 : decode prog_11_method_2_code 35 = .ok (.ireturn, 1) := by decide +kernel
theorem ef_rmN (m : MethodId) (a : Addr) : entryFrame m #[(.ref a)] 1 = mkF m 0 #[.val (.ref a)] [] := by first | (simp [entryFrame, mkF, argsToLocals, Value.category]; done) | rfl
def Q_rmN (Z : State) (a : Addr) (nx : Int32) (en : Int32) (h0 : Heap) (n0 : Nat) (v : Option Value) (h : Heap) (L : List Loc) : Prop := v = some (.int (-1 : Int32)) ∧ Fr n0 L ∧ h = h0
set_option maxRecDepth 65536 in
set_option maxHeartbeats 40000000 in
theorem rmN (l : Launch) (Z : State) (a0 : Array Value) (hw : ∀ d ∈ tables_1, d.before a0 Z = true) (ws : List Jvm.Cond) (a : Addr) (nx : Int32) (en : Int32) (h0 : Heap) (n0 : Nat) (Z0 : n0 ≤ h0.size) (F_next : Fld Z h0 a "com/example/wide_schema/wideschema/io/BytesInput" "_next" "I" (.int nx)) (F_end : Fld Z h0 a "com/example/wide_schema/wideschema/io/BytesInput" "_end" "I" (.int en)) (cc : ¬ nx < en) :
    MetFree l (⟨"com/example/wide_schema/wideschema/io/BytesInput", "read", "()I"⟩ : MethodName) (head1 (Jvm.Cond.code (⟨"com/example/wide_schema/wideschema/io/BytesInput", "read", "()I"⟩ : MethodName) prog_11_method_2_code 1 (some .int) :: ws) ({ frames := 0, cells := 0, slots := 0, locals := 0 } : Room)) (fun aa U => aa = #[(.ref a)] ∧ Z.Warmed39 U.vm ∧ U.heap = h0) (fun _ _ _ _ _ => True) (fun _ U oo U' => ∃ v L, oo = .returned v ∧ Q_rmN Z a nx en h0 n0 v U'.heap L ∧ FrameEnd U oo U' L ({ frames := 0, cells := 0, slots := 0, locals := 0 } : Room).cells ({ frames := 0, cells := 0, slots := 0, locals := 0 } : Room).slots) := by
  refine MetFree.of_bodySF (plainFor_of_name pn1) hisR ?_
  intro p e s m args below meth c s₁ Bd hml0 hP hK
  obtain ⟨rfl, hZ, hh⟩ := hP
  have hx := Bd.exec
  have hby := Bd.bytes
  have hml : c.maxLocals = 1 := hml0
  have hown : s.vm.findClass "com/example/wide_schema/wideschema/io/BytesInput" = some m.cls := findClass_of_methodNamed Bd.named
  have hnm := (name_of_methodNamed Bd.named Bd.method).1
  have hlk : meth.locks = false := Bd.notSynchronized
  have hret := Bd.returns
  have X0 : Stand p l e ({ frames := 0, cells := 0, slots := 0, locals := 0 } : Room) s m #[(.ref a)] below meth c s₁ [] 0 0 := Stand.of_body Bd
  have e0 : s₁.heap = h0 := by rw [← hh, Bd.state]; rfl
  have N0 := Fr.nil n0
  have K0 : Keep h0 h0 [] := Keep.refl _ _
  show Goes p e below s (Q_rmN Z a nx en h0 n0) ({ frames := 0, cells := 0, slots := 0, locals := 0 } : Room).cells ({ frames := 0, cells := 0, slots := 0, locals := 0 } : Room).slots _
  refine Goes.go (fun t k => castTop (ef_rmN m a) k) ?_
  show Goes _ _ _ _ _ _ _ (s₁.setTop (mkF m 0 #[.val (.ref a)] []))
  refine Goes.go (fun _ kk => XS.aloadN X0.here hx rfl (hb hby d5_0) rfl rfl kk) ?_
  show Goes _ _ _ _ _ _ _ (s₁.setTop (mkF m 1 _ [(.ref a)]))
  obtain ⟨T1, X1, e1, st1⟩ := getF X0 hx hZ hown (host := "") (Or.inl (hw _ (List.mem_of_getElem? (i := 18) rfl))) Via.refl e0 F_next (g := (mkF m 1 #[.val (.ref a)] [(.ref a)])) rfl rfl (hb hby d5_1)
  refine Goes.go (st1) ?_
  show Goes _ _ _ _ _ _ _ (T1.setTop (mkF m 4 _ [(.int nx)]))
  refine Goes.go (fun _ kk => XS.aloadN X1.here hx rfl (hb hby d5_4) rfl rfl kk) ?_
  show Goes _ _ _ _ _ _ _ (T1.setTop (mkF m 5 _ [(.ref a), (.int nx)]))
  obtain ⟨T2, X2, e2, st2⟩ := getF X1 hx hZ hown (host := "") (Or.inl (hw _ (List.mem_of_getElem? (i := 20) rfl))) Via.refl e1 F_end (g := (mkF m 5 #[.val (.ref a)] [(.ref a), (.int nx)])) rfl rfl (hb hby d5_5)
  refine Goes.go (st2) ?_
  show Goes _ _ _ _ _ _ _ (T2.setTop (mkF m 8 _ [(.int en), (.int nx)]))
  refine Goes.go (fun _ kk => XS.icmpYes X2.here hx rfl (pc0 := 8) (pc' := 34) rfl (hb hby d5_8) rfl (XT.ii_ge_t cc) (by decide) (by decide) kk) ?_
  show Goes _ _ _ _ _ _ _ (T2.setTop (mkF m 34 _ []))
  refine Goes.go (fun _ kk => XS.iconst X2.here hx rfl (hb hby d5_34) kk) ?_
  show Goes _ _ _ _ _ _ _ (T2.setTop (mkF m 35 _ [(.int (-1 : Int32))]))
  exact Goes.outI X2 hx hlk hret (hb hby d5_35) e2 ⟨rfl, N0, rfl⟩ (by decide) (by decide)
theorem ef_rmY (m : MethodId) (a : Addr) : entryFrame m #[(.ref a)] 1 = mkF m 0 #[.val (.ref a)] [] := by first | (simp [entryFrame, mkF, argsToLocals, Value.category]; done) | rfl
def Q_rmY (Z : State) (a : Addr) (bb : Addr) (vs : List Value) (nx : Int32) (en : Int32) (w : Int32) (h0 : Heap) (n0 : Nat) (v : Option Value) (h : Heap) (L : List Loc) : Prop := v = some (.int (w &&& (255 : Int32))) ∧ Fr n0 L ∧ Keep h0 h [a] ∧ Exa Z h a "com/example/wide_schema/wideschema/io/BytesInput" ∧ Fld Z h a "com/example/wide_schema/wideschema/io/BytesInput" "_bytes" "[B" (.ref bb) ∧ Fld Z h a "com/example/wide_schema/wideschema/io/BytesInput" "_next" "I" (.int (nx + (1 : Int32))) ∧ Fld Z h a "com/example/wide_schema/wideschema/io/BytesInput" "_end" "I" (.int en)
set_option maxRecDepth 65536 in
set_option maxHeartbeats 40000000 in
theorem rmY (l : Launch) (Z : State) (a0 : Array Value) (hw : ∀ d ∈ tables_1, d.before a0 Z = true) (ws : List Jvm.Cond) (a : Addr) (bb : Addr) (vs : List Value) (nx : Int32) (en : Int32) (w : Int32) (h0 : Heap) (n0 : Nat) (Z0 : n0 ≤ h0.size) (E0 : Exa Z h0 a "com/example/wide_schema/wideschema/io/BytesInput") (F_bytes : Fld Z h0 a "com/example/wide_schema/wideschema/io/BytesInput" "_bytes" "[B" (.ref bb)) (F_next : Fld Z h0 a "com/example/wide_schema/wideschema/io/BytesInput" "_next" "I" (.int nx)) (F_end : Fld Z h0 a "com/example/wide_schema/wideschema/io/BytesInput" "_end" "I" (.int en)) (ga : n0 ≤ a) (A0 : Arl Z h0 bb .byte vs) (cc : nx < en) (q1 : ¬ nx < 0) (q2 : vs[nx.toNatClampNeg]? = some (.int w)) :
    MetFree l (⟨"com/example/wide_schema/wideschema/io/BytesInput", "read", "()I"⟩ : MethodName) (head1 (Jvm.Cond.code (⟨"com/example/wide_schema/wideschema/io/BytesInput", "read", "()I"⟩ : MethodName) prog_11_method_2_code 1 (some .int) :: ws) ({ frames := 0, cells := 0, slots := 0, locals := 0 } : Room)) (fun aa U => aa = #[(.ref a)] ∧ Z.Warmed39 U.vm ∧ U.heap = h0) (fun _ _ _ _ _ => True) (fun _ U oo U' => ∃ v L, oo = .returned v ∧ Q_rmY Z a bb vs nx en w h0 n0 v U'.heap L ∧ FrameEnd U oo U' L ({ frames := 0, cells := 0, slots := 0, locals := 0 } : Room).cells ({ frames := 0, cells := 0, slots := 0, locals := 0 } : Room).slots) := by
  refine MetFree.of_bodySF (plainFor_of_name pn1) hisR ?_
  intro p e s m args below meth c s₁ Bd hml0 hP hK
  obtain ⟨rfl, hZ, hh⟩ := hP
  have hx := Bd.exec
  have hby := Bd.bytes
  have hml : c.maxLocals = 1 := hml0
  have hown : s.vm.findClass "com/example/wide_schema/wideschema/io/BytesInput" = some m.cls := findClass_of_methodNamed Bd.named
  have hnm := (name_of_methodNamed Bd.named Bd.method).1
  have hlk : meth.locks = false := Bd.notSynchronized
  have hret := Bd.returns
  have X0 : Stand p l e ({ frames := 0, cells := 0, slots := 0, locals := 0 } : Room) s m #[(.ref a)] below meth c s₁ [] 0 0 := Stand.of_body Bd
  have e0 : s₁.heap = h0 := by rw [← hh, Bd.state]; rfl
  have N0 := Fr.nil n0
  have K0 : Keep h0 h0 [a] := Keep.refl _ _
  show Goes p e below s (Q_rmY Z a bb vs nx en w h0 n0) ({ frames := 0, cells := 0, slots := 0, locals := 0 } : Room).cells ({ frames := 0, cells := 0, slots := 0, locals := 0 } : Room).slots _
  refine Goes.go (fun t k => castTop (ef_rmY m a) k) ?_
  have ne_a_bb := own_neA E0 (hw _ (List.mem_of_getElem? (i := 3) rfl)) A0
  show Goes _ _ _ _ _ _ _ (s₁.setTop (mkF m 0 #[.val (.ref a)] []))
  refine Goes.go (fun _ kk => XS.aloadN X0.here hx rfl (hb hby d5_0) rfl rfl kk) ?_
  show Goes _ _ _ _ _ _ _ (s₁.setTop (mkF m 1 _ [(.ref a)]))
  obtain ⟨T1, X1, e1, st1⟩ := getF X0 hx hZ hown (host := "") (Or.inl (hw _ (List.mem_of_getElem? (i := 18) rfl))) Via.refl e0 F_next (g := (mkF m 1 #[.val (.ref a)] [(.ref a)])) rfl rfl (hb hby d5_1)
  refine Goes.go (st1) ?_
  show Goes _ _ _ _ _ _ _ (T1.setTop (mkF m 4 _ [(.int nx)]))
  refine Goes.go (fun _ kk => XS.aloadN X1.here hx rfl (hb hby d5_4) rfl rfl kk) ?_
  show Goes _ _ _ _ _ _ _ (T1.setTop (mkF m 5 _ [(.ref a), (.int nx)]))
  obtain ⟨T2, X2, e2, st2⟩ := getF X1 hx hZ hown (host := "") (Or.inl (hw _ (List.mem_of_getElem? (i := 20) rfl))) Via.refl e1 F_end (g := (mkF m 5 #[.val (.ref a)] [(.ref a), (.int nx)])) rfl rfl (hb hby d5_5)
  refine Goes.go (st2) ?_
  show Goes _ _ _ _ _ _ _ (T2.setTop (mkF m 8 _ [(.int en), (.int nx)]))
  refine Goes.go (fun _ kk => XS.icmpNo X2.here hx rfl (hb hby d5_8) rfl (XT.ii_ge_f cc) kk) ?_
  show Goes _ _ _ _ _ _ _ (T2.setTop (mkF m 11 _ []))
  refine Goes.go (fun _ kk => XS.aloadN X2.here hx rfl (hb hby d5_11) rfl rfl kk) ?_
  show Goes _ _ _ _ _ _ _ (T2.setTop (mkF m 12 _ [(.ref a)]))
  obtain ⟨T3, X3, e3, st3⟩ := getF X2 hx hZ hown (host := "") (Or.inl (hw _ (List.mem_of_getElem? (i := 16) rfl))) Via.refl e2 F_bytes (g := (mkF m 12 #[.val (.ref a)] [(.ref a)])) rfl rfl (hb hby d5_12)
  refine Goes.go (st3) ?_
  show Goes _ _ _ _ _ _ _ (T3.setTop (mkF m 15 _ [(.ref bb)]))
  refine Goes.go (fun _ kk => XS.aloadN X3.here hx rfl (hb hby d5_15) rfl rfl kk) ?_
  show Goes _ _ _ _ _ _ _ (T3.setTop (mkF m 16 _ [(.ref a), (.ref bb)]))
  refine Goes.go (fun _ kk => XS.dup X3.here hx rfl (hb hby d5_16) rfl rfl kk) ?_
  show Goes _ _ _ _ _ _ _ (T3.setTop (mkF m 17 _ [(.ref a), (.ref a), (.ref bb)]))
  obtain ⟨T4, X4, e4, st4⟩ := getF X3 hx hZ hown (host := "") (Or.inl (hw _ (List.mem_of_getElem? (i := 18) rfl))) Via.refl e3 F_next (g := (mkF m 17 #[.val (.ref a)] [(.ref a), (.ref a), (.ref bb)])) rfl rfl (hb hby d5_17)
  refine Goes.go (st4) ?_
  show Goes _ _ _ _ _ _ _ (T4.setTop (mkF m 20 _ [(.int nx), (.ref a), (.ref bb)]))
  refine Goes.go (fun _ kk => XS.dupX1 X4.here hx rfl (hb hby d5_20) rfl rfl rfl kk) ?_
  show Goes _ _ _ _ _ _ _ (T4.setTop (mkF m 21 _ [(.int nx), (.ref a), (.int nx), (.ref bb)]))
  refine Goes.go (fun _ kk => XS.iconst X4.here hx rfl (hb hby d5_21) kk) ?_
  show Goes _ _ _ _ _ _ _ (T4.setTop (mkF m 22 _ [(.int (1 : Int32)), (.int nx), (.ref a), (.int nx), (.ref bb)]))
  refine Goes.go (fun _ kk => XS.iadd X4.here hx rfl (hb hby d5_22) rfl kk) ?_
  show Goes _ _ _ _ _ _ _ (T4.setTop (mkF m 23 _ [(.int (nx + (1 : Int32))), (.ref a), (.int nx), (.ref bb)]))
  obtain ⟨T5, h5, X5, e5, W5, st5⟩ := putF X4 hx hZ hown (host := "") (Or.inl (hw _ (List.mem_of_getElem? (i := 18) rfl))) Via.refl e4 F_next E0 (Or.inl (hw _ (List.mem_of_getElem? (i := 19) rfl))) (hw _ (List.mem_of_getElem? (i := 3) rfl)) (ty := .int) (by decide) rfl rfl (g := (mkF m 23 #[.val (.ref a)] [(.int (nx + (1 : Int32))), (.ref a), (.int nx), (.ref bb)])) rfl rfl (hb hby d5_23)
  have N5 := Fr.snoc X5 N0 ga
  have f := Fld.other W5 F_bytes (Or.inr (slot_ne (Or.inr (hw _ (List.mem_of_getElem? (i := 17) rfl))) (Or.inl (hw _ (List.mem_of_getElem? (i := 19) rfl))) (by decide) (t := (.array .byte)) (t' := .int) (by decide) (by decide)))
  have f_1 := Fld.other W5 F_end (Or.inr (slot_ne (Or.inr (hw _ (List.mem_of_getElem? (i := 21) rfl))) (Or.inl (hw _ (List.mem_of_getElem? (i := 19) rfl))) (by decide) (t := .int) (t' := .int) (by decide) (by decide)))
  have f_2 := Exa.wr W5 E0
  have f_3 := Arl.other A0 W5 ne_a_bb.symm
  have f_4 := Fld.same W5 F_next
  have Z5 : n0 ≤ h5.size := by rw [W5.size]; exact Z0
  have K5 := K0.wr W5 (Or.inl (List.mem_of_getElem? (i := 0) rfl))
  refine Goes.go (st5) ?_
  show Goes _ _ _ _ _ _ _ (T5.setTop (mkF m 26 _ [(.int nx), (.ref bb)]))
  refine Goes.go (own_ldB X5 hx hZ e5 f_3 (j := nx) (v := (.int w)) q1 q2 rfl rfl (hb hby d5_26)) ?_
  show Goes _ _ _ _ _ _ _ (T5.setTop (mkF m 27 _ [(.int w)]))
  refine Goes.go (fun _ kk => XS.sipush X5.here hx rfl (hb hby d5_27) kk) ?_
  show Goes _ _ _ _ _ _ _ (T5.setTop (mkF m 30 _ [(.int (255 : Int32)), (.int w)]))
  refine Goes.go (fun _ kk => XS.iand X5.here hx rfl (hb hby d5_30) rfl kk) ?_
  show Goes _ _ _ _ _ _ _ (T5.setTop (mkF m 31 _ [(.int (w &&& (255 : Int32)))]))
  refine Goes.go (fun _ kk => XS.goto X5.here hx rfl (pc0 := 31) (pc' := 35) rfl (hb hby d5_31) (by decide) (by decide) kk) ?_
  show Goes _ _ _ _ _ _ _ (T5.setTop (mkF m 35 _ [(.int (w &&& (255 : Int32)))]))
  exact Goes.outI X5 hx hlk hret (hb hby d5_35) e5 ⟨rfl, N5, K5, f_2, f, f_4, f_1⟩ (by decide) (by decide)
theorem d6_0 : decode method_2_code 0 = .ok (.iload_n 3, 1) := by decide +kernel
theorem d6_1 : decode method_2_code 1 = .ok (.iload_n 2, 1) := by decide +kernel
theorem d6_2 : decode method_2_code 2 = .ok (.if_icmp .ge 16, 3) := by decide +kernel
theorem d6_5 : decode method_2_code 5 = .ok (.iload_n 0, 1) := by decide +kernel
theorem d6_6 : decode method_2_code 6 = .ok (.bipush 8, 2) := by decide +kernel
theorem d6_8 : decode method_2_code 8 = .ok (.iload_n 1, 1) := by decide +kernel
theorem d6_9 : decode method_2_code 9 = .ok (.iload_n 3, 1) := by decide +kernel
theorem d6_10 : decode method_2_code 10 = .ok (.iadd, 1) := by decide +kernel
theorem d6_11 : decode method_2_code 11 = .ok (.imul, 1) := by decide +kernel
theorem d6_12 : decode method_2_code 12 = .ok (.iushr, 1) := by decide +kernel
theorem d6_13 : decode method_2_code 13 = .ok (.sipush 255, 3) := by decide +kernel
theorem d6_16 : decode method_2_code 16 = .ok (.iand, 1) := by decide +kernel
theorem d6_17 : decode method_2_code 17 = .ok (.ireturn, 1) := by decide +kernel
theorem d6_18 : decode method_2_code 18 = .ok (.iconst (-1), 1) := by decide +kernel
theorem d6_19 : decode method_2_code 19 = .ok (.ireturn, 1) := by decide +kernel
theorem pn2 : plainName "com/example/wide_schema/wideschema/io/BytesInputReadPinLaw" = true := by first | (simp [plainName, overriddenIn]; done) | decide +kernel
theorem ef_rm5 (m : MethodId) (p0 : Int32) (p1 : Int32) (p2 : Int32) (p3 : Int32) : entryFrame m #[(.int p0), (.int p1), (.int p2), (.int p3)] 4 = mkF m 0 #[.val (.int p0), .val (.int p1), .val (.int p2), .val (.int p3)] [] := by first | (simp [entryFrame, mkF, argsToLocals, Value.category]; done) | rfl
def Q_rm5 (Z : State) (p0 : Int32) (p1 : Int32) (p2 : Int32) (p3 : Int32) (h0 : Heap) (n0 : Nat) (v : Option Value) (h : Heap) (L : List Loc) : Prop := v = some (.int (exF p0 p1 p2 p3)) ∧ Fr n0 L ∧ h = h0
set_option maxRecDepth 65536 in
set_option maxHeartbeats 40000000 in
theorem rm5 (l : Launch) (Z : State) (a0 : Array Value) (hw : ∀ d ∈ tables_1, d.before a0 Z = true) (ws : List Jvm.Cond) (p0 : Int32) (p1 : Int32) (p2 : Int32) (p3 : Int32) (h0 : Heap) (n0 : Nat) (Z0 : n0 ≤ h0.size)  :
    MetFree l (⟨"com/example/wide_schema/wideschema/io/BytesInputReadPinLaw", "exp", "(IIII)I"⟩ : MethodName) (head1 (Jvm.Cond.code (⟨"com/example/wide_schema/wideschema/io/BytesInputReadPinLaw", "exp", "(IIII)I"⟩ : MethodName) method_2_code 4 (some .int) :: ws) ({ frames := 0, cells := 0, slots := 0, locals := 0 } : Room)) (fun aa U => aa = #[(.int p0), (.int p1), (.int p2), (.int p3)] ∧ Z.Warmed39 U.vm ∧ U.heap = h0) (fun _ _ _ _ _ => True) (fun _ U oo U' => ∃ v L, oo = .returned v ∧ Q_rm5 Z p0 p1 p2 p3 h0 n0 v U'.heap L ∧ FrameEnd U oo U' L ({ frames := 0, cells := 0, slots := 0, locals := 0 } : Room).cells ({ frames := 0, cells := 0, slots := 0, locals := 0 } : Room).slots) := by
  refine MetFree.of_bodySF (plainFor_of_name pn2) hisR ?_
  intro p e s m args below meth c s₁ Bd hml0 hP hK
  obtain ⟨rfl, hZ, hh⟩ := hP
  have hx := Bd.exec
  have hby := Bd.bytes
  have hml : c.maxLocals = 4 := hml0
  have hown : s.vm.findClass "com/example/wide_schema/wideschema/io/BytesInputReadPinLaw" = some m.cls := findClass_of_methodNamed Bd.named
  have hnm := (name_of_methodNamed Bd.named Bd.method).1
  have hlk : meth.locks = false := Bd.notSynchronized
  have hret := Bd.returns
  have X0 : Stand p l e ({ frames := 0, cells := 0, slots := 0, locals := 0 } : Room) s m #[(.int p0), (.int p1), (.int p2), (.int p3)] below meth c s₁ [] 0 0 := Stand.of_body Bd
  have e0 : s₁.heap = h0 := by rw [← hh, Bd.state]; rfl
  have N0 := Fr.nil n0
  have K0 : Keep h0 h0 [] := Keep.refl _ _
  show Goes p e below s (Q_rm5 Z p0 p1 p2 p3 h0 n0) ({ frames := 0, cells := 0, slots := 0, locals := 0 } : Room).cells ({ frames := 0, cells := 0, slots := 0, locals := 0 } : Room).slots _
  refine Goes.go (fun t k => castTop (ef_rm5 m p0 p1 p2 p3) k) ?_
  show Goes _ _ _ _ _ _ _ (s₁.setTop (mkF m 0 #[.val (.int p0), .val (.int p1), .val (.int p2), .val (.int p3)] []))
  refine Goes.go (fun _ kk => XS.iloadN X0.here hx rfl (hb hby d6_0) rfl kk) ?_
  show Goes _ _ _ _ _ _ _ (s₁.setTop (mkF m 1 _ [(.int p3)]))
  refine Goes.go (fun _ kk => XS.iloadN X0.here hx rfl (hb hby d6_1) rfl kk) ?_
  show Goes _ _ _ _ _ _ _ (s₁.setTop (mkF m 2 _ [(.int p2), (.int p3)]))
  by_cases c2 : p3 < p2
  · skip
    refine Goes.go (fun _ kk => XS.icmpNo X0.here hx rfl (hb hby d6_2) rfl (XT.ii_ge_f c2) kk) ?_
    show Goes _ _ _ _ _ _ _ (s₁.setTop (mkF m 5 _ []))
    refine Goes.go (fun _ kk => XS.iloadN X0.here hx rfl (hb hby d6_5) rfl kk) ?_
    show Goes _ _ _ _ _ _ _ (s₁.setTop (mkF m 6 _ [(.int p0)]))
    refine Goes.go (fun _ kk => XS.bipush X0.here hx rfl (hb hby d6_6) kk) ?_
    show Goes _ _ _ _ _ _ _ (s₁.setTop (mkF m 8 _ [(.int (8 : Int32)), (.int p0)]))
    refine Goes.go (fun _ kk => XS.iloadN X0.here hx rfl (hb hby d6_8) rfl kk) ?_
    show Goes _ _ _ _ _ _ _ (s₁.setTop (mkF m 9 _ [(.int p1), (.int (8 : Int32)), (.int p0)]))
    refine Goes.go (fun _ kk => XS.iloadN X0.here hx rfl (hb hby d6_9) rfl kk) ?_
    show Goes _ _ _ _ _ _ _ (s₁.setTop (mkF m 10 _ [(.int p3), (.int p1), (.int (8 : Int32)), (.int p0)]))
    refine Goes.go (fun _ kk => XS.iadd X0.here hx rfl (hb hby d6_10) rfl kk) ?_
    show Goes _ _ _ _ _ _ _ (s₁.setTop (mkF m 11 _ [(.int (p1 + p3)), (.int (8 : Int32)), (.int p0)]))
    refine Goes.go (fun _ kk => XS.imul X0.here hx rfl (hb hby d6_11) rfl kk) ?_
    show Goes _ _ _ _ _ _ _ (s₁.setTop (mkF m 12 _ [(.int ((8 : Int32) * (p1 + p3))), (.int p0)]))
    refine Goes.go (fun _ kk => XS.iushr X0.here hx rfl (hb hby d6_12) rfl kk) ?_
    show Goes _ _ _ _ _ _ _ (s₁.setTop (mkF m 13 _ [(.int ((p0).toUInt32 >>> (((8 : Int32) * (p1 + p3)) &&& 31).toUInt32).toInt32)]))
    refine Goes.go (fun _ kk => XS.sipush X0.here hx rfl (hb hby d6_13) kk) ?_
    show Goes _ _ _ _ _ _ _ (s₁.setTop (mkF m 16 _ [(.int (255 : Int32)), (.int ((p0).toUInt32 >>> (((8 : Int32) * (p1 + p3)) &&& 31).toUInt32).toInt32)]))
    refine Goes.go (fun _ kk => XS.iand X0.here hx rfl (hb hby d6_16) rfl kk) ?_
    show Goes _ _ _ _ _ _ _ (s₁.setTop (mkF m 17 _ [(.int (((p0).toUInt32 >>> (((8 : Int32) * (p1 + p3)) &&& 31).toUInt32).toInt32 &&& (255 : Int32)))]))
    exact Goes.outI X0 hx hlk hret (hb hby d6_17) e0 ⟨by rw [exF, if_pos c2], N0, rfl⟩ (by decide) (by decide)
  · skip
    refine Goes.go (fun _ kk => XS.icmpYes X0.here hx rfl (pc0 := 2) (pc' := 18) rfl (hb hby d6_2) rfl (XT.ii_ge_t c2) (by decide) (by decide) kk) ?_
    show Goes _ _ _ _ _ _ _ (s₁.setTop (mkF m 18 _ []))
    refine Goes.go (fun _ kk => XS.iconst X0.here hx rfl (hb hby d6_18) kk) ?_
    show Goes _ _ _ _ _ _ _ (s₁.setTop (mkF m 19 _ [(.int (-1 : Int32))]))
    exact Goes.outI X0 hx hlk hret (hb hby d6_19) e0 ⟨by rw [exF, if_neg c2], N0, rfl⟩ (by decide) (by decide)
theorem ef_rm0 (m : MethodId) (p0 : Int32) (p1 : Int32) (p2 : Int32) : entryFrame m #[(.int p0), (.int p1), (.int p2)] maxLocals = mkF m 0 #[.val (.int p0), .val (.int p1), .val (.int p2), .unset, .unset, .unset, .unset, .unset, .unset, .unset, .unset, .unset, .unset, .unset] [] := by first | (simp [entryFrame, mkF, argsToLocals, Value.category, maxLocals]; done) | rfl
def Q_rm0 (Z : State) (p0 : Int32) (p1 : Int32) (p2 : Int32) (h0 : Heap) (n0 : Nat) (v : Option Value) (h : Heap) (L : List Loc) : Prop := v = some (.int 1) ∧ Fr n0 L
set_option maxRecDepth 65536 in
set_option maxHeartbeats 40000000 in
theorem rm0 (l : Launch) (Z : State) (a0 : Array Value) (hw : ∀ d ∈ tables_1, d.before a0 Z = true) (ws : List Jvm.Cond) (p0 : Int32) (p1 : Int32) (p2 : Int32) (h0 : Heap) (n0 : Nat) (Z0 : n0 ≤ h0.size)  :
    MetFree l x (head1 (Jvm.Cond.code x code maxLocals ret :: ws) room_1) (fun aa U => aa = #[(.int p0), (.int p1), (.int p2)] ∧ Z.Warmed39 U.vm ∧ U.heap = h0) (fun _ _ _ _ _ => True) (fun _ U oo U' => ∃ v L, oo = .returned v ∧ Q_rm0 Z p0 p1 p2 h0 n0 v U'.heap L ∧ FrameEnd U oo U' L room_1.cells room_1.slots) := by
  refine MetFree.of_bodySF (plainFor_of_name pn2) hisR ?_
  intro p e s m args below meth c s₁ Bd hml0 hP hK
  obtain ⟨rfl, hZ, hh⟩ := hP
  have hx := Bd.exec
  have hby := Bd.bytes
  have hml : c.maxLocals = 14 := hml0
  have hown : s.vm.findClass "com/example/wide_schema/wideschema/io/BytesInputReadPinLaw" = some m.cls := findClass_of_methodNamed Bd.named
  have hnm := (name_of_methodNamed Bd.named Bd.method).1
  have hlk : meth.locks = false := Bd.notSynchronized
  have hret := Bd.returns
  have X0 : Stand p l e room_1 s m #[(.int p0), (.int p1), (.int p2)] below meth c s₁ [] 0 0 := Stand.of_body Bd
  have e0 : s₁.heap = h0 := by rw [← hh, Bd.state]; rfl
  have N0 := Fr.nil n0
  have K0 : Keep h0 h0 [] := Keep.refl _ _
  show Goes p e below s (Q_rm0 Z p0 p1 p2 h0 n0) room_1.cells room_1.slots _
  refine Goes.go (fun t k => castTop (ef_rm0 m p0 p1 p2) k) ?_
  show Goes _ _ _ _ _ _ _ (s₁.setTop (mkF m 0 #[.val (.int p0), .val (.int p1), .val (.int p2), .unset, .unset, .unset, .unset, .unset, .unset, .unset, .unset, .unset, .unset, .unset] []))
  refine Goes.go (fun _ kk => XS.iconst X0.here hx rfl (hb hby at_0) kk) ?_
  show Goes _ _ _ _ _ _ _ (s₁.setTop (mkF m 1 _ [(.int (4 : Int32))]))
  obtain ⟨T1, h1, X1, e1, E1, A1, st1⟩ := own_newP X0 hx hZ (aty := .byte) (hw _ (List.mem_of_getElem? (i := 0) rfl)) e0 (g := (mkF m 1 #[.val (.int p0), .val (.int p1), .val (.int p2), .unset, .unset, .unset, .unset, .unset, .unset, .unset, .unset, .unset, .unset, .unset] [(.int (4 : Int32))])) rfl (hb hby at_1) rfl (n := (4 : Int32)) (by decide) (cap := 4) (by decide) (by decide) (by decide) (by decide)
  obtain ⟨ar1, gar1⟩ : ∃ z, z = h0.size := ⟨_, rfl⟩
  rw [← gar1] at A1 st1
  have Z1 : n0 ≤ h1.size := Nat.le_trans Z0 E1.1
  have ge_ar1 : n0 ≤ ar1 := Nat.le_trans Z0 (Nat.le_of_eq gar1.symm)
  have f : Arl Z h1 ar1 .byte [(.int (0 : Int32)), (.int (0 : Int32)), (.int (0 : Int32)), (.int (0 : Int32))] := A1
  refine Goes.go (st1) ?_
  show Goes _ _ _ _ _ _ _ (T1.setTop (mkF m 3 _ [(.ref ar1)]))
  refine Goes.go (fun _ kk => XS.astoreN X1.here hx rfl (hb hby at_3) rfl rfl (l' := #[.val (.int p0), .val (.int p1), .val (.int p2), .val (.ref ar1), .unset, .unset, .unset, .unset, .unset, .unset, .unset, .unset, .unset, .unset]) rfl kk) ?_
  show Goes _ _ _ _ _ _ _ (T1.setTop (mkF m 4 #[.val (.int p0), .val (.int p1), .val (.int p2), .val (.ref ar1), .unset, .unset, .unset, .unset, .unset, .unset, .unset, .unset, .unset, .unset] []))
  refine Goes.go (fun _ kk => XS.aloadN X1.here hx rfl (hb hby at_4) rfl rfl kk) ?_
  show Goes _ _ _ _ _ _ _ (T1.setTop (mkF m 5 _ [(.ref ar1)]))
  refine Goes.go (fun _ kk => XS.iconst X1.here hx rfl (hb hby at_5) kk) ?_
  show Goes _ _ _ _ _ _ _ (T1.setTop (mkF m 6 _ [(.int (0 : Int32)), (.ref ar1)]))
  refine Goes.go (fun _ kk => XS.iloadN X1.here hx rfl (hb hby at_6) rfl kk) ?_
  show Goes _ _ _ _ _ _ _ (T1.setTop (mkF m 7 _ [(.int p0), (.int (0 : Int32)), (.ref ar1)]))
  refine Goes.go (fun _ kk => XS.i2b X1.here hx rfl (hb hby at_7) rfl kk) ?_
  show Goes _ _ _ _ _ _ _ (T1.setTop (mkF m 8 _ [(.int (p0).toInt8.toInt32), (.int (0 : Int32)), (.ref ar1)]))
  obtain ⟨T2, h2, X2, e2, W2, A2, st2⟩ := own_stB X1 hx hZ e1 f (j := (0 : Int32)) (x := (p0).toInt8.toInt32) (by decide) (show (0 : Nat) < 4 by decide) (g := (mkF m 8 #[.val (.int p0), .val (.int p1), .val (.int p2), .val (.ref ar1), .unset, .unset, .unset, .unset, .unset, .unset, .unset, .unset, .unset, .unset] [(.int (p0).toInt8.toInt32), (.int (0 : Int32)), (.ref ar1)])) rfl rfl (hb hby at_8)
  rw [own_nar8] at A2
  have N2 := Fr.snoc X2 N0 ge_ar1
  have Z2 : n0 ≤ h2.size := by rw [W2.size]; exact Z1
  have f_1 : Arl Z h2 ar1 .byte [(.int (p0).toInt8.toInt32), (.int (0 : Int32)), (.int (0 : Int32)), (.int (0 : Int32))] := A2
  refine Goes.go (st2) ?_
  show Goes _ _ _ _ _ _ _ (T2.setTop (mkF m 9 _ []))
  refine Goes.go (fun _ kk => XS.aloadN X2.here hx rfl (hb hby at_9) rfl rfl kk) ?_
  show Goes _ _ _ _ _ _ _ (T2.setTop (mkF m 10 _ [(.ref ar1)]))
  refine Goes.go (fun _ kk => XS.iconst X2.here hx rfl (hb hby at_10) kk) ?_
  show Goes _ _ _ _ _ _ _ (T2.setTop (mkF m 11 _ [(.int (1 : Int32)), (.ref ar1)]))
  refine Goes.go (fun _ kk => XS.iloadN X2.here hx rfl (hb hby at_11) rfl kk) ?_
  show Goes _ _ _ _ _ _ _ (T2.setTop (mkF m 12 _ [(.int p0), (.int (1 : Int32)), (.ref ar1)]))
  refine Goes.go (fun _ kk => XS.bipush X2.here hx rfl (hb hby at_12) kk) ?_
  show Goes _ _ _ _ _ _ _ (T2.setTop (mkF m 14 _ [(.int (8 : Int32)), (.int p0), (.int (1 : Int32)), (.ref ar1)]))
  refine Goes.go (fun _ kk => XS.iushr X2.here hx rfl (hb hby at_14) rfl kk) ?_
  show Goes _ _ _ _ _ _ _ (T2.setTop (mkF m 15 _ [(.int ((p0).toUInt32 >>> ((8 : Int32) &&& 31).toUInt32).toInt32), (.int (1 : Int32)), (.ref ar1)]))
  refine Goes.go (fun _ kk => XS.i2b X2.here hx rfl (hb hby at_15) rfl kk) ?_
  show Goes _ _ _ _ _ _ _ (T2.setTop (mkF m 16 _ [(.int (((p0).toUInt32 >>> ((8 : Int32) &&& 31).toUInt32).toInt32).toInt8.toInt32), (.int (1 : Int32)), (.ref ar1)]))
  obtain ⟨T3, h3, X3, e3, W3, A3, st3⟩ := own_stB X2 hx hZ e2 f_1 (j := (1 : Int32)) (x := (((p0).toUInt32 >>> ((8 : Int32) &&& 31).toUInt32).toInt32).toInt8.toInt32) (by decide) (show (1 : Nat) < 4 by decide) (g := (mkF m 16 #[.val (.int p0), .val (.int p1), .val (.int p2), .val (.ref ar1), .unset, .unset, .unset, .unset, .unset, .unset, .unset, .unset, .unset, .unset] [(.int (((p0).toUInt32 >>> ((8 : Int32) &&& 31).toUInt32).toInt32).toInt8.toInt32), (.int (1 : Int32)), (.ref ar1)])) rfl rfl (hb hby at_16)
  rw [own_nar8] at A3
  have N3 := Fr.snoc X3 N2 ge_ar1
  have Z3 : n0 ≤ h3.size := by rw [W3.size]; exact Z2
  have f_2 : Arl Z h3 ar1 .byte [(.int (p0).toInt8.toInt32), (.int (((p0).toUInt32 >>> ((8 : Int32) &&& 31).toUInt32).toInt32).toInt8.toInt32), (.int (0 : Int32)), (.int (0 : Int32))] := A3
  refine Goes.go (st3) ?_
  show Goes _ _ _ _ _ _ _ (T3.setTop (mkF m 17 _ []))
  refine Goes.go (fun _ kk => XS.aloadN X3.here hx rfl (hb hby at_17) rfl rfl kk) ?_
  show Goes _ _ _ _ _ _ _ (T3.setTop (mkF m 18 _ [(.ref ar1)]))
  refine Goes.go (fun _ kk => XS.iconst X3.here hx rfl (hb hby at_18) kk) ?_
  show Goes _ _ _ _ _ _ _ (T3.setTop (mkF m 19 _ [(.int (2 : Int32)), (.ref ar1)]))
  refine Goes.go (fun _ kk => XS.iloadN X3.here hx rfl (hb hby at_19) rfl kk) ?_
  show Goes _ _ _ _ _ _ _ (T3.setTop (mkF m 20 _ [(.int p0), (.int (2 : Int32)), (.ref ar1)]))
  refine Goes.go (fun _ kk => XS.bipush X3.here hx rfl (hb hby at_20) kk) ?_
  show Goes _ _ _ _ _ _ _ (T3.setTop (mkF m 22 _ [(.int (16 : Int32)), (.int p0), (.int (2 : Int32)), (.ref ar1)]))
  refine Goes.go (fun _ kk => XS.iushr X3.here hx rfl (hb hby at_22) rfl kk) ?_
  show Goes _ _ _ _ _ _ _ (T3.setTop (mkF m 23 _ [(.int ((p0).toUInt32 >>> ((16 : Int32) &&& 31).toUInt32).toInt32), (.int (2 : Int32)), (.ref ar1)]))
  refine Goes.go (fun _ kk => XS.i2b X3.here hx rfl (hb hby at_23) rfl kk) ?_
  show Goes _ _ _ _ _ _ _ (T3.setTop (mkF m 24 _ [(.int (((p0).toUInt32 >>> ((16 : Int32) &&& 31).toUInt32).toInt32).toInt8.toInt32), (.int (2 : Int32)), (.ref ar1)]))
  obtain ⟨T4, h4, X4, e4, W4, A4, st4⟩ := own_stB X3 hx hZ e3 f_2 (j := (2 : Int32)) (x := (((p0).toUInt32 >>> ((16 : Int32) &&& 31).toUInt32).toInt32).toInt8.toInt32) (by decide) (show (2 : Nat) < 4 by decide) (g := (mkF m 24 #[.val (.int p0), .val (.int p1), .val (.int p2), .val (.ref ar1), .unset, .unset, .unset, .unset, .unset, .unset, .unset, .unset, .unset, .unset] [(.int (((p0).toUInt32 >>> ((16 : Int32) &&& 31).toUInt32).toInt32).toInt8.toInt32), (.int (2 : Int32)), (.ref ar1)])) rfl rfl (hb hby at_24)
  rw [own_nar8] at A4
  have N4 := Fr.snoc X4 N3 ge_ar1
  have Z4 : n0 ≤ h4.size := by rw [W4.size]; exact Z3
  have f_3 : Arl Z h4 ar1 .byte [(.int (p0).toInt8.toInt32), (.int (((p0).toUInt32 >>> ((8 : Int32) &&& 31).toUInt32).toInt32).toInt8.toInt32), (.int (((p0).toUInt32 >>> ((16 : Int32) &&& 31).toUInt32).toInt32).toInt8.toInt32), (.int (0 : Int32))] := A4
  refine Goes.go (st4) ?_
  show Goes _ _ _ _ _ _ _ (T4.setTop (mkF m 25 _ []))
  refine Goes.go (fun _ kk => XS.aloadN X4.here hx rfl (hb hby at_25) rfl rfl kk) ?_
  show Goes _ _ _ _ _ _ _ (T4.setTop (mkF m 26 _ [(.ref ar1)]))
  refine Goes.go (fun _ kk => XS.iconst X4.here hx rfl (hb hby at_26) kk) ?_
  show Goes _ _ _ _ _ _ _ (T4.setTop (mkF m 27 _ [(.int (3 : Int32)), (.ref ar1)]))
  refine Goes.go (fun _ kk => XS.iloadN X4.here hx rfl (hb hby at_27) rfl kk) ?_
  show Goes _ _ _ _ _ _ _ (T4.setTop (mkF m 28 _ [(.int p0), (.int (3 : Int32)), (.ref ar1)]))
  refine Goes.go (fun _ kk => XS.bipush X4.here hx rfl (hb hby at_28) kk) ?_
  show Goes _ _ _ _ _ _ _ (T4.setTop (mkF m 30 _ [(.int (24 : Int32)), (.int p0), (.int (3 : Int32)), (.ref ar1)]))
  refine Goes.go (fun _ kk => XS.iushr X4.here hx rfl (hb hby at_30) rfl kk) ?_
  show Goes _ _ _ _ _ _ _ (T4.setTop (mkF m 31 _ [(.int ((p0).toUInt32 >>> ((24 : Int32) &&& 31).toUInt32).toInt32), (.int (3 : Int32)), (.ref ar1)]))
  refine Goes.go (fun _ kk => XS.i2b X4.here hx rfl (hb hby at_31) rfl kk) ?_
  show Goes _ _ _ _ _ _ _ (T4.setTop (mkF m 32 _ [(.int (((p0).toUInt32 >>> ((24 : Int32) &&& 31).toUInt32).toInt32).toInt8.toInt32), (.int (3 : Int32)), (.ref ar1)]))
  obtain ⟨T5, h5, X5, e5, W5, A5, st5⟩ := own_stB X4 hx hZ e4 f_3 (j := (3 : Int32)) (x := (((p0).toUInt32 >>> ((24 : Int32) &&& 31).toUInt32).toInt32).toInt8.toInt32) (by decide) (show (3 : Nat) < 4 by decide) (g := (mkF m 32 #[.val (.int p0), .val (.int p1), .val (.int p2), .val (.ref ar1), .unset, .unset, .unset, .unset, .unset, .unset, .unset, .unset, .unset, .unset] [(.int (((p0).toUInt32 >>> ((24 : Int32) &&& 31).toUInt32).toInt32).toInt8.toInt32), (.int (3 : Int32)), (.ref ar1)])) rfl rfl (hb hby at_32)
  rw [own_nar8] at A5
  have N5 := Fr.snoc X5 N4 ge_ar1
  have Z5 : n0 ≤ h5.size := by rw [W5.size]; exact Z4
  have f_4 : Arl Z h5 ar1 .byte [(.int (p0).toInt8.toInt32), (.int (((p0).toUInt32 >>> ((8 : Int32) &&& 31).toUInt32).toInt32).toInt8.toInt32), (.int (((p0).toUInt32 >>> ((16 : Int32) &&& 31).toUInt32).toInt32).toInt8.toInt32), (.int (((p0).toUInt32 >>> ((24 : Int32) &&& 31).toUInt32).toInt32).toInt8.toInt32)] := A5
  refine Goes.go (st5) ?_
  show Goes _ _ _ _ _ _ _ (T5.setTop (mkF m 33 _ []))
  refine Goes.go (fun _ kk => XS.iloadN X5.here hx rfl (hb hby at_33) rfl kk) ?_
  show Goes _ _ _ _ _ _ _ (T5.setTop (mkF m 34 _ [(.int p1)]))
  refine Goes.go (fun _ kk => X5.ldcI hx (v := (2147483647 : Int32)) hown (mvT hZ (hw _ (List.mem_of_getElem? (i := 1) rfl))) rfl (hb hby at_34) kk) ?_
  show Goes _ _ _ _ _ _ _ (T5.setTop (mkF m 36 _ [(.int (2147483647 : Int32)), (.int p1)]))
  refine Goes.go (fun _ kk => XS.iand X5.here hx rfl (hb hby at_36) rfl kk) ?_
  show Goes _ _ _ _ _ _ _ (T5.setTop (mkF m 37 _ [(.int (p1 &&& (2147483647 : Int32)))]))
  refine Goes.go (fun _ kk => XS.iconst X5.here hx rfl (hb hby at_37) kk) ?_
  show Goes _ _ _ _ _ _ _ (T5.setTop (mkF m 38 _ [(.int (5 : Int32)), (.int (p1 &&& (2147483647 : Int32)))]))
  refine Goes.go (fun _ kk => iremM X5 hx rfl (hb hby at_38) rfl (by decide) kk) ?_
  show Goes _ _ _ _ _ _ _ (T5.setTop (mkF m 39 _ [(.int ((p1 &&& (2147483647 : Int32)) % (5 : Int32)))]))
  generalize hv39 : ((p1 &&& (2147483647 : Int32)) % (5 : Int32)) = v39
  refine Goes.go (fun _ kk => XS.istore X5.here hx rfl (hb hby at_39) rfl (l' := #[.val (.int p0), .val (.int p1), .val (.int p2), .val (.ref ar1), .val (.int v39), .unset, .unset, .unset, .unset, .unset, .unset, .unset, .unset, .unset]) rfl kk) ?_
  show Goes _ _ _ _ _ _ _ (T5.setTop (mkF m 41 #[.val (.int p0), .val (.int p1), .val (.int p2), .val (.ref ar1), .val (.int v39), .unset, .unset, .unset, .unset, .unset, .unset, .unset, .unset, .unset] []))
  have ho := own_o hv39
  refine Goes.go (fun _ kk => XS.iloadN X5.here hx rfl (hb hby at_41) rfl kk) ?_
  show Goes _ _ _ _ _ _ _ (T5.setTop (mkF m 42 _ [(.int p2)]))
  refine Goes.go (fun _ kk => X5.ldcI hx (v := (2147483647 : Int32)) hown (mvT hZ (hw _ (List.mem_of_getElem? (i := 1) rfl))) rfl (hb hby at_42) kk) ?_
  show Goes _ _ _ _ _ _ _ (T5.setTop (mkF m 44 _ [(.int (2147483647 : Int32)), (.int p2)]))
  refine Goes.go (fun _ kk => XS.iand X5.here hx rfl (hb hby at_44) rfl kk) ?_
  show Goes _ _ _ _ _ _ _ (T5.setTop (mkF m 45 _ [(.int (p2 &&& (2147483647 : Int32)))]))
  refine Goes.go (fun _ kk => XS.iconst X5.here hx rfl (hb hby at_45) kk) ?_
  show Goes _ _ _ _ _ _ _ (T5.setTop (mkF m 46 _ [(.int (5 : Int32)), (.int (p2 &&& (2147483647 : Int32)))]))
  refine Goes.go (fun _ kk => XS.iload X5.here hx rfl (hb hby at_46) rfl kk) ?_
  show Goes _ _ _ _ _ _ _ (T5.setTop (mkF m 48 _ [(.int v39), (.int (5 : Int32)), (.int (p2 &&& (2147483647 : Int32)))]))
  refine Goes.go (fun _ kk => XS.isub X5.here hx rfl (hb hby at_48) rfl kk) ?_
  show Goes _ _ _ _ _ _ _ (T5.setTop (mkF m 49 _ [(.int ((5 : Int32) - v39)), (.int (p2 &&& (2147483647 : Int32)))]))
  refine Goes.go (fun _ kk => iremM X5 hx rfl (hb hby at_49) rfl (own_5z ho) kk) ?_
  show Goes _ _ _ _ _ _ _ (T5.setTop (mkF m 50 _ [(.int ((p2 &&& (2147483647 : Int32)) % ((5 : Int32) - v39)))]))
  generalize hv50 : ((p2 &&& (2147483647 : Int32)) % ((5 : Int32) - v39)) = v50
  refine Goes.go (fun _ kk => XS.istore X5.here hx rfl (hb hby at_50) rfl (l' := #[.val (.int p0), .val (.int p1), .val (.int p2), .val (.ref ar1), .val (.int v39), .val (.int v50), .unset, .unset, .unset, .unset, .unset, .unset, .unset, .unset]) rfl kk) ?_
  show Goes _ _ _ _ _ _ _ (T5.setTop (mkF m 52 #[.val (.int p0), .val (.int p1), .val (.int p2), .val (.ref ar1), .val (.int v39), .val (.int v50), .unset, .unset, .unset, .unset, .unset, .unset, .unset, .unset] []))
  have hl := own_l ho hv50
  rcases own_ol ho hl with ⟨rfl, rfl⟩ | ⟨rfl, rfl⟩ | ⟨rfl, rfl⟩ | ⟨rfl, rfl⟩ | ⟨rfl, rfl⟩ | ⟨rfl, rfl⟩ | ⟨rfl, rfl⟩ | ⟨rfl, rfl⟩ | ⟨rfl, rfl⟩ | ⟨rfl, rfl⟩ | ⟨rfl, rfl⟩ | ⟨rfl, rfl⟩ | ⟨rfl, rfl⟩ | ⟨rfl, rfl⟩ | ⟨rfl, rfl⟩
  · skip
    show Goes _ _ _ _ _ _ _ (T5.setTop (mkF m 52 #[.val (.int p0), .val (.int p1), .val (.int p2), .val (.ref ar1), .val (.int (0 : Int32)), .val (.int (0 : Int32)), .unset, .unset, .unset, .unset, .unset, .unset, .unset, .unset] []))
    obtain ⟨T6, h6, X6, e6, E6, A6, D6, -, st6⟩ := newO X5 hx hZ hown (hw _ (List.mem_of_getElem? (i := 2) rfl)) (hw _ (List.mem_of_getElem? (i := 3) rfl)) (hw _ (List.mem_of_getElem? (i := 4) rfl)) e5 (g := (mkF m 52 #[.val (.int p0), .val (.int p1), .val (.int p2), .val (.ref ar1), .val (.int (0 : Int32)), .val (.int (0 : Int32)), .unset, .unset, .unset, .unset, .unset, .unset, .unset, .unset] [])) rfl (hb hby at_52) (by decide) (by decide)
    obtain ⟨ob52, gob52⟩ : ∃ z, z = h5.size := ⟨_, rfl⟩
    rw [← gob52] at A6 D6 st6
    have ne_ar1_ob52 : ar1 ≠ ob52 := by rw [gob52]; exact Nat.ne_of_lt f_4.lt
    have f_5 := f_4.ext E6
    have Z6 : n0 ≤ h6.size := Nat.le_trans Z5 E6.1
    have ge_ob52 : n0 ≤ ob52 := Nat.le_trans Z5 (Nat.le_of_eq gob52.symm)
    have f_6 : Fld Z h6 ob52 "com/example/wide_schema/wideschema/io/BytesInput" "_bytes" "[B" .null := D6 (Or.inr (hw _ (List.mem_of_getElem? (i := 17) rfl))) (ty := (.array .byte)) (by decide)
    have f_7 : Fld Z h6 ob52 "com/example/wide_schema/wideschema/io/BytesInput" "_next" "I" (.int (0 : Int32)) := D6 (Or.inl (hw _ (List.mem_of_getElem? (i := 19) rfl))) (ty := .int) (by decide)
    have f_8 : Fld Z h6 ob52 "com/example/wide_schema/wideschema/io/BytesInput" "_end" "I" (.int (0 : Int32)) := D6 (Or.inr (hw _ (List.mem_of_getElem? (i := 21) rfl))) (ty := .int) (by decide)
    refine Goes.go (st6) ?_
    show Goes _ _ _ _ _ _ _ (T6.setTop (mkF m 55 _ [(.ref ob52)]))
    refine Goes.go (fun _ kk => XS.dup X6.here hx rfl (hb hby at_55) rfl rfl kk) ?_
    show Goes _ _ _ _ _ _ _ (T6.setTop (mkF m 56 _ [(.ref ob52), (.ref ob52)]))
    refine Goes.go (fun _ kk => XS.aloadN X6.here hx rfl (hb hby at_56) rfl rfl kk) ?_
    show Goes _ _ _ _ _ _ _ (T6.setTop (mkF m 57 _ [(.ref ar1), (.ref ob52), (.ref ob52)]))
    refine Goes.go (fun _ kk => XS.iload X6.here hx rfl (hb hby at_57) rfl kk) ?_
    show Goes _ _ _ _ _ _ _ (T6.setTop (mkF m 59 _ [(.int (0 : Int32)), (.ref ar1), (.ref ob52), (.ref ob52)]))
    refine Goes.go (fun _ kk => XS.iload X6.here hx rfl (hb hby at_59) rfl kk) ?_
    show Goes _ _ _ _ _ _ _ (T6.setTop (mkF m 61 _ [(.int (0 : Int32)), (.int (0 : Int32)), (.ref ar1), (.ref ob52), (.ref ob52)]))
    obtain ⟨_, _, ⟨T7, L7, k7, n7⟩, -, X7, ⟨Lc7, hQ7, l7, y7, z7⟩, st7⟩ := X6.specialBack hx (y := (⟨"com/example/wide_schema/wideschema/io/BytesInput", "<init>", "([BII)V"⟩ : MethodName)) rfl hown (mvT hZ (hw _ (List.mem_of_getElem? (i := 5) rfl))) (mvT hZ (hw _ (List.mem_of_getElem? (i := 6) rfl))) (mvT hZ (hw _ (List.mem_of_getElem? (i := 7) rfl))) (by decide) (backOf (W := 1) (rm1 l Z a0 hw [] ob52 ar1 (0 : Int32) (0 : Int32) h6 n0 Z6 A6 f_6 f_7 f_8 ge_ob52) hZ (hw _ (List.mem_of_getElem? (i := 7) rfl)) (hw _ (List.mem_of_getElem? (i := 4) rfl)) (by decide) (by decide)) (g := (mkF m 61 #[.val (.int p0), .val (.int p1), .val (.int p2), .val (.ref ar1), .val (.int (0 : Int32)), .val (.int (0 : Int32)), .unset, .unset, .unset, .unset, .unset, .unset, .unset, .unset] [(.int (0 : Int32)), (.int (0 : Int32)), (.ref ar1), (.ref ob52), (.ref ob52)])) rfl (by rw [hml]; rfl) (Steps.refl _) (a := ob52) (argsL := [(.ref ar1), (.int (0 : Int32)), (.int (0 : Int32))]) (rest := [(.ref ob52)]) (lenOf pd0 rfl) rfl (by show 2 * 0 + _ ≤ _; exact Nat.le_of_eq rfl) (hb hby at_61) (fun _ _ => ⟨rfl, e6, (by decide : 2 + 0 ≤ _), (by decide : 7 + 0 ≤ _)⟩)
    dsimp only [Pt.U, Pt.locs, Pt.cells, Pt.slots] at X7 l7 y7 z7 st7 hQ7
    subst l7 y7 z7
    obtain ⟨rfl, Nq7, Kq7, Eq7, Fq7_0, Fq7_1, Fq7_2⟩ := hQ7
    have N7 := Fr.app N5 Nq7
    have Z7 : n0 ≤ T7.heap.size := Nat.le_trans Z6 Kq7.1
    have f_9 := Arl.keep f_5 Kq7 (ninS ne_ar1_ob52 nin0)
    refine Goes.go (fun _ kk => st7.trans kk) ?_
    show Goes _ _ _ _ _ _ _ (T7.setTop (mkF m 64 _ [(.ref ob52)]))
    refine Goes.go (fun _ kk => XS.astore X7.here hx rfl (hb hby at_64) rfl rfl (l' := #[.val (.int p0), .val (.int p1), .val (.int p2), .val (.ref ar1), .val (.int (0 : Int32)), .val (.int (0 : Int32)), .val (.ref ob52), .unset, .unset, .unset, .unset, .unset, .unset, .unset]) rfl kk) ?_
    show Goes _ _ _ _ _ _ _ (T7.setTop (mkF m 66 #[.val (.int p0), .val (.int p1), .val (.int p2), .val (.ref ar1), .val (.int (0 : Int32)), .val (.int (0 : Int32)), .val (.ref ob52), .unset, .unset, .unset, .unset, .unset, .unset, .unset] []))
    refine Goes.go (fun _ kk => XS.aload X7.here hx rfl (hb hby at_66) rfl rfl kk) ?_
    show Goes _ _ _ _ _ _ _ (T7.setTop (mkF m 68 _ [(.ref ob52)]))
    obtain ⟨cq8, kq8, qa8, qb8, qc8⟩ := isOf hZ rfl Eq7
    obtain ⟨_, _, ⟨T8, L8, k8, n8⟩, -, X8, ⟨Lc8, hQ8, l8, y8, z8⟩, st8⟩ := X7.virtualBack hx (y := (⟨"com/example/wide_schema/wideschema/io/BytesInput", "available", "()I"⟩ : MethodName)) (z := (⟨"com/example/wide_schema/wideschema/io/BytesInput", "available", "()I"⟩ : MethodName)) hown (mvT hZ (hw _ (List.mem_of_getElem? (i := 22) rfl))) (mvT hZ (hw _ (List.mem_of_getElem? (i := 23) rfl))) (notFace_of_selects (args := #[]) (mvT hZ (hw _ (List.mem_of_getElem? (i := 25) rfl)))) (mvT hZ (hw _ (List.mem_of_getElem? (i := 25) rfl))) (mvT hZ (hw _ (List.mem_of_getElem? (i := 24) rfl))) (by decide) (backOf (W := 0) (rm3 l Z a0 hw [] ob52 (0 : Int32) (0 : Int32) T7.heap n0 Z7 Fq7_1 Fq7_2) hZ (hw _ (List.mem_of_getElem? (i := 26) rfl)) (hw _ (List.mem_of_getElem? (i := 4) rfl)) (by decide) (by decide)) qa8 qc8 (g := (mkF m 68 #[.val (.int p0), .val (.int p1), .val (.int p2), .val (.ref ar1), .val (.int (0 : Int32)), .val (.int (0 : Int32)), .val (.ref ob52), .unset, .unset, .unset, .unset, .unset, .unset, .unset] [(.ref ob52)])) rfl (by rw [hml]; rfl) (Steps.refl _) (argsL := []) (rest := []) (lenOf pd2 rfl) rfl (by show 2 * 0 + _ ≤ _; exact Nat.le_of_eq rfl) (hb hby at_68) (fun _ _ => ⟨rfl, rfl, (by decide : 2 + 0 ≤ _), (by decide : 7 + 0 ≤ _)⟩)
    dsimp only [Pt.U, Pt.locs, Pt.cells, Pt.slots] at X8 l8 y8 z8 st8 hQ8
    subst l8 y8 z8
    obtain ⟨rfl, Nq8, hh8⟩ := hQ8
    have N8 := Fr.app N7 Nq8
    refine Goes.go (fun _ kk => st8.trans kk) ?_
    show Goes _ _ _ _ _ _ _ (T8.setTop (mkF m 71 _ [(.int (0 : Int32))]))
    refine Goes.go (fun _ kk => XS.iload X8.here hx rfl (hb hby at_71) rfl kk) ?_
    show Goes _ _ _ _ _ _ _ (T8.setTop (mkF m 73 _ [(.int (0 : Int32)), (.int (0 : Int32))]))
    refine Goes.go (fun _ kk => XS.icmpNo X8.here hx rfl (hb hby at_73) rfl (XT.ii_ne_f (by decide)) kk) ?_
    show Goes _ _ _ _ _ _ _ (T8.setTop (mkF m 76 _ []))
    refine Goes.go (fun _ kk => XS.iconst X8.here hx rfl (hb hby at_76) kk) ?_
    show Goes _ _ _ _ _ _ _ (T8.setTop (mkF m 77 _ [(.int (1 : Int32))]))
    refine Goes.go (fun _ kk => XS.goto X8.here hx rfl (pc0 := 77) (pc' := 81) rfl (hb hby at_77) (by decide) (by decide) kk) ?_
    show Goes _ _ _ _ _ _ _ (T8.setTop (mkF m 81 _ [(.int (1 : Int32))]))
    refine Goes.go (fun _ kk => XS.istore X8.here hx rfl (hb hby at_81) rfl (l' := #[.val (.int p0), .val (.int p1), .val (.int p2), .val (.ref ar1), .val (.int (0 : Int32)), .val (.int (0 : Int32)), .val (.ref ob52), .val (.int (1 : Int32)), .unset, .unset, .unset, .unset, .unset, .unset]) rfl kk) ?_
    show Goes _ _ _ _ _ _ _ (T8.setTop (mkF m 83 #[.val (.int p0), .val (.int p1), .val (.int p2), .val (.ref ar1), .val (.int (0 : Int32)), .val (.int (0 : Int32)), .val (.ref ob52), .val (.int (1 : Int32)), .unset, .unset, .unset, .unset, .unset, .unset] []))
    refine Goes.go (fun _ kk => XS.aload X8.here hx rfl (hb hby at_83) rfl rfl kk) ?_
    show Goes _ _ _ _ _ _ _ (T8.setTop (mkF m 85 _ [(.ref ob52)]))
    obtain ⟨cq9, kq9, qa9, qb9, qc9⟩ := isOf hZ hh8 Eq7
    obtain ⟨_, _, ⟨T9, L9, k9, n9⟩, -, X9, ⟨Lc9, hQ9, l9, y9, z9⟩, st9⟩ := X8.virtualBack hx (y := (⟨"com/example/wide_schema/wideschema/io/BytesInput", "read", "()I"⟩ : MethodName)) (z := (⟨"com/example/wide_schema/wideschema/io/BytesInput", "read", "()I"⟩ : MethodName)) hown (mvT hZ (hw _ (List.mem_of_getElem? (i := 27) rfl))) (mvT hZ (hw _ (List.mem_of_getElem? (i := 28) rfl))) (notFace_of_selects (args := #[]) (mvT hZ (hw _ (List.mem_of_getElem? (i := 30) rfl)))) (mvT hZ (hw _ (List.mem_of_getElem? (i := 30) rfl))) (mvT hZ (hw _ (List.mem_of_getElem? (i := 29) rfl))) (by decide) (backOf (W := 0) (rmN l Z a0 hw [] ob52 (0 : Int32) (0 : Int32) T7.heap n0 Z7 Fq7_1 Fq7_2 (by decide)) hZ (hw _ (List.mem_of_getElem? (i := 31) rfl)) (hw _ (List.mem_of_getElem? (i := 4) rfl)) (by decide) (by decide)) qa9 qc9 (g := (mkF m 85 #[.val (.int p0), .val (.int p1), .val (.int p2), .val (.ref ar1), .val (.int (0 : Int32)), .val (.int (0 : Int32)), .val (.ref ob52), .val (.int (1 : Int32)), .unset, .unset, .unset, .unset, .unset, .unset] [(.ref ob52)])) rfl (by rw [hml]; rfl) (Steps.refl _) (argsL := []) (rest := []) (lenOf pd2 rfl) rfl (by show 2 * 0 + _ ≤ _; exact Nat.le_of_eq rfl) (hb hby at_85) (fun _ _ => ⟨rfl, hh8, (by decide : 2 + 0 ≤ _), (by decide : 7 + 0 ≤ _)⟩)
    dsimp only [Pt.U, Pt.locs, Pt.cells, Pt.slots] at X9 l9 y9 z9 st9 hQ9
    subst l9 y9 z9
    obtain ⟨rfl, Nq9, hh9⟩ := hQ9
    have N9 := Fr.app N8 Nq9
    refine Goes.go (fun _ kk => st9.trans kk) ?_
    show Goes _ _ _ _ _ _ _ (T9.setTop (mkF m 88 _ [(.int (-1 : Int32))]))
    refine Goes.go (fun _ kk => XS.istore X9.here hx rfl (hb hby at_88) rfl (l' := #[.val (.int p0), .val (.int p1), .val (.int p2), .val (.ref ar1), .val (.int (0 : Int32)), .val (.int (0 : Int32)), .val (.ref ob52), .val (.int (1 : Int32)), .val (.int (-1 : Int32)), .unset, .unset, .unset, .unset, .unset]) rfl kk) ?_
    show Goes _ _ _ _ _ _ _ (T9.setTop (mkF m 90 #[.val (.int p0), .val (.int p1), .val (.int p2), .val (.ref ar1), .val (.int (0 : Int32)), .val (.int (0 : Int32)), .val (.ref ob52), .val (.int (1 : Int32)), .val (.int (-1 : Int32)), .unset, .unset, .unset, .unset, .unset] []))
    refine Goes.go (fun _ kk => XS.aload X9.here hx rfl (hb hby at_90) rfl rfl kk) ?_
    show Goes _ _ _ _ _ _ _ (T9.setTop (mkF m 92 _ [(.ref ob52)]))
    obtain ⟨cq10, kq10, qa10, qb10, qc10⟩ := isOf hZ hh9 Eq7
    obtain ⟨_, _, ⟨T10, L10, k10, n10⟩, -, X10, ⟨Lc10, hQ10, l10, y10, z10⟩, st10⟩ := X9.virtualBack hx (y := (⟨"com/example/wide_schema/wideschema/io/BytesInput", "read", "()I"⟩ : MethodName)) (z := (⟨"com/example/wide_schema/wideschema/io/BytesInput", "read", "()I"⟩ : MethodName)) hown (mvT hZ (hw _ (List.mem_of_getElem? (i := 27) rfl))) (mvT hZ (hw _ (List.mem_of_getElem? (i := 28) rfl))) (notFace_of_selects (args := #[]) (mvT hZ (hw _ (List.mem_of_getElem? (i := 30) rfl)))) (mvT hZ (hw _ (List.mem_of_getElem? (i := 30) rfl))) (mvT hZ (hw _ (List.mem_of_getElem? (i := 29) rfl))) (by decide) (backOf (W := 0) (rmN l Z a0 hw [] ob52 (0 : Int32) (0 : Int32) T7.heap n0 Z7 Fq7_1 Fq7_2 (by decide)) hZ (hw _ (List.mem_of_getElem? (i := 31) rfl)) (hw _ (List.mem_of_getElem? (i := 4) rfl)) (by decide) (by decide)) qa10 qc10 (g := (mkF m 92 #[.val (.int p0), .val (.int p1), .val (.int p2), .val (.ref ar1), .val (.int (0 : Int32)), .val (.int (0 : Int32)), .val (.ref ob52), .val (.int (1 : Int32)), .val (.int (-1 : Int32)), .unset, .unset, .unset, .unset, .unset] [(.ref ob52)])) rfl (by rw [hml]; rfl) (Steps.refl _) (argsL := []) (rest := []) (lenOf pd2 rfl) rfl (by show 2 * 0 + _ ≤ _; exact Nat.le_of_eq rfl) (hb hby at_92) (fun _ _ => ⟨rfl, hh9, (by decide : 2 + 0 ≤ _), (by decide : 7 + 0 ≤ _)⟩)
    dsimp only [Pt.U, Pt.locs, Pt.cells, Pt.slots] at X10 l10 y10 z10 st10 hQ10
    subst l10 y10 z10
    obtain ⟨rfl, Nq10, hh10⟩ := hQ10
    have N10 := Fr.app N9 Nq10
    refine Goes.go (fun _ kk => st10.trans kk) ?_
    show Goes _ _ _ _ _ _ _ (T10.setTop (mkF m 95 _ [(.int (-1 : Int32))]))
    refine Goes.go (fun _ kk => XS.istore X10.here hx rfl (hb hby at_95) rfl (l' := #[.val (.int p0), .val (.int p1), .val (.int p2), .val (.ref ar1), .val (.int (0 : Int32)), .val (.int (0 : Int32)), .val (.ref ob52), .val (.int (1 : Int32)), .val (.int (-1 : Int32)), .val (.int (-1 : Int32)), .unset, .unset, .unset, .unset]) rfl kk) ?_
    show Goes _ _ _ _ _ _ _ (T10.setTop (mkF m 97 #[.val (.int p0), .val (.int p1), .val (.int p2), .val (.ref ar1), .val (.int (0 : Int32)), .val (.int (0 : Int32)), .val (.ref ob52), .val (.int (1 : Int32)), .val (.int (-1 : Int32)), .val (.int (-1 : Int32)), .unset, .unset, .unset, .unset] []))
    refine Goes.go (fun _ kk => XS.aload X10.here hx rfl (hb hby at_97) rfl rfl kk) ?_
    show Goes _ _ _ _ _ _ _ (T10.setTop (mkF m 99 _ [(.ref ob52)]))
    obtain ⟨cq11, kq11, qa11, qb11, qc11⟩ := isOf hZ hh10 Eq7
    obtain ⟨_, _, ⟨T11, L11, k11, n11⟩, -, X11, ⟨Lc11, hQ11, l11, y11, z11⟩, st11⟩ := X10.virtualBack hx (y := (⟨"com/example/wide_schema/wideschema/io/BytesInput", "read", "()I"⟩ : MethodName)) (z := (⟨"com/example/wide_schema/wideschema/io/BytesInput", "read", "()I"⟩ : MethodName)) hown (mvT hZ (hw _ (List.mem_of_getElem? (i := 27) rfl))) (mvT hZ (hw _ (List.mem_of_getElem? (i := 28) rfl))) (notFace_of_selects (args := #[]) (mvT hZ (hw _ (List.mem_of_getElem? (i := 30) rfl)))) (mvT hZ (hw _ (List.mem_of_getElem? (i := 30) rfl))) (mvT hZ (hw _ (List.mem_of_getElem? (i := 29) rfl))) (by decide) (backOf (W := 0) (rmN l Z a0 hw [] ob52 (0 : Int32) (0 : Int32) T7.heap n0 Z7 Fq7_1 Fq7_2 (by decide)) hZ (hw _ (List.mem_of_getElem? (i := 31) rfl)) (hw _ (List.mem_of_getElem? (i := 4) rfl)) (by decide) (by decide)) qa11 qc11 (g := (mkF m 99 #[.val (.int p0), .val (.int p1), .val (.int p2), .val (.ref ar1), .val (.int (0 : Int32)), .val (.int (0 : Int32)), .val (.ref ob52), .val (.int (1 : Int32)), .val (.int (-1 : Int32)), .val (.int (-1 : Int32)), .unset, .unset, .unset, .unset] [(.ref ob52)])) rfl (by rw [hml]; rfl) (Steps.refl _) (argsL := []) (rest := []) (lenOf pd2 rfl) rfl (by show 2 * 0 + _ ≤ _; exact Nat.le_of_eq rfl) (hb hby at_99) (fun _ _ => ⟨rfl, hh10, (by decide : 2 + 0 ≤ _), (by decide : 7 + 0 ≤ _)⟩)
    dsimp only [Pt.U, Pt.locs, Pt.cells, Pt.slots] at X11 l11 y11 z11 st11 hQ11
    subst l11 y11 z11
    obtain ⟨rfl, Nq11, hh11⟩ := hQ11
    have N11 := Fr.app N10 Nq11
    refine Goes.go (fun _ kk => st11.trans kk) ?_
    show Goes _ _ _ _ _ _ _ (T11.setTop (mkF m 102 _ [(.int (-1 : Int32))]))
    refine Goes.go (fun _ kk => XS.istore X11.here hx rfl (hb hby at_102) rfl (l' := #[.val (.int p0), .val (.int p1), .val (.int p2), .val (.ref ar1), .val (.int (0 : Int32)), .val (.int (0 : Int32)), .val (.ref ob52), .val (.int (1 : Int32)), .val (.int (-1 : Int32)), .val (.int (-1 : Int32)), .val (.int (-1 : Int32)), .unset, .unset, .unset]) rfl kk) ?_
    show Goes _ _ _ _ _ _ _ (T11.setTop (mkF m 104 #[.val (.int p0), .val (.int p1), .val (.int p2), .val (.ref ar1), .val (.int (0 : Int32)), .val (.int (0 : Int32)), .val (.ref ob52), .val (.int (1 : Int32)), .val (.int (-1 : Int32)), .val (.int (-1 : Int32)), .val (.int (-1 : Int32)), .unset, .unset, .unset] []))
    refine Goes.go (fun _ kk => XS.aload X11.here hx rfl (hb hby at_104) rfl rfl kk) ?_
    show Goes _ _ _ _ _ _ _ (T11.setTop (mkF m 106 _ [(.ref ob52)]))
    obtain ⟨cq12, kq12, qa12, qb12, qc12⟩ := isOf hZ hh11 Eq7
    obtain ⟨_, _, ⟨T12, L12, k12, n12⟩, -, X12, ⟨Lc12, hQ12, l12, y12, z12⟩, st12⟩ := X11.virtualBack hx (y := (⟨"com/example/wide_schema/wideschema/io/BytesInput", "read", "()I"⟩ : MethodName)) (z := (⟨"com/example/wide_schema/wideschema/io/BytesInput", "read", "()I"⟩ : MethodName)) hown (mvT hZ (hw _ (List.mem_of_getElem? (i := 27) rfl))) (mvT hZ (hw _ (List.mem_of_getElem? (i := 28) rfl))) (notFace_of_selects (args := #[]) (mvT hZ (hw _ (List.mem_of_getElem? (i := 30) rfl)))) (mvT hZ (hw _ (List.mem_of_getElem? (i := 30) rfl))) (mvT hZ (hw _ (List.mem_of_getElem? (i := 29) rfl))) (by decide) (backOf (W := 0) (rmN l Z a0 hw [] ob52 (0 : Int32) (0 : Int32) T7.heap n0 Z7 Fq7_1 Fq7_2 (by decide)) hZ (hw _ (List.mem_of_getElem? (i := 31) rfl)) (hw _ (List.mem_of_getElem? (i := 4) rfl)) (by decide) (by decide)) qa12 qc12 (g := (mkF m 106 #[.val (.int p0), .val (.int p1), .val (.int p2), .val (.ref ar1), .val (.int (0 : Int32)), .val (.int (0 : Int32)), .val (.ref ob52), .val (.int (1 : Int32)), .val (.int (-1 : Int32)), .val (.int (-1 : Int32)), .val (.int (-1 : Int32)), .unset, .unset, .unset] [(.ref ob52)])) rfl (by rw [hml]; rfl) (Steps.refl _) (argsL := []) (rest := []) (lenOf pd2 rfl) rfl (by show 2 * 0 + _ ≤ _; exact Nat.le_of_eq rfl) (hb hby at_106) (fun _ _ => ⟨rfl, hh11, (by decide : 2 + 0 ≤ _), (by decide : 7 + 0 ≤ _)⟩)
    dsimp only [Pt.U, Pt.locs, Pt.cells, Pt.slots] at X12 l12 y12 z12 st12 hQ12
    subst l12 y12 z12
    obtain ⟨rfl, Nq12, hh12⟩ := hQ12
    have N12 := Fr.app N11 Nq12
    refine Goes.go (fun _ kk => st12.trans kk) ?_
    show Goes _ _ _ _ _ _ _ (T12.setTop (mkF m 109 _ [(.int (-1 : Int32))]))
    refine Goes.go (fun _ kk => XS.istore X12.here hx rfl (hb hby at_109) rfl (l' := #[.val (.int p0), .val (.int p1), .val (.int p2), .val (.ref ar1), .val (.int (0 : Int32)), .val (.int (0 : Int32)), .val (.ref ob52), .val (.int (1 : Int32)), .val (.int (-1 : Int32)), .val (.int (-1 : Int32)), .val (.int (-1 : Int32)), .val (.int (-1 : Int32)), .unset, .unset]) rfl kk) ?_
    show Goes _ _ _ _ _ _ _ (T12.setTop (mkF m 111 #[.val (.int p0), .val (.int p1), .val (.int p2), .val (.ref ar1), .val (.int (0 : Int32)), .val (.int (0 : Int32)), .val (.ref ob52), .val (.int (1 : Int32)), .val (.int (-1 : Int32)), .val (.int (-1 : Int32)), .val (.int (-1 : Int32)), .val (.int (-1 : Int32)), .unset, .unset] []))
    refine Goes.go (fun _ kk => XS.aload X12.here hx rfl (hb hby at_111) rfl rfl kk) ?_
    show Goes _ _ _ _ _ _ _ (T12.setTop (mkF m 113 _ [(.ref ob52)]))
    obtain ⟨cq13, kq13, qa13, qb13, qc13⟩ := isOf hZ hh12 Eq7
    obtain ⟨_, _, ⟨T13, L13, k13, n13⟩, -, X13, ⟨Lc13, hQ13, l13, y13, z13⟩, st13⟩ := X12.virtualBack hx (y := (⟨"com/example/wide_schema/wideschema/io/BytesInput", "read", "()I"⟩ : MethodName)) (z := (⟨"com/example/wide_schema/wideschema/io/BytesInput", "read", "()I"⟩ : MethodName)) hown (mvT hZ (hw _ (List.mem_of_getElem? (i := 27) rfl))) (mvT hZ (hw _ (List.mem_of_getElem? (i := 28) rfl))) (notFace_of_selects (args := #[]) (mvT hZ (hw _ (List.mem_of_getElem? (i := 30) rfl)))) (mvT hZ (hw _ (List.mem_of_getElem? (i := 30) rfl))) (mvT hZ (hw _ (List.mem_of_getElem? (i := 29) rfl))) (by decide) (backOf (W := 0) (rmN l Z a0 hw [] ob52 (0 : Int32) (0 : Int32) T7.heap n0 Z7 Fq7_1 Fq7_2 (by decide)) hZ (hw _ (List.mem_of_getElem? (i := 31) rfl)) (hw _ (List.mem_of_getElem? (i := 4) rfl)) (by decide) (by decide)) qa13 qc13 (g := (mkF m 113 #[.val (.int p0), .val (.int p1), .val (.int p2), .val (.ref ar1), .val (.int (0 : Int32)), .val (.int (0 : Int32)), .val (.ref ob52), .val (.int (1 : Int32)), .val (.int (-1 : Int32)), .val (.int (-1 : Int32)), .val (.int (-1 : Int32)), .val (.int (-1 : Int32)), .unset, .unset] [(.ref ob52)])) rfl (by rw [hml]; rfl) (Steps.refl _) (argsL := []) (rest := []) (lenOf pd2 rfl) rfl (by show 2 * 0 + _ ≤ _; exact Nat.le_of_eq rfl) (hb hby at_113) (fun _ _ => ⟨rfl, hh12, (by decide : 2 + 0 ≤ _), (by decide : 7 + 0 ≤ _)⟩)
    dsimp only [Pt.U, Pt.locs, Pt.cells, Pt.slots] at X13 l13 y13 z13 st13 hQ13
    subst l13 y13 z13
    obtain ⟨rfl, Nq13, hh13⟩ := hQ13
    have N13 := Fr.app N12 Nq13
    refine Goes.go (fun _ kk => st13.trans kk) ?_
    show Goes _ _ _ _ _ _ _ (T13.setTop (mkF m 116 _ [(.int (-1 : Int32))]))
    refine Goes.go (fun _ kk => XS.istore X13.here hx rfl (hb hby at_116) rfl (l' := #[.val (.int p0), .val (.int p1), .val (.int p2), .val (.ref ar1), .val (.int (0 : Int32)), .val (.int (0 : Int32)), .val (.ref ob52), .val (.int (1 : Int32)), .val (.int (-1 : Int32)), .val (.int (-1 : Int32)), .val (.int (-1 : Int32)), .val (.int (-1 : Int32)), .val (.int (-1 : Int32)), .unset]) rfl kk) ?_
    show Goes _ _ _ _ _ _ _ (T13.setTop (mkF m 118 #[.val (.int p0), .val (.int p1), .val (.int p2), .val (.ref ar1), .val (.int (0 : Int32)), .val (.int (0 : Int32)), .val (.ref ob52), .val (.int (1 : Int32)), .val (.int (-1 : Int32)), .val (.int (-1 : Int32)), .val (.int (-1 : Int32)), .val (.int (-1 : Int32)), .val (.int (-1 : Int32)), .unset] []))
    refine Goes.go (fun _ kk => XS.aload X13.here hx rfl (hb hby at_118) rfl rfl kk) ?_
    show Goes _ _ _ _ _ _ _ (T13.setTop (mkF m 120 _ [(.ref ob52)]))
    obtain ⟨cq14, kq14, qa14, qb14, qc14⟩ := isOf hZ hh13 Eq7
    obtain ⟨_, _, ⟨T14, L14, k14, n14⟩, -, X14, ⟨Lc14, hQ14, l14, y14, z14⟩, st14⟩ := X13.virtualBack hx (y := (⟨"com/example/wide_schema/wideschema/io/BytesInput", "read", "()I"⟩ : MethodName)) (z := (⟨"com/example/wide_schema/wideschema/io/BytesInput", "read", "()I"⟩ : MethodName)) hown (mvT hZ (hw _ (List.mem_of_getElem? (i := 27) rfl))) (mvT hZ (hw _ (List.mem_of_getElem? (i := 28) rfl))) (notFace_of_selects (args := #[]) (mvT hZ (hw _ (List.mem_of_getElem? (i := 30) rfl)))) (mvT hZ (hw _ (List.mem_of_getElem? (i := 30) rfl))) (mvT hZ (hw _ (List.mem_of_getElem? (i := 29) rfl))) (by decide) (backOf (W := 0) (rmN l Z a0 hw [] ob52 (0 : Int32) (0 : Int32) T7.heap n0 Z7 Fq7_1 Fq7_2 (by decide)) hZ (hw _ (List.mem_of_getElem? (i := 31) rfl)) (hw _ (List.mem_of_getElem? (i := 4) rfl)) (by decide) (by decide)) qa14 qc14 (g := (mkF m 120 #[.val (.int p0), .val (.int p1), .val (.int p2), .val (.ref ar1), .val (.int (0 : Int32)), .val (.int (0 : Int32)), .val (.ref ob52), .val (.int (1 : Int32)), .val (.int (-1 : Int32)), .val (.int (-1 : Int32)), .val (.int (-1 : Int32)), .val (.int (-1 : Int32)), .val (.int (-1 : Int32)), .unset] [(.ref ob52)])) rfl (by rw [hml]; rfl) (Steps.refl _) (argsL := []) (rest := []) (lenOf pd2 rfl) rfl (by show 2 * 0 + _ ≤ _; exact Nat.le_of_eq rfl) (hb hby at_120) (fun _ _ => ⟨rfl, hh13, (by decide : 2 + 0 ≤ _), (by decide : 7 + 0 ≤ _)⟩)
    dsimp only [Pt.U, Pt.locs, Pt.cells, Pt.slots] at X14 l14 y14 z14 st14 hQ14
    subst l14 y14 z14
    obtain ⟨rfl, Nq14, hh14⟩ := hQ14
    have N14 := Fr.app N13 Nq14
    refine Goes.go (fun _ kk => st14.trans kk) ?_
    show Goes _ _ _ _ _ _ _ (T14.setTop (mkF m 123 _ [(.int (-1 : Int32))]))
    refine Goes.go (fun _ kk => XS.istore X14.here hx rfl (hb hby at_123) rfl (l' := #[.val (.int p0), .val (.int p1), .val (.int p2), .val (.ref ar1), .val (.int (0 : Int32)), .val (.int (0 : Int32)), .val (.ref ob52), .val (.int (1 : Int32)), .val (.int (-1 : Int32)), .val (.int (-1 : Int32)), .val (.int (-1 : Int32)), .val (.int (-1 : Int32)), .val (.int (-1 : Int32)), .val (.int (-1 : Int32))]) rfl kk) ?_
    show Goes _ _ _ _ _ _ _ (T14.setTop (mkF m 125 #[.val (.int p0), .val (.int p1), .val (.int p2), .val (.ref ar1), .val (.int (0 : Int32)), .val (.int (0 : Int32)), .val (.ref ob52), .val (.int (1 : Int32)), .val (.int (-1 : Int32)), .val (.int (-1 : Int32)), .val (.int (-1 : Int32)), .val (.int (-1 : Int32)), .val (.int (-1 : Int32)), .val (.int (-1 : Int32))] []))
    refine Goes.go (fun _ kk => XS.iload X14.here hx rfl (hb hby at_125) rfl kk) ?_
    show Goes _ _ _ _ _ _ _ (T14.setTop (mkF m 127 _ [(.int (1 : Int32))]))
    refine Goes.go (fun _ kk => XS.ifNo X14.here hx rfl (hb hby at_127) rfl (XT.i0_eq_f (by decide)) kk) ?_
    show Goes _ _ _ _ _ _ _ (T14.setTop (mkF m 130 _ []))
    refine Goes.go (fun _ kk => XS.iload X14.here hx rfl (hb hby at_130) rfl kk) ?_
    show Goes _ _ _ _ _ _ _ (T14.setTop (mkF m 132 _ [(.int (-1 : Int32))]))
    refine Goes.go (fun _ kk => XS.iloadN X14.here hx rfl (hb hby at_132) rfl kk) ?_
    show Goes _ _ _ _ _ _ _ (T14.setTop (mkF m 133 _ [(.int p0), (.int (-1 : Int32))]))
    refine Goes.go (fun _ kk => XS.iload X14.here hx rfl (hb hby at_133) rfl kk) ?_
    show Goes _ _ _ _ _ _ _ (T14.setTop (mkF m 135 _ [(.int (0 : Int32)), (.int p0), (.int (-1 : Int32))]))
    refine Goes.go (fun _ kk => XS.iload X14.here hx rfl (hb hby at_135) rfl kk) ?_
    show Goes _ _ _ _ _ _ _ (T14.setTop (mkF m 137 _ [(.int (0 : Int32)), (.int (0 : Int32)), (.int p0), (.int (-1 : Int32))]))
    refine Goes.go (fun _ kk => XS.iconst X14.here hx rfl (hb hby at_137) kk) ?_
    show Goes _ _ _ _ _ _ _ (T14.setTop (mkF m 138 _ [(.int (0 : Int32)), (.int (0 : Int32)), (.int (0 : Int32)), (.int p0), (.int (-1 : Int32))]))
    obtain ⟨_, _, ⟨T15, L15, k15, n15⟩, -, X15, ⟨Lc15, hQ15, l15, y15, z15⟩, st15⟩ := Jvm.LawKit.callS X14 hx (y := (⟨"com/example/wide_schema/wideschema/io/BytesInputReadPinLaw", "exp", "(IIII)I"⟩ : MethodName)) hown (mvT hZ (hw _ (List.mem_of_getElem? (i := 32) rfl))) (mvT hZ (hw _ (List.mem_of_getElem? (i := 33) rfl))) (mvT hZ (hw _ (List.mem_of_getElem? (i := 34) rfl))) (mvT hZ (hw _ (List.mem_of_getElem? (i := 35) rfl))) (by decide) (backOf (W := 1) (rm5 l Z a0 hw [] p0 (0 : Int32) (0 : Int32) (0 : Int32) T7.heap n0 Z7) hZ (hw _ (List.mem_of_getElem? (i := 35) rfl)) (hw _ (List.mem_of_getElem? (i := 34) rfl)) (by decide) (by decide)) (g := (mkF m 138 #[.val (.int p0), .val (.int p1), .val (.int p2), .val (.ref ar1), .val (.int (0 : Int32)), .val (.int (0 : Int32)), .val (.ref ob52), .val (.int (1 : Int32)), .val (.int (-1 : Int32)), .val (.int (-1 : Int32)), .val (.int (-1 : Int32)), .val (.int (-1 : Int32)), .val (.int (-1 : Int32)), .val (.int (-1 : Int32))] [(.int (0 : Int32)), (.int (0 : Int32)), (.int (0 : Int32)), (.int p0), (.int (-1 : Int32))])) rfl (by rw [hml]; rfl) (argsL := [(.int p0), (.int (0 : Int32)), (.int (0 : Int32)), (.int (0 : Int32))]) (rest := [(.int (-1 : Int32))]) (lenOf pd3 rfl) rfl (by show 2 * 0 + _ ≤ _; exact Nat.le_of_eq rfl) (hb hby at_138) (fun _ _ => ⟨rfl, hh14, (by decide : 2 + 0 ≤ _), (by decide : 7 + 0 ≤ _)⟩)
    dsimp only [Pt.U, Pt.locs, Pt.cells, Pt.slots] at X15 l15 y15 z15 st15 hQ15
    subst l15 y15 z15
    obtain ⟨rfl, Nq15, hh15⟩ := hQ15
    have N15 := Fr.app N14 Nq15
    refine Goes.go (st15) ?_
    show Goes _ _ _ _ _ _ _ (T15.setTop (mkF m 141 _ [(.int (exF p0 (0 : Int32) (0 : Int32) (0 : Int32))), (.int (-1 : Int32))]))
    refine Goes.go (fun _ kk => XS.icmpNo X15.here hx rfl (hb hby at_141) rfl (XT.ii_ne_f (own_m (by decide))) kk) ?_
    show Goes _ _ _ _ _ _ _ (T15.setTop (mkF m 144 _ []))
    refine Goes.go (fun _ kk => XS.iconst X15.here hx rfl (hb hby at_144) kk) ?_
    show Goes _ _ _ _ _ _ _ (T15.setTop (mkF m 145 _ [(.int (1 : Int32))]))
    refine Goes.go (fun _ kk => XS.goto X15.here hx rfl (pc0 := 145) (pc' := 149) rfl (hb hby at_145) (by decide) (by decide) kk) ?_
    show Goes _ _ _ _ _ _ _ (T15.setTop (mkF m 149 _ [(.int (1 : Int32))]))
    refine Goes.go (fun _ kk => XS.istore X15.here hx rfl (hb hby at_149) rfl (l' := #[.val (.int p0), .val (.int p1), .val (.int p2), .val (.ref ar1), .val (.int (0 : Int32)), .val (.int (0 : Int32)), .val (.ref ob52), .val (.int (1 : Int32)), .val (.int (-1 : Int32)), .val (.int (-1 : Int32)), .val (.int (-1 : Int32)), .val (.int (-1 : Int32)), .val (.int (-1 : Int32)), .val (.int (-1 : Int32))]) rfl kk) ?_
    show Goes _ _ _ _ _ _ _ (T15.setTop (mkF m 151 _ []))
    refine Goes.go (fun _ kk => XS.iload X15.here hx rfl (hb hby at_151) rfl kk) ?_
    show Goes _ _ _ _ _ _ _ (T15.setTop (mkF m 153 _ [(.int (1 : Int32))]))
    refine Goes.go (fun _ kk => XS.ifNo X15.here hx rfl (hb hby at_153) rfl (XT.i0_eq_f (by decide)) kk) ?_
    show Goes _ _ _ _ _ _ _ (T15.setTop (mkF m 156 _ []))
    refine Goes.go (fun _ kk => XS.iload X15.here hx rfl (hb hby at_156) rfl kk) ?_
    show Goes _ _ _ _ _ _ _ (T15.setTop (mkF m 158 _ [(.int (-1 : Int32))]))
    refine Goes.go (fun _ kk => XS.iloadN X15.here hx rfl (hb hby at_158) rfl kk) ?_
    show Goes _ _ _ _ _ _ _ (T15.setTop (mkF m 159 _ [(.int p0), (.int (-1 : Int32))]))
    refine Goes.go (fun _ kk => XS.iload X15.here hx rfl (hb hby at_159) rfl kk) ?_
    show Goes _ _ _ _ _ _ _ (T15.setTop (mkF m 161 _ [(.int (0 : Int32)), (.int p0), (.int (-1 : Int32))]))
    refine Goes.go (fun _ kk => XS.iload X15.here hx rfl (hb hby at_161) rfl kk) ?_
    show Goes _ _ _ _ _ _ _ (T15.setTop (mkF m 163 _ [(.int (0 : Int32)), (.int (0 : Int32)), (.int p0), (.int (-1 : Int32))]))
    refine Goes.go (fun _ kk => XS.iconst X15.here hx rfl (hb hby at_163) kk) ?_
    show Goes _ _ _ _ _ _ _ (T15.setTop (mkF m 164 _ [(.int (1 : Int32)), (.int (0 : Int32)), (.int (0 : Int32)), (.int p0), (.int (-1 : Int32))]))
    obtain ⟨_, _, ⟨T16, L16, k16, n16⟩, -, X16, ⟨Lc16, hQ16, l16, y16, z16⟩, st16⟩ := Jvm.LawKit.callS X15 hx (y := (⟨"com/example/wide_schema/wideschema/io/BytesInputReadPinLaw", "exp", "(IIII)I"⟩ : MethodName)) hown (mvT hZ (hw _ (List.mem_of_getElem? (i := 32) rfl))) (mvT hZ (hw _ (List.mem_of_getElem? (i := 33) rfl))) (mvT hZ (hw _ (List.mem_of_getElem? (i := 34) rfl))) (mvT hZ (hw _ (List.mem_of_getElem? (i := 35) rfl))) (by decide) (backOf (W := 1) (rm5 l Z a0 hw [] p0 (0 : Int32) (0 : Int32) (1 : Int32) T7.heap n0 Z7) hZ (hw _ (List.mem_of_getElem? (i := 35) rfl)) (hw _ (List.mem_of_getElem? (i := 34) rfl)) (by decide) (by decide)) (g := (mkF m 164 #[.val (.int p0), .val (.int p1), .val (.int p2), .val (.ref ar1), .val (.int (0 : Int32)), .val (.int (0 : Int32)), .val (.ref ob52), .val (.int (1 : Int32)), .val (.int (-1 : Int32)), .val (.int (-1 : Int32)), .val (.int (-1 : Int32)), .val (.int (-1 : Int32)), .val (.int (-1 : Int32)), .val (.int (-1 : Int32))] [(.int (1 : Int32)), (.int (0 : Int32)), (.int (0 : Int32)), (.int p0), (.int (-1 : Int32))])) rfl (by rw [hml]; rfl) (argsL := [(.int p0), (.int (0 : Int32)), (.int (0 : Int32)), (.int (1 : Int32))]) (rest := [(.int (-1 : Int32))]) (lenOf pd3 rfl) rfl (by show 2 * 0 + _ ≤ _; exact Nat.le_of_eq rfl) (hb hby at_164) (fun _ _ => ⟨rfl, hh15, (by decide : 2 + 0 ≤ _), (by decide : 7 + 0 ≤ _)⟩)
    dsimp only [Pt.U, Pt.locs, Pt.cells, Pt.slots] at X16 l16 y16 z16 st16 hQ16
    subst l16 y16 z16
    obtain ⟨rfl, Nq16, hh16⟩ := hQ16
    have N16 := Fr.app N15 Nq16
    refine Goes.go (st16) ?_
    show Goes _ _ _ _ _ _ _ (T16.setTop (mkF m 167 _ [(.int (exF p0 (0 : Int32) (0 : Int32) (1 : Int32))), (.int (-1 : Int32))]))
    refine Goes.go (fun _ kk => XS.icmpNo X16.here hx rfl (hb hby at_167) rfl (XT.ii_ne_f (own_m (by decide))) kk) ?_
    show Goes _ _ _ _ _ _ _ (T16.setTop (mkF m 170 _ []))
    refine Goes.go (fun _ kk => XS.iconst X16.here hx rfl (hb hby at_170) kk) ?_
    show Goes _ _ _ _ _ _ _ (T16.setTop (mkF m 171 _ [(.int (1 : Int32))]))
    refine Goes.go (fun _ kk => XS.goto X16.here hx rfl (pc0 := 171) (pc' := 175) rfl (hb hby at_171) (by decide) (by decide) kk) ?_
    show Goes _ _ _ _ _ _ _ (T16.setTop (mkF m 175 _ [(.int (1 : Int32))]))
    refine Goes.go (fun _ kk => XS.istore X16.here hx rfl (hb hby at_175) rfl (l' := #[.val (.int p0), .val (.int p1), .val (.int p2), .val (.ref ar1), .val (.int (0 : Int32)), .val (.int (0 : Int32)), .val (.ref ob52), .val (.int (1 : Int32)), .val (.int (-1 : Int32)), .val (.int (-1 : Int32)), .val (.int (-1 : Int32)), .val (.int (-1 : Int32)), .val (.int (-1 : Int32)), .val (.int (-1 : Int32))]) rfl kk) ?_
    show Goes _ _ _ _ _ _ _ (T16.setTop (mkF m 177 _ []))
    refine Goes.go (fun _ kk => XS.iload X16.here hx rfl (hb hby at_177) rfl kk) ?_
    show Goes _ _ _ _ _ _ _ (T16.setTop (mkF m 179 _ [(.int (1 : Int32))]))
    refine Goes.go (fun _ kk => XS.ifNo X16.here hx rfl (hb hby at_179) rfl (XT.i0_eq_f (by decide)) kk) ?_
    show Goes _ _ _ _ _ _ _ (T16.setTop (mkF m 182 _ []))
    refine Goes.go (fun _ kk => XS.iload X16.here hx rfl (hb hby at_182) rfl kk) ?_
    show Goes _ _ _ _ _ _ _ (T16.setTop (mkF m 184 _ [(.int (-1 : Int32))]))
    refine Goes.go (fun _ kk => XS.iloadN X16.here hx rfl (hb hby at_184) rfl kk) ?_
    show Goes _ _ _ _ _ _ _ (T16.setTop (mkF m 185 _ [(.int p0), (.int (-1 : Int32))]))
    refine Goes.go (fun _ kk => XS.iload X16.here hx rfl (hb hby at_185) rfl kk) ?_
    show Goes _ _ _ _ _ _ _ (T16.setTop (mkF m 187 _ [(.int (0 : Int32)), (.int p0), (.int (-1 : Int32))]))
    refine Goes.go (fun _ kk => XS.iload X16.here hx rfl (hb hby at_187) rfl kk) ?_
    show Goes _ _ _ _ _ _ _ (T16.setTop (mkF m 189 _ [(.int (0 : Int32)), (.int (0 : Int32)), (.int p0), (.int (-1 : Int32))]))
    refine Goes.go (fun _ kk => XS.iconst X16.here hx rfl (hb hby at_189) kk) ?_
    show Goes _ _ _ _ _ _ _ (T16.setTop (mkF m 190 _ [(.int (2 : Int32)), (.int (0 : Int32)), (.int (0 : Int32)), (.int p0), (.int (-1 : Int32))]))
    obtain ⟨_, _, ⟨T17, L17, k17, n17⟩, -, X17, ⟨Lc17, hQ17, l17, y17, z17⟩, st17⟩ := Jvm.LawKit.callS X16 hx (y := (⟨"com/example/wide_schema/wideschema/io/BytesInputReadPinLaw", "exp", "(IIII)I"⟩ : MethodName)) hown (mvT hZ (hw _ (List.mem_of_getElem? (i := 32) rfl))) (mvT hZ (hw _ (List.mem_of_getElem? (i := 33) rfl))) (mvT hZ (hw _ (List.mem_of_getElem? (i := 34) rfl))) (mvT hZ (hw _ (List.mem_of_getElem? (i := 35) rfl))) (by decide) (backOf (W := 1) (rm5 l Z a0 hw [] p0 (0 : Int32) (0 : Int32) (2 : Int32) T7.heap n0 Z7) hZ (hw _ (List.mem_of_getElem? (i := 35) rfl)) (hw _ (List.mem_of_getElem? (i := 34) rfl)) (by decide) (by decide)) (g := (mkF m 190 #[.val (.int p0), .val (.int p1), .val (.int p2), .val (.ref ar1), .val (.int (0 : Int32)), .val (.int (0 : Int32)), .val (.ref ob52), .val (.int (1 : Int32)), .val (.int (-1 : Int32)), .val (.int (-1 : Int32)), .val (.int (-1 : Int32)), .val (.int (-1 : Int32)), .val (.int (-1 : Int32)), .val (.int (-1 : Int32))] [(.int (2 : Int32)), (.int (0 : Int32)), (.int (0 : Int32)), (.int p0), (.int (-1 : Int32))])) rfl (by rw [hml]; rfl) (argsL := [(.int p0), (.int (0 : Int32)), (.int (0 : Int32)), (.int (2 : Int32))]) (rest := [(.int (-1 : Int32))]) (lenOf pd3 rfl) rfl (by show 2 * 0 + _ ≤ _; exact Nat.le_of_eq rfl) (hb hby at_190) (fun _ _ => ⟨rfl, hh16, (by decide : 2 + 0 ≤ _), (by decide : 7 + 0 ≤ _)⟩)
    dsimp only [Pt.U, Pt.locs, Pt.cells, Pt.slots] at X17 l17 y17 z17 st17 hQ17
    subst l17 y17 z17
    obtain ⟨rfl, Nq17, hh17⟩ := hQ17
    have N17 := Fr.app N16 Nq17
    refine Goes.go (st17) ?_
    show Goes _ _ _ _ _ _ _ (T17.setTop (mkF m 193 _ [(.int (exF p0 (0 : Int32) (0 : Int32) (2 : Int32))), (.int (-1 : Int32))]))
    refine Goes.go (fun _ kk => XS.icmpNo X17.here hx rfl (hb hby at_193) rfl (XT.ii_ne_f (own_m (by decide))) kk) ?_
    show Goes _ _ _ _ _ _ _ (T17.setTop (mkF m 196 _ []))
    refine Goes.go (fun _ kk => XS.iconst X17.here hx rfl (hb hby at_196) kk) ?_
    show Goes _ _ _ _ _ _ _ (T17.setTop (mkF m 197 _ [(.int (1 : Int32))]))
    refine Goes.go (fun _ kk => XS.goto X17.here hx rfl (pc0 := 197) (pc' := 201) rfl (hb hby at_197) (by decide) (by decide) kk) ?_
    show Goes _ _ _ _ _ _ _ (T17.setTop (mkF m 201 _ [(.int (1 : Int32))]))
    refine Goes.go (fun _ kk => XS.istore X17.here hx rfl (hb hby at_201) rfl (l' := #[.val (.int p0), .val (.int p1), .val (.int p2), .val (.ref ar1), .val (.int (0 : Int32)), .val (.int (0 : Int32)), .val (.ref ob52), .val (.int (1 : Int32)), .val (.int (-1 : Int32)), .val (.int (-1 : Int32)), .val (.int (-1 : Int32)), .val (.int (-1 : Int32)), .val (.int (-1 : Int32)), .val (.int (-1 : Int32))]) rfl kk) ?_
    show Goes _ _ _ _ _ _ _ (T17.setTop (mkF m 203 _ []))
    refine Goes.go (fun _ kk => XS.iload X17.here hx rfl (hb hby at_203) rfl kk) ?_
    show Goes _ _ _ _ _ _ _ (T17.setTop (mkF m 205 _ [(.int (1 : Int32))]))
    refine Goes.go (fun _ kk => XS.ifNo X17.here hx rfl (hb hby at_205) rfl (XT.i0_eq_f (by decide)) kk) ?_
    show Goes _ _ _ _ _ _ _ (T17.setTop (mkF m 208 _ []))
    refine Goes.go (fun _ kk => XS.iload X17.here hx rfl (hb hby at_208) rfl kk) ?_
    show Goes _ _ _ _ _ _ _ (T17.setTop (mkF m 210 _ [(.int (-1 : Int32))]))
    refine Goes.go (fun _ kk => XS.iloadN X17.here hx rfl (hb hby at_210) rfl kk) ?_
    show Goes _ _ _ _ _ _ _ (T17.setTop (mkF m 211 _ [(.int p0), (.int (-1 : Int32))]))
    refine Goes.go (fun _ kk => XS.iload X17.here hx rfl (hb hby at_211) rfl kk) ?_
    show Goes _ _ _ _ _ _ _ (T17.setTop (mkF m 213 _ [(.int (0 : Int32)), (.int p0), (.int (-1 : Int32))]))
    refine Goes.go (fun _ kk => XS.iload X17.here hx rfl (hb hby at_213) rfl kk) ?_
    show Goes _ _ _ _ _ _ _ (T17.setTop (mkF m 215 _ [(.int (0 : Int32)), (.int (0 : Int32)), (.int p0), (.int (-1 : Int32))]))
    refine Goes.go (fun _ kk => XS.iconst X17.here hx rfl (hb hby at_215) kk) ?_
    show Goes _ _ _ _ _ _ _ (T17.setTop (mkF m 216 _ [(.int (3 : Int32)), (.int (0 : Int32)), (.int (0 : Int32)), (.int p0), (.int (-1 : Int32))]))
    obtain ⟨_, _, ⟨T18, L18, k18, n18⟩, -, X18, ⟨Lc18, hQ18, l18, y18, z18⟩, st18⟩ := Jvm.LawKit.callS X17 hx (y := (⟨"com/example/wide_schema/wideschema/io/BytesInputReadPinLaw", "exp", "(IIII)I"⟩ : MethodName)) hown (mvT hZ (hw _ (List.mem_of_getElem? (i := 32) rfl))) (mvT hZ (hw _ (List.mem_of_getElem? (i := 33) rfl))) (mvT hZ (hw _ (List.mem_of_getElem? (i := 34) rfl))) (mvT hZ (hw _ (List.mem_of_getElem? (i := 35) rfl))) (by decide) (backOf (W := 1) (rm5 l Z a0 hw [] p0 (0 : Int32) (0 : Int32) (3 : Int32) T7.heap n0 Z7) hZ (hw _ (List.mem_of_getElem? (i := 35) rfl)) (hw _ (List.mem_of_getElem? (i := 34) rfl)) (by decide) (by decide)) (g := (mkF m 216 #[.val (.int p0), .val (.int p1), .val (.int p2), .val (.ref ar1), .val (.int (0 : Int32)), .val (.int (0 : Int32)), .val (.ref ob52), .val (.int (1 : Int32)), .val (.int (-1 : Int32)), .val (.int (-1 : Int32)), .val (.int (-1 : Int32)), .val (.int (-1 : Int32)), .val (.int (-1 : Int32)), .val (.int (-1 : Int32))] [(.int (3 : Int32)), (.int (0 : Int32)), (.int (0 : Int32)), (.int p0), (.int (-1 : Int32))])) rfl (by rw [hml]; rfl) (argsL := [(.int p0), (.int (0 : Int32)), (.int (0 : Int32)), (.int (3 : Int32))]) (rest := [(.int (-1 : Int32))]) (lenOf pd3 rfl) rfl (by show 2 * 0 + _ ≤ _; exact Nat.le_of_eq rfl) (hb hby at_216) (fun _ _ => ⟨rfl, hh17, (by decide : 2 + 0 ≤ _), (by decide : 7 + 0 ≤ _)⟩)
    dsimp only [Pt.U, Pt.locs, Pt.cells, Pt.slots] at X18 l18 y18 z18 st18 hQ18
    subst l18 y18 z18
    obtain ⟨rfl, Nq18, hh18⟩ := hQ18
    have N18 := Fr.app N17 Nq18
    refine Goes.go (st18) ?_
    show Goes _ _ _ _ _ _ _ (T18.setTop (mkF m 219 _ [(.int (exF p0 (0 : Int32) (0 : Int32) (3 : Int32))), (.int (-1 : Int32))]))
    refine Goes.go (fun _ kk => XS.icmpNo X18.here hx rfl (hb hby at_219) rfl (XT.ii_ne_f (own_m (by decide))) kk) ?_
    show Goes _ _ _ _ _ _ _ (T18.setTop (mkF m 222 _ []))
    refine Goes.go (fun _ kk => XS.iconst X18.here hx rfl (hb hby at_222) kk) ?_
    show Goes _ _ _ _ _ _ _ (T18.setTop (mkF m 223 _ [(.int (1 : Int32))]))
    refine Goes.go (fun _ kk => XS.goto X18.here hx rfl (pc0 := 223) (pc' := 227) rfl (hb hby at_223) (by decide) (by decide) kk) ?_
    show Goes _ _ _ _ _ _ _ (T18.setTop (mkF m 227 _ [(.int (1 : Int32))]))
    refine Goes.go (fun _ kk => XS.istore X18.here hx rfl (hb hby at_227) rfl (l' := #[.val (.int p0), .val (.int p1), .val (.int p2), .val (.ref ar1), .val (.int (0 : Int32)), .val (.int (0 : Int32)), .val (.ref ob52), .val (.int (1 : Int32)), .val (.int (-1 : Int32)), .val (.int (-1 : Int32)), .val (.int (-1 : Int32)), .val (.int (-1 : Int32)), .val (.int (-1 : Int32)), .val (.int (-1 : Int32))]) rfl kk) ?_
    show Goes _ _ _ _ _ _ _ (T18.setTop (mkF m 229 _ []))
    refine Goes.go (fun _ kk => XS.iload X18.here hx rfl (hb hby at_229) rfl kk) ?_
    show Goes _ _ _ _ _ _ _ (T18.setTop (mkF m 231 _ [(.int (1 : Int32))]))
    refine Goes.go (fun _ kk => XS.ifNo X18.here hx rfl (hb hby at_231) rfl (XT.i0_eq_f (by decide)) kk) ?_
    show Goes _ _ _ _ _ _ _ (T18.setTop (mkF m 234 _ []))
    refine Goes.go (fun _ kk => XS.iload X18.here hx rfl (hb hby at_234) rfl kk) ?_
    show Goes _ _ _ _ _ _ _ (T18.setTop (mkF m 236 _ [(.int (-1 : Int32))]))
    refine Goes.go (fun _ kk => XS.iloadN X18.here hx rfl (hb hby at_236) rfl kk) ?_
    show Goes _ _ _ _ _ _ _ (T18.setTop (mkF m 237 _ [(.int p0), (.int (-1 : Int32))]))
    refine Goes.go (fun _ kk => XS.iload X18.here hx rfl (hb hby at_237) rfl kk) ?_
    show Goes _ _ _ _ _ _ _ (T18.setTop (mkF m 239 _ [(.int (0 : Int32)), (.int p0), (.int (-1 : Int32))]))
    refine Goes.go (fun _ kk => XS.iload X18.here hx rfl (hb hby at_239) rfl kk) ?_
    show Goes _ _ _ _ _ _ _ (T18.setTop (mkF m 241 _ [(.int (0 : Int32)), (.int (0 : Int32)), (.int p0), (.int (-1 : Int32))]))
    refine Goes.go (fun _ kk => XS.iconst X18.here hx rfl (hb hby at_241) kk) ?_
    show Goes _ _ _ _ _ _ _ (T18.setTop (mkF m 242 _ [(.int (4 : Int32)), (.int (0 : Int32)), (.int (0 : Int32)), (.int p0), (.int (-1 : Int32))]))
    obtain ⟨_, _, ⟨T19, L19, k19, n19⟩, -, X19, ⟨Lc19, hQ19, l19, y19, z19⟩, st19⟩ := Jvm.LawKit.callS X18 hx (y := (⟨"com/example/wide_schema/wideschema/io/BytesInputReadPinLaw", "exp", "(IIII)I"⟩ : MethodName)) hown (mvT hZ (hw _ (List.mem_of_getElem? (i := 32) rfl))) (mvT hZ (hw _ (List.mem_of_getElem? (i := 33) rfl))) (mvT hZ (hw _ (List.mem_of_getElem? (i := 34) rfl))) (mvT hZ (hw _ (List.mem_of_getElem? (i := 35) rfl))) (by decide) (backOf (W := 1) (rm5 l Z a0 hw [] p0 (0 : Int32) (0 : Int32) (4 : Int32) T7.heap n0 Z7) hZ (hw _ (List.mem_of_getElem? (i := 35) rfl)) (hw _ (List.mem_of_getElem? (i := 34) rfl)) (by decide) (by decide)) (g := (mkF m 242 #[.val (.int p0), .val (.int p1), .val (.int p2), .val (.ref ar1), .val (.int (0 : Int32)), .val (.int (0 : Int32)), .val (.ref ob52), .val (.int (1 : Int32)), .val (.int (-1 : Int32)), .val (.int (-1 : Int32)), .val (.int (-1 : Int32)), .val (.int (-1 : Int32)), .val (.int (-1 : Int32)), .val (.int (-1 : Int32))] [(.int (4 : Int32)), (.int (0 : Int32)), (.int (0 : Int32)), (.int p0), (.int (-1 : Int32))])) rfl (by rw [hml]; rfl) (argsL := [(.int p0), (.int (0 : Int32)), (.int (0 : Int32)), (.int (4 : Int32))]) (rest := [(.int (-1 : Int32))]) (lenOf pd3 rfl) rfl (by show 2 * 0 + _ ≤ _; exact Nat.le_of_eq rfl) (hb hby at_242) (fun _ _ => ⟨rfl, hh18, (by decide : 2 + 0 ≤ _), (by decide : 7 + 0 ≤ _)⟩)
    dsimp only [Pt.U, Pt.locs, Pt.cells, Pt.slots] at X19 l19 y19 z19 st19 hQ19
    subst l19 y19 z19
    obtain ⟨rfl, Nq19, hh19⟩ := hQ19
    have N19 := Fr.app N18 Nq19
    refine Goes.go (st19) ?_
    show Goes _ _ _ _ _ _ _ (T19.setTop (mkF m 245 _ [(.int (exF p0 (0 : Int32) (0 : Int32) (4 : Int32))), (.int (-1 : Int32))]))
    refine Goes.go (fun _ kk => XS.icmpNo X19.here hx rfl (hb hby at_245) rfl (XT.ii_ne_f (own_m (by decide))) kk) ?_
    show Goes _ _ _ _ _ _ _ (T19.setTop (mkF m 248 _ []))
    refine Goes.go (fun _ kk => XS.iconst X19.here hx rfl (hb hby at_248) kk) ?_
    show Goes _ _ _ _ _ _ _ (T19.setTop (mkF m 249 _ [(.int (1 : Int32))]))
    refine Goes.go (fun _ kk => XS.goto X19.here hx rfl (pc0 := 249) (pc' := 253) rfl (hb hby at_249) (by decide) (by decide) kk) ?_
    show Goes _ _ _ _ _ _ _ (T19.setTop (mkF m 253 _ [(.int (1 : Int32))]))
    refine Goes.go (fun _ kk => XS.istore X19.here hx rfl (hb hby at_253) rfl (l' := #[.val (.int p0), .val (.int p1), .val (.int p2), .val (.ref ar1), .val (.int (0 : Int32)), .val (.int (0 : Int32)), .val (.ref ob52), .val (.int (1 : Int32)), .val (.int (-1 : Int32)), .val (.int (-1 : Int32)), .val (.int (-1 : Int32)), .val (.int (-1 : Int32)), .val (.int (-1 : Int32)), .val (.int (-1 : Int32))]) rfl kk) ?_
    show Goes _ _ _ _ _ _ _ (T19.setTop (mkF m 255 _ []))
    refine Goes.go (fun _ kk => XS.iload X19.here hx rfl (hb hby at_255) rfl kk) ?_
    show Goes _ _ _ _ _ _ _ (T19.setTop (mkF m 257 _ [(.int (1 : Int32))]))
    refine Goes.go (fun _ kk => XS.ifNo X19.here hx rfl (hb hby at_257) rfl (XT.i0_eq_f (by decide)) kk) ?_
    show Goes _ _ _ _ _ _ _ (T19.setTop (mkF m 260 _ []))
    refine Goes.go (fun _ kk => XS.iload X19.here hx rfl (hb hby at_260) rfl kk) ?_
    show Goes _ _ _ _ _ _ _ (T19.setTop (mkF m 262 _ [(.int (-1 : Int32))]))
    refine Goes.go (fun _ kk => XS.iloadN X19.here hx rfl (hb hby at_262) rfl kk) ?_
    show Goes _ _ _ _ _ _ _ (T19.setTop (mkF m 263 _ [(.int p0), (.int (-1 : Int32))]))
    refine Goes.go (fun _ kk => XS.iload X19.here hx rfl (hb hby at_263) rfl kk) ?_
    show Goes _ _ _ _ _ _ _ (T19.setTop (mkF m 265 _ [(.int (0 : Int32)), (.int p0), (.int (-1 : Int32))]))
    refine Goes.go (fun _ kk => XS.iload X19.here hx rfl (hb hby at_265) rfl kk) ?_
    show Goes _ _ _ _ _ _ _ (T19.setTop (mkF m 267 _ [(.int (0 : Int32)), (.int (0 : Int32)), (.int p0), (.int (-1 : Int32))]))
    refine Goes.go (fun _ kk => XS.iconst X19.here hx rfl (hb hby at_267) kk) ?_
    show Goes _ _ _ _ _ _ _ (T19.setTop (mkF m 268 _ [(.int (5 : Int32)), (.int (0 : Int32)), (.int (0 : Int32)), (.int p0), (.int (-1 : Int32))]))
    obtain ⟨_, _, ⟨T20, L20, k20, n20⟩, -, X20, ⟨Lc20, hQ20, l20, y20, z20⟩, st20⟩ := Jvm.LawKit.callS X19 hx (y := (⟨"com/example/wide_schema/wideschema/io/BytesInputReadPinLaw", "exp", "(IIII)I"⟩ : MethodName)) hown (mvT hZ (hw _ (List.mem_of_getElem? (i := 32) rfl))) (mvT hZ (hw _ (List.mem_of_getElem? (i := 33) rfl))) (mvT hZ (hw _ (List.mem_of_getElem? (i := 34) rfl))) (mvT hZ (hw _ (List.mem_of_getElem? (i := 35) rfl))) (by decide) (backOf (W := 1) (rm5 l Z a0 hw [] p0 (0 : Int32) (0 : Int32) (5 : Int32) T7.heap n0 Z7) hZ (hw _ (List.mem_of_getElem? (i := 35) rfl)) (hw _ (List.mem_of_getElem? (i := 34) rfl)) (by decide) (by decide)) (g := (mkF m 268 #[.val (.int p0), .val (.int p1), .val (.int p2), .val (.ref ar1), .val (.int (0 : Int32)), .val (.int (0 : Int32)), .val (.ref ob52), .val (.int (1 : Int32)), .val (.int (-1 : Int32)), .val (.int (-1 : Int32)), .val (.int (-1 : Int32)), .val (.int (-1 : Int32)), .val (.int (-1 : Int32)), .val (.int (-1 : Int32))] [(.int (5 : Int32)), (.int (0 : Int32)), (.int (0 : Int32)), (.int p0), (.int (-1 : Int32))])) rfl (by rw [hml]; rfl) (argsL := [(.int p0), (.int (0 : Int32)), (.int (0 : Int32)), (.int (5 : Int32))]) (rest := [(.int (-1 : Int32))]) (lenOf pd3 rfl) rfl (by show 2 * 0 + _ ≤ _; exact Nat.le_of_eq rfl) (hb hby at_268) (fun _ _ => ⟨rfl, hh19, (by decide : 2 + 0 ≤ _), (by decide : 7 + 0 ≤ _)⟩)
    dsimp only [Pt.U, Pt.locs, Pt.cells, Pt.slots] at X20 l20 y20 z20 st20 hQ20
    subst l20 y20 z20
    obtain ⟨rfl, Nq20, hh20⟩ := hQ20
    have N20 := Fr.app N19 Nq20
    refine Goes.go (st20) ?_
    show Goes _ _ _ _ _ _ _ (T20.setTop (mkF m 271 _ [(.int (exF p0 (0 : Int32) (0 : Int32) (5 : Int32))), (.int (-1 : Int32))]))
    refine Goes.go (fun _ kk => XS.icmpNo X20.here hx rfl (hb hby at_271) rfl (XT.ii_ne_f (own_m (by decide))) kk) ?_
    show Goes _ _ _ _ _ _ _ (T20.setTop (mkF m 274 _ []))
    refine Goes.go (fun _ kk => XS.iconst X20.here hx rfl (hb hby at_274) kk) ?_
    show Goes _ _ _ _ _ _ _ (T20.setTop (mkF m 275 _ [(.int (1 : Int32))]))
    refine Goes.go (fun _ kk => XS.goto X20.here hx rfl (pc0 := 275) (pc' := 279) rfl (hb hby at_275) (by decide) (by decide) kk) ?_
    show Goes _ _ _ _ _ _ _ (T20.setTop (mkF m 279 _ [(.int (1 : Int32))]))
    refine Goes.go (fun _ kk => XS.istore X20.here hx rfl (hb hby at_279) rfl (l' := #[.val (.int p0), .val (.int p1), .val (.int p2), .val (.ref ar1), .val (.int (0 : Int32)), .val (.int (0 : Int32)), .val (.ref ob52), .val (.int (1 : Int32)), .val (.int (-1 : Int32)), .val (.int (-1 : Int32)), .val (.int (-1 : Int32)), .val (.int (-1 : Int32)), .val (.int (-1 : Int32)), .val (.int (-1 : Int32))]) rfl kk) ?_
    show Goes _ _ _ _ _ _ _ (T20.setTop (mkF m 281 _ []))
    refine Goes.go (fun _ kk => XS.iload X20.here hx rfl (hb hby at_281) rfl kk) ?_
    show Goes _ _ _ _ _ _ _ (T20.setTop (mkF m 283 _ [(.int (1 : Int32))]))
    refine Goes.go (fun _ kk => XS.ifNo X20.here hx rfl (hb hby at_283) rfl (XT.i0_eq_f (by decide)) kk) ?_
    show Goes _ _ _ _ _ _ _ (T20.setTop (mkF m 286 _ []))
    refine Goes.go (fun _ kk => XS.aload X20.here hx rfl (hb hby at_286) rfl rfl kk) ?_
    show Goes _ _ _ _ _ _ _ (T20.setTop (mkF m 288 _ [(.ref ob52)]))
    obtain ⟨cq21, kq21, qa21, qb21, qc21⟩ := isOf hZ hh20 Eq7
    obtain ⟨_, _, ⟨T21, L21, k21, n21⟩, -, X21, ⟨Lc21, hQ21, l21, y21, z21⟩, st21⟩ := X20.virtualBack hx (y := (⟨"com/example/wide_schema/wideschema/io/BytesInput", "available", "()I"⟩ : MethodName)) (z := (⟨"com/example/wide_schema/wideschema/io/BytesInput", "available", "()I"⟩ : MethodName)) hown (mvT hZ (hw _ (List.mem_of_getElem? (i := 22) rfl))) (mvT hZ (hw _ (List.mem_of_getElem? (i := 23) rfl))) (notFace_of_selects (args := #[]) (mvT hZ (hw _ (List.mem_of_getElem? (i := 25) rfl)))) (mvT hZ (hw _ (List.mem_of_getElem? (i := 25) rfl))) (mvT hZ (hw _ (List.mem_of_getElem? (i := 24) rfl))) (by decide) (backOf (W := 0) (rm3 l Z a0 hw [] ob52 (0 : Int32) (0 : Int32) T7.heap n0 Z7 Fq7_1 Fq7_2) hZ (hw _ (List.mem_of_getElem? (i := 26) rfl)) (hw _ (List.mem_of_getElem? (i := 4) rfl)) (by decide) (by decide)) qa21 qc21 (g := (mkF m 288 #[.val (.int p0), .val (.int p1), .val (.int p2), .val (.ref ar1), .val (.int (0 : Int32)), .val (.int (0 : Int32)), .val (.ref ob52), .val (.int (1 : Int32)), .val (.int (-1 : Int32)), .val (.int (-1 : Int32)), .val (.int (-1 : Int32)), .val (.int (-1 : Int32)), .val (.int (-1 : Int32)), .val (.int (-1 : Int32))] [(.ref ob52)])) rfl (by rw [hml]; rfl) (Steps.refl _) (argsL := []) (rest := []) (lenOf pd2 rfl) rfl (by show 2 * 0 + _ ≤ _; exact Nat.le_of_eq rfl) (hb hby at_288) (fun _ _ => ⟨rfl, hh20, (by decide : 2 + 0 ≤ _), (by decide : 7 + 0 ≤ _)⟩)
    dsimp only [Pt.U, Pt.locs, Pt.cells, Pt.slots] at X21 l21 y21 z21 st21 hQ21
    subst l21 y21 z21
    obtain ⟨rfl, Nq21, hh21⟩ := hQ21
    have N21 := Fr.app N20 Nq21
    refine Goes.go (fun _ kk => st21.trans kk) ?_
    show Goes _ _ _ _ _ _ _ (T21.setTop (mkF m 291 _ [(.int (0 : Int32))]))
    refine Goes.go (fun _ kk => XS.ifNo X21.here hx rfl (hb hby at_291) rfl (XT.i0_ne_f (by decide)) kk) ?_
    show Goes _ _ _ _ _ _ _ (T21.setTop (mkF m 294 _ []))
    refine Goes.go (fun _ kk => XS.iconst X21.here hx rfl (hb hby at_294) kk) ?_
    show Goes _ _ _ _ _ _ _ (T21.setTop (mkF m 295 _ [(.int (1 : Int32))]))
    refine Goes.go (fun _ kk => XS.goto X21.here hx rfl (pc0 := 295) (pc' := 299) rfl (hb hby at_295) (by decide) (by decide) kk) ?_
    show Goes _ _ _ _ _ _ _ (T21.setTop (mkF m 299 _ [(.int (1 : Int32))]))
    refine Goes.go (fun _ kk => XS.istore X21.here hx rfl (hb hby at_299) rfl (l' := #[.val (.int p0), .val (.int p1), .val (.int p2), .val (.ref ar1), .val (.int (0 : Int32)), .val (.int (0 : Int32)), .val (.ref ob52), .val (.int (1 : Int32)), .val (.int (-1 : Int32)), .val (.int (-1 : Int32)), .val (.int (-1 : Int32)), .val (.int (-1 : Int32)), .val (.int (-1 : Int32)), .val (.int (-1 : Int32))]) rfl kk) ?_
    show Goes _ _ _ _ _ _ _ (T21.setTop (mkF m 301 _ []))
    refine Goes.go (fun _ kk => XS.iload X21.here hx rfl (hb hby at_301) rfl kk) ?_
    show Goes _ _ _ _ _ _ _ (T21.setTop (mkF m 303 _ [(.int (1 : Int32))]))
    exact Goes.outZ X21 hx hlk hret rfl (hb hby at_303) hh21 ⟨rfl, N21⟩ (by decide) (by decide)
  · skip
    show Goes _ _ _ _ _ _ _ (T5.setTop (mkF m 52 #[.val (.int p0), .val (.int p1), .val (.int p2), .val (.ref ar1), .val (.int (0 : Int32)), .val (.int (1 : Int32)), .unset, .unset, .unset, .unset, .unset, .unset, .unset, .unset] []))
    obtain ⟨T6, h6, X6, e6, E6, A6, D6, -, st6⟩ := newO X5 hx hZ hown (hw _ (List.mem_of_getElem? (i := 2) rfl)) (hw _ (List.mem_of_getElem? (i := 3) rfl)) (hw _ (List.mem_of_getElem? (i := 4) rfl)) e5 (g := (mkF m 52 #[.val (.int p0), .val (.int p1), .val (.int p2), .val (.ref ar1), .val (.int (0 : Int32)), .val (.int (1 : Int32)), .unset, .unset, .unset, .unset, .unset, .unset, .unset, .unset] [])) rfl (hb hby at_52) (by decide) (by decide)
    obtain ⟨ob52, gob52⟩ : ∃ z, z = h5.size := ⟨_, rfl⟩
    rw [← gob52] at A6 D6 st6
    have ne_ar1_ob52 : ar1 ≠ ob52 := by rw [gob52]; exact Nat.ne_of_lt f_4.lt
    have f_5 := f_4.ext E6
    have Z6 : n0 ≤ h6.size := Nat.le_trans Z5 E6.1
    have ge_ob52 : n0 ≤ ob52 := Nat.le_trans Z5 (Nat.le_of_eq gob52.symm)
    have f_6 : Fld Z h6 ob52 "com/example/wide_schema/wideschema/io/BytesInput" "_bytes" "[B" .null := D6 (Or.inr (hw _ (List.mem_of_getElem? (i := 17) rfl))) (ty := (.array .byte)) (by decide)
    have f_7 : Fld Z h6 ob52 "com/example/wide_schema/wideschema/io/BytesInput" "_next" "I" (.int (0 : Int32)) := D6 (Or.inl (hw _ (List.mem_of_getElem? (i := 19) rfl))) (ty := .int) (by decide)
    have f_8 : Fld Z h6 ob52 "com/example/wide_schema/wideschema/io/BytesInput" "_end" "I" (.int (0 : Int32)) := D6 (Or.inr (hw _ (List.mem_of_getElem? (i := 21) rfl))) (ty := .int) (by decide)
    refine Goes.go (st6) ?_
    show Goes _ _ _ _ _ _ _ (T6.setTop (mkF m 55 _ [(.ref ob52)]))
    refine Goes.go (fun _ kk => XS.dup X6.here hx rfl (hb hby at_55) rfl rfl kk) ?_
    show Goes _ _ _ _ _ _ _ (T6.setTop (mkF m 56 _ [(.ref ob52), (.ref ob52)]))
    refine Goes.go (fun _ kk => XS.aloadN X6.here hx rfl (hb hby at_56) rfl rfl kk) ?_
    show Goes _ _ _ _ _ _ _ (T6.setTop (mkF m 57 _ [(.ref ar1), (.ref ob52), (.ref ob52)]))
    refine Goes.go (fun _ kk => XS.iload X6.here hx rfl (hb hby at_57) rfl kk) ?_
    show Goes _ _ _ _ _ _ _ (T6.setTop (mkF m 59 _ [(.int (0 : Int32)), (.ref ar1), (.ref ob52), (.ref ob52)]))
    refine Goes.go (fun _ kk => XS.iload X6.here hx rfl (hb hby at_59) rfl kk) ?_
    show Goes _ _ _ _ _ _ _ (T6.setTop (mkF m 61 _ [(.int (1 : Int32)), (.int (0 : Int32)), (.ref ar1), (.ref ob52), (.ref ob52)]))
    obtain ⟨_, _, ⟨T7, L7, k7, n7⟩, -, X7, ⟨Lc7, hQ7, l7, y7, z7⟩, st7⟩ := X6.specialBack hx (y := (⟨"com/example/wide_schema/wideschema/io/BytesInput", "<init>", "([BII)V"⟩ : MethodName)) rfl hown (mvT hZ (hw _ (List.mem_of_getElem? (i := 5) rfl))) (mvT hZ (hw _ (List.mem_of_getElem? (i := 6) rfl))) (mvT hZ (hw _ (List.mem_of_getElem? (i := 7) rfl))) (by decide) (backOf (W := 1) (rm1 l Z a0 hw [] ob52 ar1 (0 : Int32) (1 : Int32) h6 n0 Z6 A6 f_6 f_7 f_8 ge_ob52) hZ (hw _ (List.mem_of_getElem? (i := 7) rfl)) (hw _ (List.mem_of_getElem? (i := 4) rfl)) (by decide) (by decide)) (g := (mkF m 61 #[.val (.int p0), .val (.int p1), .val (.int p2), .val (.ref ar1), .val (.int (0 : Int32)), .val (.int (1 : Int32)), .unset, .unset, .unset, .unset, .unset, .unset, .unset, .unset] [(.int (1 : Int32)), (.int (0 : Int32)), (.ref ar1), (.ref ob52), (.ref ob52)])) rfl (by rw [hml]; rfl) (Steps.refl _) (a := ob52) (argsL := [(.ref ar1), (.int (0 : Int32)), (.int (1 : Int32))]) (rest := [(.ref ob52)]) (lenOf pd0 rfl) rfl (by show 2 * 0 + _ ≤ _; exact Nat.le_of_eq rfl) (hb hby at_61) (fun _ _ => ⟨rfl, e6, (by decide : 2 + 0 ≤ _), (by decide : 7 + 0 ≤ _)⟩)
    dsimp only [Pt.U, Pt.locs, Pt.cells, Pt.slots] at X7 l7 y7 z7 st7 hQ7
    subst l7 y7 z7
    obtain ⟨rfl, Nq7, Kq7, Eq7, Fq7_0, Fq7_1, Fq7_2⟩ := hQ7
    have N7 := Fr.app N5 Nq7
    have Z7 : n0 ≤ T7.heap.size := Nat.le_trans Z6 Kq7.1
    have f_9 := Arl.keep f_5 Kq7 (ninS ne_ar1_ob52 nin0)
    refine Goes.go (fun _ kk => st7.trans kk) ?_
    show Goes _ _ _ _ _ _ _ (T7.setTop (mkF m 64 _ [(.ref ob52)]))
    refine Goes.go (fun _ kk => XS.astore X7.here hx rfl (hb hby at_64) rfl rfl (l' := #[.val (.int p0), .val (.int p1), .val (.int p2), .val (.ref ar1), .val (.int (0 : Int32)), .val (.int (1 : Int32)), .val (.ref ob52), .unset, .unset, .unset, .unset, .unset, .unset, .unset]) rfl kk) ?_
    show Goes _ _ _ _ _ _ _ (T7.setTop (mkF m 66 #[.val (.int p0), .val (.int p1), .val (.int p2), .val (.ref ar1), .val (.int (0 : Int32)), .val (.int (1 : Int32)), .val (.ref ob52), .unset, .unset, .unset, .unset, .unset, .unset, .unset] []))
    refine Goes.go (fun _ kk => XS.aload X7.here hx rfl (hb hby at_66) rfl rfl kk) ?_
    show Goes _ _ _ _ _ _ _ (T7.setTop (mkF m 68 _ [(.ref ob52)]))
    obtain ⟨cq8, kq8, qa8, qb8, qc8⟩ := isOf hZ rfl Eq7
    obtain ⟨_, _, ⟨T8, L8, k8, n8⟩, -, X8, ⟨Lc8, hQ8, l8, y8, z8⟩, st8⟩ := X7.virtualBack hx (y := (⟨"com/example/wide_schema/wideschema/io/BytesInput", "available", "()I"⟩ : MethodName)) (z := (⟨"com/example/wide_schema/wideschema/io/BytesInput", "available", "()I"⟩ : MethodName)) hown (mvT hZ (hw _ (List.mem_of_getElem? (i := 22) rfl))) (mvT hZ (hw _ (List.mem_of_getElem? (i := 23) rfl))) (notFace_of_selects (args := #[]) (mvT hZ (hw _ (List.mem_of_getElem? (i := 25) rfl)))) (mvT hZ (hw _ (List.mem_of_getElem? (i := 25) rfl))) (mvT hZ (hw _ (List.mem_of_getElem? (i := 24) rfl))) (by decide) (backOf (W := 0) (rm3 l Z a0 hw [] ob52 (0 : Int32) (1 : Int32) T7.heap n0 Z7 Fq7_1 Fq7_2) hZ (hw _ (List.mem_of_getElem? (i := 26) rfl)) (hw _ (List.mem_of_getElem? (i := 4) rfl)) (by decide) (by decide)) qa8 qc8 (g := (mkF m 68 #[.val (.int p0), .val (.int p1), .val (.int p2), .val (.ref ar1), .val (.int (0 : Int32)), .val (.int (1 : Int32)), .val (.ref ob52), .unset, .unset, .unset, .unset, .unset, .unset, .unset] [(.ref ob52)])) rfl (by rw [hml]; rfl) (Steps.refl _) (argsL := []) (rest := []) (lenOf pd2 rfl) rfl (by show 2 * 0 + _ ≤ _; exact Nat.le_of_eq rfl) (hb hby at_68) (fun _ _ => ⟨rfl, rfl, (by decide : 2 + 0 ≤ _), (by decide : 7 + 0 ≤ _)⟩)
    dsimp only [Pt.U, Pt.locs, Pt.cells, Pt.slots] at X8 l8 y8 z8 st8 hQ8
    subst l8 y8 z8
    obtain ⟨rfl, Nq8, hh8⟩ := hQ8
    have N8 := Fr.app N7 Nq8
    refine Goes.go (fun _ kk => st8.trans kk) ?_
    show Goes _ _ _ _ _ _ _ (T8.setTop (mkF m 71 _ [(.int (1 : Int32))]))
    refine Goes.go (fun _ kk => XS.iload X8.here hx rfl (hb hby at_71) rfl kk) ?_
    show Goes _ _ _ _ _ _ _ (T8.setTop (mkF m 73 _ [(.int (1 : Int32)), (.int (1 : Int32))]))
    refine Goes.go (fun _ kk => XS.icmpNo X8.here hx rfl (hb hby at_73) rfl (XT.ii_ne_f (by decide)) kk) ?_
    show Goes _ _ _ _ _ _ _ (T8.setTop (mkF m 76 _ []))
    refine Goes.go (fun _ kk => XS.iconst X8.here hx rfl (hb hby at_76) kk) ?_
    show Goes _ _ _ _ _ _ _ (T8.setTop (mkF m 77 _ [(.int (1 : Int32))]))
    refine Goes.go (fun _ kk => XS.goto X8.here hx rfl (pc0 := 77) (pc' := 81) rfl (hb hby at_77) (by decide) (by decide) kk) ?_
    show Goes _ _ _ _ _ _ _ (T8.setTop (mkF m 81 _ [(.int (1 : Int32))]))
    refine Goes.go (fun _ kk => XS.istore X8.here hx rfl (hb hby at_81) rfl (l' := #[.val (.int p0), .val (.int p1), .val (.int p2), .val (.ref ar1), .val (.int (0 : Int32)), .val (.int (1 : Int32)), .val (.ref ob52), .val (.int (1 : Int32)), .unset, .unset, .unset, .unset, .unset, .unset]) rfl kk) ?_
    show Goes _ _ _ _ _ _ _ (T8.setTop (mkF m 83 #[.val (.int p0), .val (.int p1), .val (.int p2), .val (.ref ar1), .val (.int (0 : Int32)), .val (.int (1 : Int32)), .val (.ref ob52), .val (.int (1 : Int32)), .unset, .unset, .unset, .unset, .unset, .unset] []))
    refine Goes.go (fun _ kk => XS.aload X8.here hx rfl (hb hby at_83) rfl rfl kk) ?_
    show Goes _ _ _ _ _ _ _ (T8.setTop (mkF m 85 _ [(.ref ob52)]))
    obtain ⟨cq9, kq9, qa9, qb9, qc9⟩ := isOf hZ hh8 Eq7
    obtain ⟨_, _, ⟨T9, L9, k9, n9⟩, -, X9, ⟨Lc9, hQ9, l9, y9, z9⟩, st9⟩ := X8.virtualBack hx (y := (⟨"com/example/wide_schema/wideschema/io/BytesInput", "read", "()I"⟩ : MethodName)) (z := (⟨"com/example/wide_schema/wideschema/io/BytesInput", "read", "()I"⟩ : MethodName)) hown (mvT hZ (hw _ (List.mem_of_getElem? (i := 27) rfl))) (mvT hZ (hw _ (List.mem_of_getElem? (i := 28) rfl))) (notFace_of_selects (args := #[]) (mvT hZ (hw _ (List.mem_of_getElem? (i := 30) rfl)))) (mvT hZ (hw _ (List.mem_of_getElem? (i := 30) rfl))) (mvT hZ (hw _ (List.mem_of_getElem? (i := 29) rfl))) (by decide) (backOf (W := 0) (rmY l Z a0 hw [] ob52 ar1 _ (0 : Int32) (1 : Int32) (p0).toInt8.toInt32 T7.heap n0 Z7 Eq7 Fq7_0 Fq7_1 Fq7_2 ge_ob52 f_9 (by decide) (by decide) rfl) hZ (hw _ (List.mem_of_getElem? (i := 31) rfl)) (hw _ (List.mem_of_getElem? (i := 4) rfl)) (by decide) (by decide)) qa9 qc9 (g := (mkF m 85 #[.val (.int p0), .val (.int p1), .val (.int p2), .val (.ref ar1), .val (.int (0 : Int32)), .val (.int (1 : Int32)), .val (.ref ob52), .val (.int (1 : Int32)), .unset, .unset, .unset, .unset, .unset, .unset] [(.ref ob52)])) rfl (by rw [hml]; rfl) (Steps.refl _) (argsL := []) (rest := []) (lenOf pd2 rfl) rfl (by show 2 * 0 + _ ≤ _; exact Nat.le_of_eq rfl) (hb hby at_85) (fun _ _ => ⟨rfl, hh8, (by decide : 2 + 0 ≤ _), (by decide : 7 + 0 ≤ _)⟩)
    dsimp only [Pt.U, Pt.locs, Pt.cells, Pt.slots] at X9 l9 y9 z9 st9 hQ9
    subst l9 y9 z9
    obtain ⟨rfl, Nq9, Kq9, Eq9, Fq9_0, Fq9_1, Fq9_2⟩ := hQ9
    have N9 := Fr.app N8 Nq9
    have Z9 : n0 ≤ T9.heap.size := Nat.le_trans Z7 Kq9.1
    have f_10 := Arl.keep f_9 Kq9 (ninS ne_ar1_ob52 nin0)
    refine Goes.go (fun _ kk => st9.trans kk) ?_
    show Goes _ _ _ _ _ _ _ (T9.setTop (mkF m 88 _ [(.int ((p0).toInt8.toInt32 &&& (255 : Int32)))]))
    refine Goes.go (fun _ kk => XS.istore X9.here hx rfl (hb hby at_88) rfl (l' := #[.val (.int p0), .val (.int p1), .val (.int p2), .val (.ref ar1), .val (.int (0 : Int32)), .val (.int (1 : Int32)), .val (.ref ob52), .val (.int (1 : Int32)), .val (.int ((p0).toInt8.toInt32 &&& (255 : Int32))), .unset, .unset, .unset, .unset, .unset]) rfl kk) ?_
    show Goes _ _ _ _ _ _ _ (T9.setTop (mkF m 90 #[.val (.int p0), .val (.int p1), .val (.int p2), .val (.ref ar1), .val (.int (0 : Int32)), .val (.int (1 : Int32)), .val (.ref ob52), .val (.int (1 : Int32)), .val (.int ((p0).toInt8.toInt32 &&& (255 : Int32))), .unset, .unset, .unset, .unset, .unset] []))
    refine Goes.go (fun _ kk => XS.aload X9.here hx rfl (hb hby at_90) rfl rfl kk) ?_
    show Goes _ _ _ _ _ _ _ (T9.setTop (mkF m 92 _ [(.ref ob52)]))
    obtain ⟨cq10, kq10, qa10, qb10, qc10⟩ := isOf hZ rfl Eq9
    obtain ⟨_, _, ⟨T10, L10, k10, n10⟩, -, X10, ⟨Lc10, hQ10, l10, y10, z10⟩, st10⟩ := X9.virtualBack hx (y := (⟨"com/example/wide_schema/wideschema/io/BytesInput", "read", "()I"⟩ : MethodName)) (z := (⟨"com/example/wide_schema/wideschema/io/BytesInput", "read", "()I"⟩ : MethodName)) hown (mvT hZ (hw _ (List.mem_of_getElem? (i := 27) rfl))) (mvT hZ (hw _ (List.mem_of_getElem? (i := 28) rfl))) (notFace_of_selects (args := #[]) (mvT hZ (hw _ (List.mem_of_getElem? (i := 30) rfl)))) (mvT hZ (hw _ (List.mem_of_getElem? (i := 30) rfl))) (mvT hZ (hw _ (List.mem_of_getElem? (i := 29) rfl))) (by decide) (backOf (W := 0) (rmN l Z a0 hw [] ob52 (1 : Int32) (1 : Int32) T9.heap n0 Z9 Fq9_1 Fq9_2 (by decide)) hZ (hw _ (List.mem_of_getElem? (i := 31) rfl)) (hw _ (List.mem_of_getElem? (i := 4) rfl)) (by decide) (by decide)) qa10 qc10 (g := (mkF m 92 #[.val (.int p0), .val (.int p1), .val (.int p2), .val (.ref ar1), .val (.int (0 : Int32)), .val (.int (1 : Int32)), .val (.ref ob52), .val (.int (1 : Int32)), .val (.int ((p0).toInt8.toInt32 &&& (255 : Int32))), .unset, .unset, .unset, .unset, .unset] [(.ref ob52)])) rfl (by rw [hml]; rfl) (Steps.refl _) (argsL := []) (rest := []) (lenOf pd2 rfl) rfl (by show 2 * 0 + _ ≤ _; exact Nat.le_of_eq rfl) (hb hby at_92) (fun _ _ => ⟨rfl, rfl, (by decide : 2 + 0 ≤ _), (by decide : 7 + 0 ≤ _)⟩)
    dsimp only [Pt.U, Pt.locs, Pt.cells, Pt.slots] at X10 l10 y10 z10 st10 hQ10
    subst l10 y10 z10
    obtain ⟨rfl, Nq10, hh10⟩ := hQ10
    have N10 := Fr.app N9 Nq10
    refine Goes.go (fun _ kk => st10.trans kk) ?_
    show Goes _ _ _ _ _ _ _ (T10.setTop (mkF m 95 _ [(.int (-1 : Int32))]))
    refine Goes.go (fun _ kk => XS.istore X10.here hx rfl (hb hby at_95) rfl (l' := #[.val (.int p0), .val (.int p1), .val (.int p2), .val (.ref ar1), .val (.int (0 : Int32)), .val (.int (1 : Int32)), .val (.ref ob52), .val (.int (1 : Int32)), .val (.int ((p0).toInt8.toInt32 &&& (255 : Int32))), .val (.int (-1 : Int32)), .unset, .unset, .unset, .unset]) rfl kk) ?_
    show Goes _ _ _ _ _ _ _ (T10.setTop (mkF m 97 #[.val (.int p0), .val (.int p1), .val (.int p2), .val (.ref ar1), .val (.int (0 : Int32)), .val (.int (1 : Int32)), .val (.ref ob52), .val (.int (1 : Int32)), .val (.int ((p0).toInt8.toInt32 &&& (255 : Int32))), .val (.int (-1 : Int32)), .unset, .unset, .unset, .unset] []))
    refine Goes.go (fun _ kk => XS.aload X10.here hx rfl (hb hby at_97) rfl rfl kk) ?_
    show Goes _ _ _ _ _ _ _ (T10.setTop (mkF m 99 _ [(.ref ob52)]))
    obtain ⟨cq11, kq11, qa11, qb11, qc11⟩ := isOf hZ hh10 Eq9
    obtain ⟨_, _, ⟨T11, L11, k11, n11⟩, -, X11, ⟨Lc11, hQ11, l11, y11, z11⟩, st11⟩ := X10.virtualBack hx (y := (⟨"com/example/wide_schema/wideschema/io/BytesInput", "read", "()I"⟩ : MethodName)) (z := (⟨"com/example/wide_schema/wideschema/io/BytesInput", "read", "()I"⟩ : MethodName)) hown (mvT hZ (hw _ (List.mem_of_getElem? (i := 27) rfl))) (mvT hZ (hw _ (List.mem_of_getElem? (i := 28) rfl))) (notFace_of_selects (args := #[]) (mvT hZ (hw _ (List.mem_of_getElem? (i := 30) rfl)))) (mvT hZ (hw _ (List.mem_of_getElem? (i := 30) rfl))) (mvT hZ (hw _ (List.mem_of_getElem? (i := 29) rfl))) (by decide) (backOf (W := 0) (rmN l Z a0 hw [] ob52 (1 : Int32) (1 : Int32) T9.heap n0 Z9 Fq9_1 Fq9_2 (by decide)) hZ (hw _ (List.mem_of_getElem? (i := 31) rfl)) (hw _ (List.mem_of_getElem? (i := 4) rfl)) (by decide) (by decide)) qa11 qc11 (g := (mkF m 99 #[.val (.int p0), .val (.int p1), .val (.int p2), .val (.ref ar1), .val (.int (0 : Int32)), .val (.int (1 : Int32)), .val (.ref ob52), .val (.int (1 : Int32)), .val (.int ((p0).toInt8.toInt32 &&& (255 : Int32))), .val (.int (-1 : Int32)), .unset, .unset, .unset, .unset] [(.ref ob52)])) rfl (by rw [hml]; rfl) (Steps.refl _) (argsL := []) (rest := []) (lenOf pd2 rfl) rfl (by show 2 * 0 + _ ≤ _; exact Nat.le_of_eq rfl) (hb hby at_99) (fun _ _ => ⟨rfl, hh10, (by decide : 2 + 0 ≤ _), (by decide : 7 + 0 ≤ _)⟩)
    dsimp only [Pt.U, Pt.locs, Pt.cells, Pt.slots] at X11 l11 y11 z11 st11 hQ11
    subst l11 y11 z11
    obtain ⟨rfl, Nq11, hh11⟩ := hQ11
    have N11 := Fr.app N10 Nq11
    refine Goes.go (fun _ kk => st11.trans kk) ?_
    show Goes _ _ _ _ _ _ _ (T11.setTop (mkF m 102 _ [(.int (-1 : Int32))]))
    refine Goes.go (fun _ kk => XS.istore X11.here hx rfl (hb hby at_102) rfl (l' := #[.val (.int p0), .val (.int p1), .val (.int p2), .val (.ref ar1), .val (.int (0 : Int32)), .val (.int (1 : Int32)), .val (.ref ob52), .val (.int (1 : Int32)), .val (.int ((p0).toInt8.toInt32 &&& (255 : Int32))), .val (.int (-1 : Int32)), .val (.int (-1 : Int32)), .unset, .unset, .unset]) rfl kk) ?_
    show Goes _ _ _ _ _ _ _ (T11.setTop (mkF m 104 #[.val (.int p0), .val (.int p1), .val (.int p2), .val (.ref ar1), .val (.int (0 : Int32)), .val (.int (1 : Int32)), .val (.ref ob52), .val (.int (1 : Int32)), .val (.int ((p0).toInt8.toInt32 &&& (255 : Int32))), .val (.int (-1 : Int32)), .val (.int (-1 : Int32)), .unset, .unset, .unset] []))
    refine Goes.go (fun _ kk => XS.aload X11.here hx rfl (hb hby at_104) rfl rfl kk) ?_
    show Goes _ _ _ _ _ _ _ (T11.setTop (mkF m 106 _ [(.ref ob52)]))
    obtain ⟨cq12, kq12, qa12, qb12, qc12⟩ := isOf hZ hh11 Eq9
    obtain ⟨_, _, ⟨T12, L12, k12, n12⟩, -, X12, ⟨Lc12, hQ12, l12, y12, z12⟩, st12⟩ := X11.virtualBack hx (y := (⟨"com/example/wide_schema/wideschema/io/BytesInput", "read", "()I"⟩ : MethodName)) (z := (⟨"com/example/wide_schema/wideschema/io/BytesInput", "read", "()I"⟩ : MethodName)) hown (mvT hZ (hw _ (List.mem_of_getElem? (i := 27) rfl))) (mvT hZ (hw _ (List.mem_of_getElem? (i := 28) rfl))) (notFace_of_selects (args := #[]) (mvT hZ (hw _ (List.mem_of_getElem? (i := 30) rfl)))) (mvT hZ (hw _ (List.mem_of_getElem? (i := 30) rfl))) (mvT hZ (hw _ (List.mem_of_getElem? (i := 29) rfl))) (by decide) (backOf (W := 0) (rmN l Z a0 hw [] ob52 (1 : Int32) (1 : Int32) T9.heap n0 Z9 Fq9_1 Fq9_2 (by decide)) hZ (hw _ (List.mem_of_getElem? (i := 31) rfl)) (hw _ (List.mem_of_getElem? (i := 4) rfl)) (by decide) (by decide)) qa12 qc12 (g := (mkF m 106 #[.val (.int p0), .val (.int p1), .val (.int p2), .val (.ref ar1), .val (.int (0 : Int32)), .val (.int (1 : Int32)), .val (.ref ob52), .val (.int (1 : Int32)), .val (.int ((p0).toInt8.toInt32 &&& (255 : Int32))), .val (.int (-1 : Int32)), .val (.int (-1 : Int32)), .unset, .unset, .unset] [(.ref ob52)])) rfl (by rw [hml]; rfl) (Steps.refl _) (argsL := []) (rest := []) (lenOf pd2 rfl) rfl (by show 2 * 0 + _ ≤ _; exact Nat.le_of_eq rfl) (hb hby at_106) (fun _ _ => ⟨rfl, hh11, (by decide : 2 + 0 ≤ _), (by decide : 7 + 0 ≤ _)⟩)
    dsimp only [Pt.U, Pt.locs, Pt.cells, Pt.slots] at X12 l12 y12 z12 st12 hQ12
    subst l12 y12 z12
    obtain ⟨rfl, Nq12, hh12⟩ := hQ12
    have N12 := Fr.app N11 Nq12
    refine Goes.go (fun _ kk => st12.trans kk) ?_
    show Goes _ _ _ _ _ _ _ (T12.setTop (mkF m 109 _ [(.int (-1 : Int32))]))
    refine Goes.go (fun _ kk => XS.istore X12.here hx rfl (hb hby at_109) rfl (l' := #[.val (.int p0), .val (.int p1), .val (.int p2), .val (.ref ar1), .val (.int (0 : Int32)), .val (.int (1 : Int32)), .val (.ref ob52), .val (.int (1 : Int32)), .val (.int ((p0).toInt8.toInt32 &&& (255 : Int32))), .val (.int (-1 : Int32)), .val (.int (-1 : Int32)), .val (.int (-1 : Int32)), .unset, .unset]) rfl kk) ?_
    show Goes _ _ _ _ _ _ _ (T12.setTop (mkF m 111 #[.val (.int p0), .val (.int p1), .val (.int p2), .val (.ref ar1), .val (.int (0 : Int32)), .val (.int (1 : Int32)), .val (.ref ob52), .val (.int (1 : Int32)), .val (.int ((p0).toInt8.toInt32 &&& (255 : Int32))), .val (.int (-1 : Int32)), .val (.int (-1 : Int32)), .val (.int (-1 : Int32)), .unset, .unset] []))
    refine Goes.go (fun _ kk => XS.aload X12.here hx rfl (hb hby at_111) rfl rfl kk) ?_
    show Goes _ _ _ _ _ _ _ (T12.setTop (mkF m 113 _ [(.ref ob52)]))
    obtain ⟨cq13, kq13, qa13, qb13, qc13⟩ := isOf hZ hh12 Eq9
    obtain ⟨_, _, ⟨T13, L13, k13, n13⟩, -, X13, ⟨Lc13, hQ13, l13, y13, z13⟩, st13⟩ := X12.virtualBack hx (y := (⟨"com/example/wide_schema/wideschema/io/BytesInput", "read", "()I"⟩ : MethodName)) (z := (⟨"com/example/wide_schema/wideschema/io/BytesInput", "read", "()I"⟩ : MethodName)) hown (mvT hZ (hw _ (List.mem_of_getElem? (i := 27) rfl))) (mvT hZ (hw _ (List.mem_of_getElem? (i := 28) rfl))) (notFace_of_selects (args := #[]) (mvT hZ (hw _ (List.mem_of_getElem? (i := 30) rfl)))) (mvT hZ (hw _ (List.mem_of_getElem? (i := 30) rfl))) (mvT hZ (hw _ (List.mem_of_getElem? (i := 29) rfl))) (by decide) (backOf (W := 0) (rmN l Z a0 hw [] ob52 (1 : Int32) (1 : Int32) T9.heap n0 Z9 Fq9_1 Fq9_2 (by decide)) hZ (hw _ (List.mem_of_getElem? (i := 31) rfl)) (hw _ (List.mem_of_getElem? (i := 4) rfl)) (by decide) (by decide)) qa13 qc13 (g := (mkF m 113 #[.val (.int p0), .val (.int p1), .val (.int p2), .val (.ref ar1), .val (.int (0 : Int32)), .val (.int (1 : Int32)), .val (.ref ob52), .val (.int (1 : Int32)), .val (.int ((p0).toInt8.toInt32 &&& (255 : Int32))), .val (.int (-1 : Int32)), .val (.int (-1 : Int32)), .val (.int (-1 : Int32)), .unset, .unset] [(.ref ob52)])) rfl (by rw [hml]; rfl) (Steps.refl _) (argsL := []) (rest := []) (lenOf pd2 rfl) rfl (by show 2 * 0 + _ ≤ _; exact Nat.le_of_eq rfl) (hb hby at_113) (fun _ _ => ⟨rfl, hh12, (by decide : 2 + 0 ≤ _), (by decide : 7 + 0 ≤ _)⟩)
    dsimp only [Pt.U, Pt.locs, Pt.cells, Pt.slots] at X13 l13 y13 z13 st13 hQ13
    subst l13 y13 z13
    obtain ⟨rfl, Nq13, hh13⟩ := hQ13
    have N13 := Fr.app N12 Nq13
    refine Goes.go (fun _ kk => st13.trans kk) ?_
    show Goes _ _ _ _ _ _ _ (T13.setTop (mkF m 116 _ [(.int (-1 : Int32))]))
    refine Goes.go (fun _ kk => XS.istore X13.here hx rfl (hb hby at_116) rfl (l' := #[.val (.int p0), .val (.int p1), .val (.int p2), .val (.ref ar1), .val (.int (0 : Int32)), .val (.int (1 : Int32)), .val (.ref ob52), .val (.int (1 : Int32)), .val (.int ((p0).toInt8.toInt32 &&& (255 : Int32))), .val (.int (-1 : Int32)), .val (.int (-1 : Int32)), .val (.int (-1 : Int32)), .val (.int (-1 : Int32)), .unset]) rfl kk) ?_
    show Goes _ _ _ _ _ _ _ (T13.setTop (mkF m 118 #[.val (.int p0), .val (.int p1), .val (.int p2), .val (.ref ar1), .val (.int (0 : Int32)), .val (.int (1 : Int32)), .val (.ref ob52), .val (.int (1 : Int32)), .val (.int ((p0).toInt8.toInt32 &&& (255 : Int32))), .val (.int (-1 : Int32)), .val (.int (-1 : Int32)), .val (.int (-1 : Int32)), .val (.int (-1 : Int32)), .unset] []))
    refine Goes.go (fun _ kk => XS.aload X13.here hx rfl (hb hby at_118) rfl rfl kk) ?_
    show Goes _ _ _ _ _ _ _ (T13.setTop (mkF m 120 _ [(.ref ob52)]))
    obtain ⟨cq14, kq14, qa14, qb14, qc14⟩ := isOf hZ hh13 Eq9
    obtain ⟨_, _, ⟨T14, L14, k14, n14⟩, -, X14, ⟨Lc14, hQ14, l14, y14, z14⟩, st14⟩ := X13.virtualBack hx (y := (⟨"com/example/wide_schema/wideschema/io/BytesInput", "read", "()I"⟩ : MethodName)) (z := (⟨"com/example/wide_schema/wideschema/io/BytesInput", "read", "()I"⟩ : MethodName)) hown (mvT hZ (hw _ (List.mem_of_getElem? (i := 27) rfl))) (mvT hZ (hw _ (List.mem_of_getElem? (i := 28) rfl))) (notFace_of_selects (args := #[]) (mvT hZ (hw _ (List.mem_of_getElem? (i := 30) rfl)))) (mvT hZ (hw _ (List.mem_of_getElem? (i := 30) rfl))) (mvT hZ (hw _ (List.mem_of_getElem? (i := 29) rfl))) (by decide) (backOf (W := 0) (rmN l Z a0 hw [] ob52 (1 : Int32) (1 : Int32) T9.heap n0 Z9 Fq9_1 Fq9_2 (by decide)) hZ (hw _ (List.mem_of_getElem? (i := 31) rfl)) (hw _ (List.mem_of_getElem? (i := 4) rfl)) (by decide) (by decide)) qa14 qc14 (g := (mkF m 120 #[.val (.int p0), .val (.int p1), .val (.int p2), .val (.ref ar1), .val (.int (0 : Int32)), .val (.int (1 : Int32)), .val (.ref ob52), .val (.int (1 : Int32)), .val (.int ((p0).toInt8.toInt32 &&& (255 : Int32))), .val (.int (-1 : Int32)), .val (.int (-1 : Int32)), .val (.int (-1 : Int32)), .val (.int (-1 : Int32)), .unset] [(.ref ob52)])) rfl (by rw [hml]; rfl) (Steps.refl _) (argsL := []) (rest := []) (lenOf pd2 rfl) rfl (by show 2 * 0 + _ ≤ _; exact Nat.le_of_eq rfl) (hb hby at_120) (fun _ _ => ⟨rfl, hh13, (by decide : 2 + 0 ≤ _), (by decide : 7 + 0 ≤ _)⟩)
    dsimp only [Pt.U, Pt.locs, Pt.cells, Pt.slots] at X14 l14 y14 z14 st14 hQ14
    subst l14 y14 z14
    obtain ⟨rfl, Nq14, hh14⟩ := hQ14
    have N14 := Fr.app N13 Nq14
    refine Goes.go (fun _ kk => st14.trans kk) ?_
    show Goes _ _ _ _ _ _ _ (T14.setTop (mkF m 123 _ [(.int (-1 : Int32))]))
    refine Goes.go (fun _ kk => XS.istore X14.here hx rfl (hb hby at_123) rfl (l' := #[.val (.int p0), .val (.int p1), .val (.int p2), .val (.ref ar1), .val (.int (0 : Int32)), .val (.int (1 : Int32)), .val (.ref ob52), .val (.int (1 : Int32)), .val (.int ((p0).toInt8.toInt32 &&& (255 : Int32))), .val (.int (-1 : Int32)), .val (.int (-1 : Int32)), .val (.int (-1 : Int32)), .val (.int (-1 : Int32)), .val (.int (-1 : Int32))]) rfl kk) ?_
    show Goes _ _ _ _ _ _ _ (T14.setTop (mkF m 125 #[.val (.int p0), .val (.int p1), .val (.int p2), .val (.ref ar1), .val (.int (0 : Int32)), .val (.int (1 : Int32)), .val (.ref ob52), .val (.int (1 : Int32)), .val (.int ((p0).toInt8.toInt32 &&& (255 : Int32))), .val (.int (-1 : Int32)), .val (.int (-1 : Int32)), .val (.int (-1 : Int32)), .val (.int (-1 : Int32)), .val (.int (-1 : Int32))] []))
    refine Goes.go (fun _ kk => XS.iload X14.here hx rfl (hb hby at_125) rfl kk) ?_
    show Goes _ _ _ _ _ _ _ (T14.setTop (mkF m 127 _ [(.int (1 : Int32))]))
    refine Goes.go (fun _ kk => XS.ifNo X14.here hx rfl (hb hby at_127) rfl (XT.i0_eq_f (by decide)) kk) ?_
    show Goes _ _ _ _ _ _ _ (T14.setTop (mkF m 130 _ []))
    refine Goes.go (fun _ kk => XS.iload X14.here hx rfl (hb hby at_130) rfl kk) ?_
    show Goes _ _ _ _ _ _ _ (T14.setTop (mkF m 132 _ [(.int ((p0).toInt8.toInt32 &&& (255 : Int32)))]))
    refine Goes.go (fun _ kk => XS.iloadN X14.here hx rfl (hb hby at_132) rfl kk) ?_
    show Goes _ _ _ _ _ _ _ (T14.setTop (mkF m 133 _ [(.int p0), (.int ((p0).toInt8.toInt32 &&& (255 : Int32)))]))
    refine Goes.go (fun _ kk => XS.iload X14.here hx rfl (hb hby at_133) rfl kk) ?_
    show Goes _ _ _ _ _ _ _ (T14.setTop (mkF m 135 _ [(.int (0 : Int32)), (.int p0), (.int ((p0).toInt8.toInt32 &&& (255 : Int32)))]))
    refine Goes.go (fun _ kk => XS.iload X14.here hx rfl (hb hby at_135) rfl kk) ?_
    show Goes _ _ _ _ _ _ _ (T14.setTop (mkF m 137 _ [(.int (1 : Int32)), (.int (0 : Int32)), (.int p0), (.int ((p0).toInt8.toInt32 &&& (255 : Int32)))]))
    refine Goes.go (fun _ kk => XS.iconst X14.here hx rfl (hb hby at_137) kk) ?_
    show Goes _ _ _ _ _ _ _ (T14.setTop (mkF m 138 _ [(.int (0 : Int32)), (.int (1 : Int32)), (.int (0 : Int32)), (.int p0), (.int ((p0).toInt8.toInt32 &&& (255 : Int32)))]))
    obtain ⟨_, _, ⟨T15, L15, k15, n15⟩, -, X15, ⟨Lc15, hQ15, l15, y15, z15⟩, st15⟩ := Jvm.LawKit.callS X14 hx (y := (⟨"com/example/wide_schema/wideschema/io/BytesInputReadPinLaw", "exp", "(IIII)I"⟩ : MethodName)) hown (mvT hZ (hw _ (List.mem_of_getElem? (i := 32) rfl))) (mvT hZ (hw _ (List.mem_of_getElem? (i := 33) rfl))) (mvT hZ (hw _ (List.mem_of_getElem? (i := 34) rfl))) (mvT hZ (hw _ (List.mem_of_getElem? (i := 35) rfl))) (by decide) (backOf (W := 1) (rm5 l Z a0 hw [] p0 (0 : Int32) (1 : Int32) (0 : Int32) T9.heap n0 Z9) hZ (hw _ (List.mem_of_getElem? (i := 35) rfl)) (hw _ (List.mem_of_getElem? (i := 34) rfl)) (by decide) (by decide)) (g := (mkF m 138 #[.val (.int p0), .val (.int p1), .val (.int p2), .val (.ref ar1), .val (.int (0 : Int32)), .val (.int (1 : Int32)), .val (.ref ob52), .val (.int (1 : Int32)), .val (.int ((p0).toInt8.toInt32 &&& (255 : Int32))), .val (.int (-1 : Int32)), .val (.int (-1 : Int32)), .val (.int (-1 : Int32)), .val (.int (-1 : Int32)), .val (.int (-1 : Int32))] [(.int (0 : Int32)), (.int (1 : Int32)), (.int (0 : Int32)), (.int p0), (.int ((p0).toInt8.toInt32 &&& (255 : Int32)))])) rfl (by rw [hml]; rfl) (argsL := [(.int p0), (.int (0 : Int32)), (.int (1 : Int32)), (.int (0 : Int32))]) (rest := [(.int ((p0).toInt8.toInt32 &&& (255 : Int32)))]) (lenOf pd3 rfl) rfl (by show 2 * 0 + _ ≤ _; exact Nat.le_of_eq rfl) (hb hby at_138) (fun _ _ => ⟨rfl, hh14, (by decide : 2 + 0 ≤ _), (by decide : 7 + 0 ≤ _)⟩)
    dsimp only [Pt.U, Pt.locs, Pt.cells, Pt.slots] at X15 l15 y15 z15 st15 hQ15
    subst l15 y15 z15
    obtain ⟨rfl, Nq15, hh15⟩ := hQ15
    have N15 := Fr.app N14 Nq15
    refine Goes.go (st15) ?_
    show Goes _ _ _ _ _ _ _ (T15.setTop (mkF m 141 _ [(.int (exF p0 (0 : Int32) (1 : Int32) (0 : Int32))), (.int ((p0).toInt8.toInt32 &&& (255 : Int32)))]))
    refine Goes.go (fun _ kk => XS.icmpNo X15.here hx rfl (hb hby at_141) rfl (XT.ii_ne_f (own_0 (by decide) (by decide))) kk) ?_
    show Goes _ _ _ _ _ _ _ (T15.setTop (mkF m 144 _ []))
    refine Goes.go (fun _ kk => XS.iconst X15.here hx rfl (hb hby at_144) kk) ?_
    show Goes _ _ _ _ _ _ _ (T15.setTop (mkF m 145 _ [(.int (1 : Int32))]))
    refine Goes.go (fun _ kk => XS.goto X15.here hx rfl (pc0 := 145) (pc' := 149) rfl (hb hby at_145) (by decide) (by decide) kk) ?_
    show Goes _ _ _ _ _ _ _ (T15.setTop (mkF m 149 _ [(.int (1 : Int32))]))
    refine Goes.go (fun _ kk => XS.istore X15.here hx rfl (hb hby at_149) rfl (l' := #[.val (.int p0), .val (.int p1), .val (.int p2), .val (.ref ar1), .val (.int (0 : Int32)), .val (.int (1 : Int32)), .val (.ref ob52), .val (.int (1 : Int32)), .val (.int ((p0).toInt8.toInt32 &&& (255 : Int32))), .val (.int (-1 : Int32)), .val (.int (-1 : Int32)), .val (.int (-1 : Int32)), .val (.int (-1 : Int32)), .val (.int (-1 : Int32))]) rfl kk) ?_
    show Goes _ _ _ _ _ _ _ (T15.setTop (mkF m 151 _ []))
    refine Goes.go (fun _ kk => XS.iload X15.here hx rfl (hb hby at_151) rfl kk) ?_
    show Goes _ _ _ _ _ _ _ (T15.setTop (mkF m 153 _ [(.int (1 : Int32))]))
    refine Goes.go (fun _ kk => XS.ifNo X15.here hx rfl (hb hby at_153) rfl (XT.i0_eq_f (by decide)) kk) ?_
    show Goes _ _ _ _ _ _ _ (T15.setTop (mkF m 156 _ []))
    refine Goes.go (fun _ kk => XS.iload X15.here hx rfl (hb hby at_156) rfl kk) ?_
    show Goes _ _ _ _ _ _ _ (T15.setTop (mkF m 158 _ [(.int (-1 : Int32))]))
    refine Goes.go (fun _ kk => XS.iloadN X15.here hx rfl (hb hby at_158) rfl kk) ?_
    show Goes _ _ _ _ _ _ _ (T15.setTop (mkF m 159 _ [(.int p0), (.int (-1 : Int32))]))
    refine Goes.go (fun _ kk => XS.iload X15.here hx rfl (hb hby at_159) rfl kk) ?_
    show Goes _ _ _ _ _ _ _ (T15.setTop (mkF m 161 _ [(.int (0 : Int32)), (.int p0), (.int (-1 : Int32))]))
    refine Goes.go (fun _ kk => XS.iload X15.here hx rfl (hb hby at_161) rfl kk) ?_
    show Goes _ _ _ _ _ _ _ (T15.setTop (mkF m 163 _ [(.int (1 : Int32)), (.int (0 : Int32)), (.int p0), (.int (-1 : Int32))]))
    refine Goes.go (fun _ kk => XS.iconst X15.here hx rfl (hb hby at_163) kk) ?_
    show Goes _ _ _ _ _ _ _ (T15.setTop (mkF m 164 _ [(.int (1 : Int32)), (.int (1 : Int32)), (.int (0 : Int32)), (.int p0), (.int (-1 : Int32))]))
    obtain ⟨_, _, ⟨T16, L16, k16, n16⟩, -, X16, ⟨Lc16, hQ16, l16, y16, z16⟩, st16⟩ := Jvm.LawKit.callS X15 hx (y := (⟨"com/example/wide_schema/wideschema/io/BytesInputReadPinLaw", "exp", "(IIII)I"⟩ : MethodName)) hown (mvT hZ (hw _ (List.mem_of_getElem? (i := 32) rfl))) (mvT hZ (hw _ (List.mem_of_getElem? (i := 33) rfl))) (mvT hZ (hw _ (List.mem_of_getElem? (i := 34) rfl))) (mvT hZ (hw _ (List.mem_of_getElem? (i := 35) rfl))) (by decide) (backOf (W := 1) (rm5 l Z a0 hw [] p0 (0 : Int32) (1 : Int32) (1 : Int32) T9.heap n0 Z9) hZ (hw _ (List.mem_of_getElem? (i := 35) rfl)) (hw _ (List.mem_of_getElem? (i := 34) rfl)) (by decide) (by decide)) (g := (mkF m 164 #[.val (.int p0), .val (.int p1), .val (.int p2), .val (.ref ar1), .val (.int (0 : Int32)), .val (.int (1 : Int32)), .val (.ref ob52), .val (.int (1 : Int32)), .val (.int ((p0).toInt8.toInt32 &&& (255 : Int32))), .val (.int (-1 : Int32)), .val (.int (-1 : Int32)), .val (.int (-1 : Int32)), .val (.int (-1 : Int32)), .val (.int (-1 : Int32))] [(.int (1 : Int32)), (.int (1 : Int32)), (.int (0 : Int32)), (.int p0), (.int (-1 : Int32))])) rfl (by rw [hml]; rfl) (argsL := [(.int p0), (.int (0 : Int32)), (.int (1 : Int32)), (.int (1 : Int32))]) (rest := [(.int (-1 : Int32))]) (lenOf pd3 rfl) rfl (by show 2 * 0 + _ ≤ _; exact Nat.le_of_eq rfl) (hb hby at_164) (fun _ _ => ⟨rfl, hh15, (by decide : 2 + 0 ≤ _), (by decide : 7 + 0 ≤ _)⟩)
    dsimp only [Pt.U, Pt.locs, Pt.cells, Pt.slots] at X16 l16 y16 z16 st16 hQ16
    subst l16 y16 z16
    obtain ⟨rfl, Nq16, hh16⟩ := hQ16
    have N16 := Fr.app N15 Nq16
    refine Goes.go (st16) ?_
    show Goes _ _ _ _ _ _ _ (T16.setTop (mkF m 167 _ [(.int (exF p0 (0 : Int32) (1 : Int32) (1 : Int32))), (.int (-1 : Int32))]))
    refine Goes.go (fun _ kk => XS.icmpNo X16.here hx rfl (hb hby at_167) rfl (XT.ii_ne_f (own_m (by decide))) kk) ?_
    show Goes _ _ _ _ _ _ _ (T16.setTop (mkF m 170 _ []))
    refine Goes.go (fun _ kk => XS.iconst X16.here hx rfl (hb hby at_170) kk) ?_
    show Goes _ _ _ _ _ _ _ (T16.setTop (mkF m 171 _ [(.int (1 : Int32))]))
    refine Goes.go (fun _ kk => XS.goto X16.here hx rfl (pc0 := 171) (pc' := 175) rfl (hb hby at_171) (by decide) (by decide) kk) ?_
    show Goes _ _ _ _ _ _ _ (T16.setTop (mkF m 175 _ [(.int (1 : Int32))]))
    refine Goes.go (fun _ kk => XS.istore X16.here hx rfl (hb hby at_175) rfl (l' := #[.val (.int p0), .val (.int p1), .val (.int p2), .val (.ref ar1), .val (.int (0 : Int32)), .val (.int (1 : Int32)), .val (.ref ob52), .val (.int (1 : Int32)), .val (.int ((p0).toInt8.toInt32 &&& (255 : Int32))), .val (.int (-1 : Int32)), .val (.int (-1 : Int32)), .val (.int (-1 : Int32)), .val (.int (-1 : Int32)), .val (.int (-1 : Int32))]) rfl kk) ?_
    show Goes _ _ _ _ _ _ _ (T16.setTop (mkF m 177 _ []))
    refine Goes.go (fun _ kk => XS.iload X16.here hx rfl (hb hby at_177) rfl kk) ?_
    show Goes _ _ _ _ _ _ _ (T16.setTop (mkF m 179 _ [(.int (1 : Int32))]))
    refine Goes.go (fun _ kk => XS.ifNo X16.here hx rfl (hb hby at_179) rfl (XT.i0_eq_f (by decide)) kk) ?_
    show Goes _ _ _ _ _ _ _ (T16.setTop (mkF m 182 _ []))
    refine Goes.go (fun _ kk => XS.iload X16.here hx rfl (hb hby at_182) rfl kk) ?_
    show Goes _ _ _ _ _ _ _ (T16.setTop (mkF m 184 _ [(.int (-1 : Int32))]))
    refine Goes.go (fun _ kk => XS.iloadN X16.here hx rfl (hb hby at_184) rfl kk) ?_
    show Goes _ _ _ _ _ _ _ (T16.setTop (mkF m 185 _ [(.int p0), (.int (-1 : Int32))]))
    refine Goes.go (fun _ kk => XS.iload X16.here hx rfl (hb hby at_185) rfl kk) ?_
    show Goes _ _ _ _ _ _ _ (T16.setTop (mkF m 187 _ [(.int (0 : Int32)), (.int p0), (.int (-1 : Int32))]))
    refine Goes.go (fun _ kk => XS.iload X16.here hx rfl (hb hby at_187) rfl kk) ?_
    show Goes _ _ _ _ _ _ _ (T16.setTop (mkF m 189 _ [(.int (1 : Int32)), (.int (0 : Int32)), (.int p0), (.int (-1 : Int32))]))
    refine Goes.go (fun _ kk => XS.iconst X16.here hx rfl (hb hby at_189) kk) ?_
    show Goes _ _ _ _ _ _ _ (T16.setTop (mkF m 190 _ [(.int (2 : Int32)), (.int (1 : Int32)), (.int (0 : Int32)), (.int p0), (.int (-1 : Int32))]))
    obtain ⟨_, _, ⟨T17, L17, k17, n17⟩, -, X17, ⟨Lc17, hQ17, l17, y17, z17⟩, st17⟩ := Jvm.LawKit.callS X16 hx (y := (⟨"com/example/wide_schema/wideschema/io/BytesInputReadPinLaw", "exp", "(IIII)I"⟩ : MethodName)) hown (mvT hZ (hw _ (List.mem_of_getElem? (i := 32) rfl))) (mvT hZ (hw _ (List.mem_of_getElem? (i := 33) rfl))) (mvT hZ (hw _ (List.mem_of_getElem? (i := 34) rfl))) (mvT hZ (hw _ (List.mem_of_getElem? (i := 35) rfl))) (by decide) (backOf (W := 1) (rm5 l Z a0 hw [] p0 (0 : Int32) (1 : Int32) (2 : Int32) T9.heap n0 Z9) hZ (hw _ (List.mem_of_getElem? (i := 35) rfl)) (hw _ (List.mem_of_getElem? (i := 34) rfl)) (by decide) (by decide)) (g := (mkF m 190 #[.val (.int p0), .val (.int p1), .val (.int p2), .val (.ref ar1), .val (.int (0 : Int32)), .val (.int (1 : Int32)), .val (.ref ob52), .val (.int (1 : Int32)), .val (.int ((p0).toInt8.toInt32 &&& (255 : Int32))), .val (.int (-1 : Int32)), .val (.int (-1 : Int32)), .val (.int (-1 : Int32)), .val (.int (-1 : Int32)), .val (.int (-1 : Int32))] [(.int (2 : Int32)), (.int (1 : Int32)), (.int (0 : Int32)), (.int p0), (.int (-1 : Int32))])) rfl (by rw [hml]; rfl) (argsL := [(.int p0), (.int (0 : Int32)), (.int (1 : Int32)), (.int (2 : Int32))]) (rest := [(.int (-1 : Int32))]) (lenOf pd3 rfl) rfl (by show 2 * 0 + _ ≤ _; exact Nat.le_of_eq rfl) (hb hby at_190) (fun _ _ => ⟨rfl, hh16, (by decide : 2 + 0 ≤ _), (by decide : 7 + 0 ≤ _)⟩)
    dsimp only [Pt.U, Pt.locs, Pt.cells, Pt.slots] at X17 l17 y17 z17 st17 hQ17
    subst l17 y17 z17
    obtain ⟨rfl, Nq17, hh17⟩ := hQ17
    have N17 := Fr.app N16 Nq17
    refine Goes.go (st17) ?_
    show Goes _ _ _ _ _ _ _ (T17.setTop (mkF m 193 _ [(.int (exF p0 (0 : Int32) (1 : Int32) (2 : Int32))), (.int (-1 : Int32))]))
    refine Goes.go (fun _ kk => XS.icmpNo X17.here hx rfl (hb hby at_193) rfl (XT.ii_ne_f (own_m (by decide))) kk) ?_
    show Goes _ _ _ _ _ _ _ (T17.setTop (mkF m 196 _ []))
    refine Goes.go (fun _ kk => XS.iconst X17.here hx rfl (hb hby at_196) kk) ?_
    show Goes _ _ _ _ _ _ _ (T17.setTop (mkF m 197 _ [(.int (1 : Int32))]))
    refine Goes.go (fun _ kk => XS.goto X17.here hx rfl (pc0 := 197) (pc' := 201) rfl (hb hby at_197) (by decide) (by decide) kk) ?_
    show Goes _ _ _ _ _ _ _ (T17.setTop (mkF m 201 _ [(.int (1 : Int32))]))
    refine Goes.go (fun _ kk => XS.istore X17.here hx rfl (hb hby at_201) rfl (l' := #[.val (.int p0), .val (.int p1), .val (.int p2), .val (.ref ar1), .val (.int (0 : Int32)), .val (.int (1 : Int32)), .val (.ref ob52), .val (.int (1 : Int32)), .val (.int ((p0).toInt8.toInt32 &&& (255 : Int32))), .val (.int (-1 : Int32)), .val (.int (-1 : Int32)), .val (.int (-1 : Int32)), .val (.int (-1 : Int32)), .val (.int (-1 : Int32))]) rfl kk) ?_
    show Goes _ _ _ _ _ _ _ (T17.setTop (mkF m 203 _ []))
    refine Goes.go (fun _ kk => XS.iload X17.here hx rfl (hb hby at_203) rfl kk) ?_
    show Goes _ _ _ _ _ _ _ (T17.setTop (mkF m 205 _ [(.int (1 : Int32))]))
    refine Goes.go (fun _ kk => XS.ifNo X17.here hx rfl (hb hby at_205) rfl (XT.i0_eq_f (by decide)) kk) ?_
    show Goes _ _ _ _ _ _ _ (T17.setTop (mkF m 208 _ []))
    refine Goes.go (fun _ kk => XS.iload X17.here hx rfl (hb hby at_208) rfl kk) ?_
    show Goes _ _ _ _ _ _ _ (T17.setTop (mkF m 210 _ [(.int (-1 : Int32))]))
    refine Goes.go (fun _ kk => XS.iloadN X17.here hx rfl (hb hby at_210) rfl kk) ?_
    show Goes _ _ _ _ _ _ _ (T17.setTop (mkF m 211 _ [(.int p0), (.int (-1 : Int32))]))
    refine Goes.go (fun _ kk => XS.iload X17.here hx rfl (hb hby at_211) rfl kk) ?_
    show Goes _ _ _ _ _ _ _ (T17.setTop (mkF m 213 _ [(.int (0 : Int32)), (.int p0), (.int (-1 : Int32))]))
    refine Goes.go (fun _ kk => XS.iload X17.here hx rfl (hb hby at_213) rfl kk) ?_
    show Goes _ _ _ _ _ _ _ (T17.setTop (mkF m 215 _ [(.int (1 : Int32)), (.int (0 : Int32)), (.int p0), (.int (-1 : Int32))]))
    refine Goes.go (fun _ kk => XS.iconst X17.here hx rfl (hb hby at_215) kk) ?_
    show Goes _ _ _ _ _ _ _ (T17.setTop (mkF m 216 _ [(.int (3 : Int32)), (.int (1 : Int32)), (.int (0 : Int32)), (.int p0), (.int (-1 : Int32))]))
    obtain ⟨_, _, ⟨T18, L18, k18, n18⟩, -, X18, ⟨Lc18, hQ18, l18, y18, z18⟩, st18⟩ := Jvm.LawKit.callS X17 hx (y := (⟨"com/example/wide_schema/wideschema/io/BytesInputReadPinLaw", "exp", "(IIII)I"⟩ : MethodName)) hown (mvT hZ (hw _ (List.mem_of_getElem? (i := 32) rfl))) (mvT hZ (hw _ (List.mem_of_getElem? (i := 33) rfl))) (mvT hZ (hw _ (List.mem_of_getElem? (i := 34) rfl))) (mvT hZ (hw _ (List.mem_of_getElem? (i := 35) rfl))) (by decide) (backOf (W := 1) (rm5 l Z a0 hw [] p0 (0 : Int32) (1 : Int32) (3 : Int32) T9.heap n0 Z9) hZ (hw _ (List.mem_of_getElem? (i := 35) rfl)) (hw _ (List.mem_of_getElem? (i := 34) rfl)) (by decide) (by decide)) (g := (mkF m 216 #[.val (.int p0), .val (.int p1), .val (.int p2), .val (.ref ar1), .val (.int (0 : Int32)), .val (.int (1 : Int32)), .val (.ref ob52), .val (.int (1 : Int32)), .val (.int ((p0).toInt8.toInt32 &&& (255 : Int32))), .val (.int (-1 : Int32)), .val (.int (-1 : Int32)), .val (.int (-1 : Int32)), .val (.int (-1 : Int32)), .val (.int (-1 : Int32))] [(.int (3 : Int32)), (.int (1 : Int32)), (.int (0 : Int32)), (.int p0), (.int (-1 : Int32))])) rfl (by rw [hml]; rfl) (argsL := [(.int p0), (.int (0 : Int32)), (.int (1 : Int32)), (.int (3 : Int32))]) (rest := [(.int (-1 : Int32))]) (lenOf pd3 rfl) rfl (by show 2 * 0 + _ ≤ _; exact Nat.le_of_eq rfl) (hb hby at_216) (fun _ _ => ⟨rfl, hh17, (by decide : 2 + 0 ≤ _), (by decide : 7 + 0 ≤ _)⟩)
    dsimp only [Pt.U, Pt.locs, Pt.cells, Pt.slots] at X18 l18 y18 z18 st18 hQ18
    subst l18 y18 z18
    obtain ⟨rfl, Nq18, hh18⟩ := hQ18
    have N18 := Fr.app N17 Nq18
    refine Goes.go (st18) ?_
    show Goes _ _ _ _ _ _ _ (T18.setTop (mkF m 219 _ [(.int (exF p0 (0 : Int32) (1 : Int32) (3 : Int32))), (.int (-1 : Int32))]))
    refine Goes.go (fun _ kk => XS.icmpNo X18.here hx rfl (hb hby at_219) rfl (XT.ii_ne_f (own_m (by decide))) kk) ?_
    show Goes _ _ _ _ _ _ _ (T18.setTop (mkF m 222 _ []))
    refine Goes.go (fun _ kk => XS.iconst X18.here hx rfl (hb hby at_222) kk) ?_
    show Goes _ _ _ _ _ _ _ (T18.setTop (mkF m 223 _ [(.int (1 : Int32))]))
    refine Goes.go (fun _ kk => XS.goto X18.here hx rfl (pc0 := 223) (pc' := 227) rfl (hb hby at_223) (by decide) (by decide) kk) ?_
    show Goes _ _ _ _ _ _ _ (T18.setTop (mkF m 227 _ [(.int (1 : Int32))]))
    refine Goes.go (fun _ kk => XS.istore X18.here hx rfl (hb hby at_227) rfl (l' := #[.val (.int p0), .val (.int p1), .val (.int p2), .val (.ref ar1), .val (.int (0 : Int32)), .val (.int (1 : Int32)), .val (.ref ob52), .val (.int (1 : Int32)), .val (.int ((p0).toInt8.toInt32 &&& (255 : Int32))), .val (.int (-1 : Int32)), .val (.int (-1 : Int32)), .val (.int (-1 : Int32)), .val (.int (-1 : Int32)), .val (.int (-1 : Int32))]) rfl kk) ?_
    show Goes _ _ _ _ _ _ _ (T18.setTop (mkF m 229 _ []))
    refine Goes.go (fun _ kk => XS.iload X18.here hx rfl (hb hby at_229) rfl kk) ?_
    show Goes _ _ _ _ _ _ _ (T18.setTop (mkF m 231 _ [(.int (1 : Int32))]))
    refine Goes.go (fun _ kk => XS.ifNo X18.here hx rfl (hb hby at_231) rfl (XT.i0_eq_f (by decide)) kk) ?_
    show Goes _ _ _ _ _ _ _ (T18.setTop (mkF m 234 _ []))
    refine Goes.go (fun _ kk => XS.iload X18.here hx rfl (hb hby at_234) rfl kk) ?_
    show Goes _ _ _ _ _ _ _ (T18.setTop (mkF m 236 _ [(.int (-1 : Int32))]))
    refine Goes.go (fun _ kk => XS.iloadN X18.here hx rfl (hb hby at_236) rfl kk) ?_
    show Goes _ _ _ _ _ _ _ (T18.setTop (mkF m 237 _ [(.int p0), (.int (-1 : Int32))]))
    refine Goes.go (fun _ kk => XS.iload X18.here hx rfl (hb hby at_237) rfl kk) ?_
    show Goes _ _ _ _ _ _ _ (T18.setTop (mkF m 239 _ [(.int (0 : Int32)), (.int p0), (.int (-1 : Int32))]))
    refine Goes.go (fun _ kk => XS.iload X18.here hx rfl (hb hby at_239) rfl kk) ?_
    show Goes _ _ _ _ _ _ _ (T18.setTop (mkF m 241 _ [(.int (1 : Int32)), (.int (0 : Int32)), (.int p0), (.int (-1 : Int32))]))
    refine Goes.go (fun _ kk => XS.iconst X18.here hx rfl (hb hby at_241) kk) ?_
    show Goes _ _ _ _ _ _ _ (T18.setTop (mkF m 242 _ [(.int (4 : Int32)), (.int (1 : Int32)), (.int (0 : Int32)), (.int p0), (.int (-1 : Int32))]))
    obtain ⟨_, _, ⟨T19, L19, k19, n19⟩, -, X19, ⟨Lc19, hQ19, l19, y19, z19⟩, st19⟩ := Jvm.LawKit.callS X18 hx (y := (⟨"com/example/wide_schema/wideschema/io/BytesInputReadPinLaw", "exp", "(IIII)I"⟩ : MethodName)) hown (mvT hZ (hw _ (List.mem_of_getElem? (i := 32) rfl))) (mvT hZ (hw _ (List.mem_of_getElem? (i := 33) rfl))) (mvT hZ (hw _ (List.mem_of_getElem? (i := 34) rfl))) (mvT hZ (hw _ (List.mem_of_getElem? (i := 35) rfl))) (by decide) (backOf (W := 1) (rm5 l Z a0 hw [] p0 (0 : Int32) (1 : Int32) (4 : Int32) T9.heap n0 Z9) hZ (hw _ (List.mem_of_getElem? (i := 35) rfl)) (hw _ (List.mem_of_getElem? (i := 34) rfl)) (by decide) (by decide)) (g := (mkF m 242 #[.val (.int p0), .val (.int p1), .val (.int p2), .val (.ref ar1), .val (.int (0 : Int32)), .val (.int (1 : Int32)), .val (.ref ob52), .val (.int (1 : Int32)), .val (.int ((p0).toInt8.toInt32 &&& (255 : Int32))), .val (.int (-1 : Int32)), .val (.int (-1 : Int32)), .val (.int (-1 : Int32)), .val (.int (-1 : Int32)), .val (.int (-1 : Int32))] [(.int (4 : Int32)), (.int (1 : Int32)), (.int (0 : Int32)), (.int p0), (.int (-1 : Int32))])) rfl (by rw [hml]; rfl) (argsL := [(.int p0), (.int (0 : Int32)), (.int (1 : Int32)), (.int (4 : Int32))]) (rest := [(.int (-1 : Int32))]) (lenOf pd3 rfl) rfl (by show 2 * 0 + _ ≤ _; exact Nat.le_of_eq rfl) (hb hby at_242) (fun _ _ => ⟨rfl, hh18, (by decide : 2 + 0 ≤ _), (by decide : 7 + 0 ≤ _)⟩)
    dsimp only [Pt.U, Pt.locs, Pt.cells, Pt.slots] at X19 l19 y19 z19 st19 hQ19
    subst l19 y19 z19
    obtain ⟨rfl, Nq19, hh19⟩ := hQ19
    have N19 := Fr.app N18 Nq19
    refine Goes.go (st19) ?_
    show Goes _ _ _ _ _ _ _ (T19.setTop (mkF m 245 _ [(.int (exF p0 (0 : Int32) (1 : Int32) (4 : Int32))), (.int (-1 : Int32))]))
    refine Goes.go (fun _ kk => XS.icmpNo X19.here hx rfl (hb hby at_245) rfl (XT.ii_ne_f (own_m (by decide))) kk) ?_
    show Goes _ _ _ _ _ _ _ (T19.setTop (mkF m 248 _ []))
    refine Goes.go (fun _ kk => XS.iconst X19.here hx rfl (hb hby at_248) kk) ?_
    show Goes _ _ _ _ _ _ _ (T19.setTop (mkF m 249 _ [(.int (1 : Int32))]))
    refine Goes.go (fun _ kk => XS.goto X19.here hx rfl (pc0 := 249) (pc' := 253) rfl (hb hby at_249) (by decide) (by decide) kk) ?_
    show Goes _ _ _ _ _ _ _ (T19.setTop (mkF m 253 _ [(.int (1 : Int32))]))
    refine Goes.go (fun _ kk => XS.istore X19.here hx rfl (hb hby at_253) rfl (l' := #[.val (.int p0), .val (.int p1), .val (.int p2), .val (.ref ar1), .val (.int (0 : Int32)), .val (.int (1 : Int32)), .val (.ref ob52), .val (.int (1 : Int32)), .val (.int ((p0).toInt8.toInt32 &&& (255 : Int32))), .val (.int (-1 : Int32)), .val (.int (-1 : Int32)), .val (.int (-1 : Int32)), .val (.int (-1 : Int32)), .val (.int (-1 : Int32))]) rfl kk) ?_
    show Goes _ _ _ _ _ _ _ (T19.setTop (mkF m 255 _ []))
    refine Goes.go (fun _ kk => XS.iload X19.here hx rfl (hb hby at_255) rfl kk) ?_
    show Goes _ _ _ _ _ _ _ (T19.setTop (mkF m 257 _ [(.int (1 : Int32))]))
    refine Goes.go (fun _ kk => XS.ifNo X19.here hx rfl (hb hby at_257) rfl (XT.i0_eq_f (by decide)) kk) ?_
    show Goes _ _ _ _ _ _ _ (T19.setTop (mkF m 260 _ []))
    refine Goes.go (fun _ kk => XS.iload X19.here hx rfl (hb hby at_260) rfl kk) ?_
    show Goes _ _ _ _ _ _ _ (T19.setTop (mkF m 262 _ [(.int (-1 : Int32))]))
    refine Goes.go (fun _ kk => XS.iloadN X19.here hx rfl (hb hby at_262) rfl kk) ?_
    show Goes _ _ _ _ _ _ _ (T19.setTop (mkF m 263 _ [(.int p0), (.int (-1 : Int32))]))
    refine Goes.go (fun _ kk => XS.iload X19.here hx rfl (hb hby at_263) rfl kk) ?_
    show Goes _ _ _ _ _ _ _ (T19.setTop (mkF m 265 _ [(.int (0 : Int32)), (.int p0), (.int (-1 : Int32))]))
    refine Goes.go (fun _ kk => XS.iload X19.here hx rfl (hb hby at_265) rfl kk) ?_
    show Goes _ _ _ _ _ _ _ (T19.setTop (mkF m 267 _ [(.int (1 : Int32)), (.int (0 : Int32)), (.int p0), (.int (-1 : Int32))]))
    refine Goes.go (fun _ kk => XS.iconst X19.here hx rfl (hb hby at_267) kk) ?_
    show Goes _ _ _ _ _ _ _ (T19.setTop (mkF m 268 _ [(.int (5 : Int32)), (.int (1 : Int32)), (.int (0 : Int32)), (.int p0), (.int (-1 : Int32))]))
    obtain ⟨_, _, ⟨T20, L20, k20, n20⟩, -, X20, ⟨Lc20, hQ20, l20, y20, z20⟩, st20⟩ := Jvm.LawKit.callS X19 hx (y := (⟨"com/example/wide_schema/wideschema/io/BytesInputReadPinLaw", "exp", "(IIII)I"⟩ : MethodName)) hown (mvT hZ (hw _ (List.mem_of_getElem? (i := 32) rfl))) (mvT hZ (hw _ (List.mem_of_getElem? (i := 33) rfl))) (mvT hZ (hw _ (List.mem_of_getElem? (i := 34) rfl))) (mvT hZ (hw _ (List.mem_of_getElem? (i := 35) rfl))) (by decide) (backOf (W := 1) (rm5 l Z a0 hw [] p0 (0 : Int32) (1 : Int32) (5 : Int32) T9.heap n0 Z9) hZ (hw _ (List.mem_of_getElem? (i := 35) rfl)) (hw _ (List.mem_of_getElem? (i := 34) rfl)) (by decide) (by decide)) (g := (mkF m 268 #[.val (.int p0), .val (.int p1), .val (.int p2), .val (.ref ar1), .val (.int (0 : Int32)), .val (.int (1 : Int32)), .val (.ref ob52), .val (.int (1 : Int32)), .val (.int ((p0).toInt8.toInt32 &&& (255 : Int32))), .val (.int (-1 : Int32)), .val (.int (-1 : Int32)), .val (.int (-1 : Int32)), .val (.int (-1 : Int32)), .val (.int (-1 : Int32))] [(.int (5 : Int32)), (.int (1 : Int32)), (.int (0 : Int32)), (.int p0), (.int (-1 : Int32))])) rfl (by rw [hml]; rfl) (argsL := [(.int p0), (.int (0 : Int32)), (.int (1 : Int32)), (.int (5 : Int32))]) (rest := [(.int (-1 : Int32))]) (lenOf pd3 rfl) rfl (by show 2 * 0 + _ ≤ _; exact Nat.le_of_eq rfl) (hb hby at_268) (fun _ _ => ⟨rfl, hh19, (by decide : 2 + 0 ≤ _), (by decide : 7 + 0 ≤ _)⟩)
    dsimp only [Pt.U, Pt.locs, Pt.cells, Pt.slots] at X20 l20 y20 z20 st20 hQ20
    subst l20 y20 z20
    obtain ⟨rfl, Nq20, hh20⟩ := hQ20
    have N20 := Fr.app N19 Nq20
    refine Goes.go (st20) ?_
    show Goes _ _ _ _ _ _ _ (T20.setTop (mkF m 271 _ [(.int (exF p0 (0 : Int32) (1 : Int32) (5 : Int32))), (.int (-1 : Int32))]))
    refine Goes.go (fun _ kk => XS.icmpNo X20.here hx rfl (hb hby at_271) rfl (XT.ii_ne_f (own_m (by decide))) kk) ?_
    show Goes _ _ _ _ _ _ _ (T20.setTop (mkF m 274 _ []))
    refine Goes.go (fun _ kk => XS.iconst X20.here hx rfl (hb hby at_274) kk) ?_
    show Goes _ _ _ _ _ _ _ (T20.setTop (mkF m 275 _ [(.int (1 : Int32))]))
    refine Goes.go (fun _ kk => XS.goto X20.here hx rfl (pc0 := 275) (pc' := 279) rfl (hb hby at_275) (by decide) (by decide) kk) ?_
    show Goes _ _ _ _ _ _ _ (T20.setTop (mkF m 279 _ [(.int (1 : Int32))]))
    refine Goes.go (fun _ kk => XS.istore X20.here hx rfl (hb hby at_279) rfl (l' := #[.val (.int p0), .val (.int p1), .val (.int p2), .val (.ref ar1), .val (.int (0 : Int32)), .val (.int (1 : Int32)), .val (.ref ob52), .val (.int (1 : Int32)), .val (.int ((p0).toInt8.toInt32 &&& (255 : Int32))), .val (.int (-1 : Int32)), .val (.int (-1 : Int32)), .val (.int (-1 : Int32)), .val (.int (-1 : Int32)), .val (.int (-1 : Int32))]) rfl kk) ?_
    show Goes _ _ _ _ _ _ _ (T20.setTop (mkF m 281 _ []))
    refine Goes.go (fun _ kk => XS.iload X20.here hx rfl (hb hby at_281) rfl kk) ?_
    show Goes _ _ _ _ _ _ _ (T20.setTop (mkF m 283 _ [(.int (1 : Int32))]))
    refine Goes.go (fun _ kk => XS.ifNo X20.here hx rfl (hb hby at_283) rfl (XT.i0_eq_f (by decide)) kk) ?_
    show Goes _ _ _ _ _ _ _ (T20.setTop (mkF m 286 _ []))
    refine Goes.go (fun _ kk => XS.aload X20.here hx rfl (hb hby at_286) rfl rfl kk) ?_
    show Goes _ _ _ _ _ _ _ (T20.setTop (mkF m 288 _ [(.ref ob52)]))
    obtain ⟨cq21, kq21, qa21, qb21, qc21⟩ := isOf hZ hh20 Eq9
    obtain ⟨_, _, ⟨T21, L21, k21, n21⟩, -, X21, ⟨Lc21, hQ21, l21, y21, z21⟩, st21⟩ := X20.virtualBack hx (y := (⟨"com/example/wide_schema/wideschema/io/BytesInput", "available", "()I"⟩ : MethodName)) (z := (⟨"com/example/wide_schema/wideschema/io/BytesInput", "available", "()I"⟩ : MethodName)) hown (mvT hZ (hw _ (List.mem_of_getElem? (i := 22) rfl))) (mvT hZ (hw _ (List.mem_of_getElem? (i := 23) rfl))) (notFace_of_selects (args := #[]) (mvT hZ (hw _ (List.mem_of_getElem? (i := 25) rfl)))) (mvT hZ (hw _ (List.mem_of_getElem? (i := 25) rfl))) (mvT hZ (hw _ (List.mem_of_getElem? (i := 24) rfl))) (by decide) (backOf (W := 0) (rm3 l Z a0 hw [] ob52 (1 : Int32) (1 : Int32) T9.heap n0 Z9 Fq9_1 Fq9_2) hZ (hw _ (List.mem_of_getElem? (i := 26) rfl)) (hw _ (List.mem_of_getElem? (i := 4) rfl)) (by decide) (by decide)) qa21 qc21 (g := (mkF m 288 #[.val (.int p0), .val (.int p1), .val (.int p2), .val (.ref ar1), .val (.int (0 : Int32)), .val (.int (1 : Int32)), .val (.ref ob52), .val (.int (1 : Int32)), .val (.int ((p0).toInt8.toInt32 &&& (255 : Int32))), .val (.int (-1 : Int32)), .val (.int (-1 : Int32)), .val (.int (-1 : Int32)), .val (.int (-1 : Int32)), .val (.int (-1 : Int32))] [(.ref ob52)])) rfl (by rw [hml]; rfl) (Steps.refl _) (argsL := []) (rest := []) (lenOf pd2 rfl) rfl (by show 2 * 0 + _ ≤ _; exact Nat.le_of_eq rfl) (hb hby at_288) (fun _ _ => ⟨rfl, hh20, (by decide : 2 + 0 ≤ _), (by decide : 7 + 0 ≤ _)⟩)
    dsimp only [Pt.U, Pt.locs, Pt.cells, Pt.slots] at X21 l21 y21 z21 st21 hQ21
    subst l21 y21 z21
    obtain ⟨rfl, Nq21, hh21⟩ := hQ21
    have N21 := Fr.app N20 Nq21
    refine Goes.go (fun _ kk => st21.trans kk) ?_
    show Goes _ _ _ _ _ _ _ (T21.setTop (mkF m 291 _ [(.int (0 : Int32))]))
    refine Goes.go (fun _ kk => XS.ifNo X21.here hx rfl (hb hby at_291) rfl (XT.i0_ne_f (by decide)) kk) ?_
    show Goes _ _ _ _ _ _ _ (T21.setTop (mkF m 294 _ []))
    refine Goes.go (fun _ kk => XS.iconst X21.here hx rfl (hb hby at_294) kk) ?_
    show Goes _ _ _ _ _ _ _ (T21.setTop (mkF m 295 _ [(.int (1 : Int32))]))
    refine Goes.go (fun _ kk => XS.goto X21.here hx rfl (pc0 := 295) (pc' := 299) rfl (hb hby at_295) (by decide) (by decide) kk) ?_
    show Goes _ _ _ _ _ _ _ (T21.setTop (mkF m 299 _ [(.int (1 : Int32))]))
    refine Goes.go (fun _ kk => XS.istore X21.here hx rfl (hb hby at_299) rfl (l' := #[.val (.int p0), .val (.int p1), .val (.int p2), .val (.ref ar1), .val (.int (0 : Int32)), .val (.int (1 : Int32)), .val (.ref ob52), .val (.int (1 : Int32)), .val (.int ((p0).toInt8.toInt32 &&& (255 : Int32))), .val (.int (-1 : Int32)), .val (.int (-1 : Int32)), .val (.int (-1 : Int32)), .val (.int (-1 : Int32)), .val (.int (-1 : Int32))]) rfl kk) ?_
    show Goes _ _ _ _ _ _ _ (T21.setTop (mkF m 301 _ []))
    refine Goes.go (fun _ kk => XS.iload X21.here hx rfl (hb hby at_301) rfl kk) ?_
    show Goes _ _ _ _ _ _ _ (T21.setTop (mkF m 303 _ [(.int (1 : Int32))]))
    exact Goes.outZ X21 hx hlk hret rfl (hb hby at_303) hh21 ⟨rfl, N21⟩ (by decide) (by decide)
  · skip
    show Goes _ _ _ _ _ _ _ (T5.setTop (mkF m 52 #[.val (.int p0), .val (.int p1), .val (.int p2), .val (.ref ar1), .val (.int (0 : Int32)), .val (.int (2 : Int32)), .unset, .unset, .unset, .unset, .unset, .unset, .unset, .unset] []))
    obtain ⟨T6, h6, X6, e6, E6, A6, D6, -, st6⟩ := newO X5 hx hZ hown (hw _ (List.mem_of_getElem? (i := 2) rfl)) (hw _ (List.mem_of_getElem? (i := 3) rfl)) (hw _ (List.mem_of_getElem? (i := 4) rfl)) e5 (g := (mkF m 52 #[.val (.int p0), .val (.int p1), .val (.int p2), .val (.ref ar1), .val (.int (0 : Int32)), .val (.int (2 : Int32)), .unset, .unset, .unset, .unset, .unset, .unset, .unset, .unset] [])) rfl (hb hby at_52) (by decide) (by decide)
    obtain ⟨ob52, gob52⟩ : ∃ z, z = h5.size := ⟨_, rfl⟩
    rw [← gob52] at A6 D6 st6
    have ne_ar1_ob52 : ar1 ≠ ob52 := by rw [gob52]; exact Nat.ne_of_lt f_4.lt
    have f_5 := f_4.ext E6
    have Z6 : n0 ≤ h6.size := Nat.le_trans Z5 E6.1
    have ge_ob52 : n0 ≤ ob52 := Nat.le_trans Z5 (Nat.le_of_eq gob52.symm)
    have f_6 : Fld Z h6 ob52 "com/example/wide_schema/wideschema/io/BytesInput" "_bytes" "[B" .null := D6 (Or.inr (hw _ (List.mem_of_getElem? (i := 17) rfl))) (ty := (.array .byte)) (by decide)
    have f_7 : Fld Z h6 ob52 "com/example/wide_schema/wideschema/io/BytesInput" "_next" "I" (.int (0 : Int32)) := D6 (Or.inl (hw _ (List.mem_of_getElem? (i := 19) rfl))) (ty := .int) (by decide)
    have f_8 : Fld Z h6 ob52 "com/example/wide_schema/wideschema/io/BytesInput" "_end" "I" (.int (0 : Int32)) := D6 (Or.inr (hw _ (List.mem_of_getElem? (i := 21) rfl))) (ty := .int) (by decide)
    refine Goes.go (st6) ?_
    show Goes _ _ _ _ _ _ _ (T6.setTop (mkF m 55 _ [(.ref ob52)]))
    refine Goes.go (fun _ kk => XS.dup X6.here hx rfl (hb hby at_55) rfl rfl kk) ?_
    show Goes _ _ _ _ _ _ _ (T6.setTop (mkF m 56 _ [(.ref ob52), (.ref ob52)]))
    refine Goes.go (fun _ kk => XS.aloadN X6.here hx rfl (hb hby at_56) rfl rfl kk) ?_
    show Goes _ _ _ _ _ _ _ (T6.setTop (mkF m 57 _ [(.ref ar1), (.ref ob52), (.ref ob52)]))
    refine Goes.go (fun _ kk => XS.iload X6.here hx rfl (hb hby at_57) rfl kk) ?_
    show Goes _ _ _ _ _ _ _ (T6.setTop (mkF m 59 _ [(.int (0 : Int32)), (.ref ar1), (.ref ob52), (.ref ob52)]))
    refine Goes.go (fun _ kk => XS.iload X6.here hx rfl (hb hby at_59) rfl kk) ?_
    show Goes _ _ _ _ _ _ _ (T6.setTop (mkF m 61 _ [(.int (2 : Int32)), (.int (0 : Int32)), (.ref ar1), (.ref ob52), (.ref ob52)]))
    obtain ⟨_, _, ⟨T7, L7, k7, n7⟩, -, X7, ⟨Lc7, hQ7, l7, y7, z7⟩, st7⟩ := X6.specialBack hx (y := (⟨"com/example/wide_schema/wideschema/io/BytesInput", "<init>", "([BII)V"⟩ : MethodName)) rfl hown (mvT hZ (hw _ (List.mem_of_getElem? (i := 5) rfl))) (mvT hZ (hw _ (List.mem_of_getElem? (i := 6) rfl))) (mvT hZ (hw _ (List.mem_of_getElem? (i := 7) rfl))) (by decide) (backOf (W := 1) (rm1 l Z a0 hw [] ob52 ar1 (0 : Int32) (2 : Int32) h6 n0 Z6 A6 f_6 f_7 f_8 ge_ob52) hZ (hw _ (List.mem_of_getElem? (i := 7) rfl)) (hw _ (List.mem_of_getElem? (i := 4) rfl)) (by decide) (by decide)) (g := (mkF m 61 #[.val (.int p0), .val (.int p1), .val (.int p2), .val (.ref ar1), .val (.int (0 : Int32)), .val (.int (2 : Int32)), .unset, .unset, .unset, .unset, .unset, .unset, .unset, .unset] [(.int (2 : Int32)), (.int (0 : Int32)), (.ref ar1), (.ref ob52), (.ref ob52)])) rfl (by rw [hml]; rfl) (Steps.refl _) (a := ob52) (argsL := [(.ref ar1), (.int (0 : Int32)), (.int (2 : Int32))]) (rest := [(.ref ob52)]) (lenOf pd0 rfl) rfl (by show 2 * 0 + _ ≤ _; exact Nat.le_of_eq rfl) (hb hby at_61) (fun _ _ => ⟨rfl, e6, (by decide : 2 + 0 ≤ _), (by decide : 7 + 0 ≤ _)⟩)
    dsimp only [Pt.U, Pt.locs, Pt.cells, Pt.slots] at X7 l7 y7 z7 st7 hQ7
    subst l7 y7 z7
    obtain ⟨rfl, Nq7, Kq7, Eq7, Fq7_0, Fq7_1, Fq7_2⟩ := hQ7
    have N7 := Fr.app N5 Nq7
    have Z7 : n0 ≤ T7.heap.size := Nat.le_trans Z6 Kq7.1
    have f_9 := Arl.keep f_5 Kq7 (ninS ne_ar1_ob52 nin0)
    refine Goes.go (fun _ kk => st7.trans kk) ?_
    show Goes _ _ _ _ _ _ _ (T7.setTop (mkF m 64 _ [(.ref ob52)]))
    refine Goes.go (fun _ kk => XS.astore X7.here hx rfl (hb hby at_64) rfl rfl (l' := #[.val (.int p0), .val (.int p1), .val (.int p2), .val (.ref ar1), .val (.int (0 : Int32)), .val (.int (2 : Int32)), .val (.ref ob52), .unset, .unset, .unset, .unset, .unset, .unset, .unset]) rfl kk) ?_
    show Goes _ _ _ _ _ _ _ (T7.setTop (mkF m 66 #[.val (.int p0), .val (.int p1), .val (.int p2), .val (.ref ar1), .val (.int (0 : Int32)), .val (.int (2 : Int32)), .val (.ref ob52), .unset, .unset, .unset, .unset, .unset, .unset, .unset] []))
    refine Goes.go (fun _ kk => XS.aload X7.here hx rfl (hb hby at_66) rfl rfl kk) ?_
    show Goes _ _ _ _ _ _ _ (T7.setTop (mkF m 68 _ [(.ref ob52)]))
    obtain ⟨cq8, kq8, qa8, qb8, qc8⟩ := isOf hZ rfl Eq7
    obtain ⟨_, _, ⟨T8, L8, k8, n8⟩, -, X8, ⟨Lc8, hQ8, l8, y8, z8⟩, st8⟩ := X7.virtualBack hx (y := (⟨"com/example/wide_schema/wideschema/io/BytesInput", "available", "()I"⟩ : MethodName)) (z := (⟨"com/example/wide_schema/wideschema/io/BytesInput", "available", "()I"⟩ : MethodName)) hown (mvT hZ (hw _ (List.mem_of_getElem? (i := 22) rfl))) (mvT hZ (hw _ (List.mem_of_getElem? (i := 23) rfl))) (notFace_of_selects (args := #[]) (mvT hZ (hw _ (List.mem_of_getElem? (i := 25) rfl)))) (mvT hZ (hw _ (List.mem_of_getElem? (i := 25) rfl))) (mvT hZ (hw _ (List.mem_of_getElem? (i := 24) rfl))) (by decide) (backOf (W := 0) (rm3 l Z a0 hw [] ob52 (0 : Int32) (2 : Int32) T7.heap n0 Z7 Fq7_1 Fq7_2) hZ (hw _ (List.mem_of_getElem? (i := 26) rfl)) (hw _ (List.mem_of_getElem? (i := 4) rfl)) (by decide) (by decide)) qa8 qc8 (g := (mkF m 68 #[.val (.int p0), .val (.int p1), .val (.int p2), .val (.ref ar1), .val (.int (0 : Int32)), .val (.int (2 : Int32)), .val (.ref ob52), .unset, .unset, .unset, .unset, .unset, .unset, .unset] [(.ref ob52)])) rfl (by rw [hml]; rfl) (Steps.refl _) (argsL := []) (rest := []) (lenOf pd2 rfl) rfl (by show 2 * 0 + _ ≤ _; exact Nat.le_of_eq rfl) (hb hby at_68) (fun _ _ => ⟨rfl, rfl, (by decide : 2 + 0 ≤ _), (by decide : 7 + 0 ≤ _)⟩)
    dsimp only [Pt.U, Pt.locs, Pt.cells, Pt.slots] at X8 l8 y8 z8 st8 hQ8
    subst l8 y8 z8
    obtain ⟨rfl, Nq8, hh8⟩ := hQ8
    have N8 := Fr.app N7 Nq8
    refine Goes.go (fun _ kk => st8.trans kk) ?_
    show Goes _ _ _ _ _ _ _ (T8.setTop (mkF m 71 _ [(.int (2 : Int32))]))
    refine Goes.go (fun _ kk => XS.iload X8.here hx rfl (hb hby at_71) rfl kk) ?_
    show Goes _ _ _ _ _ _ _ (T8.setTop (mkF m 73 _ [(.int (2 : Int32)), (.int (2 : Int32))]))
    refine Goes.go (fun _ kk => XS.icmpNo X8.here hx rfl (hb hby at_73) rfl (XT.ii_ne_f (by decide)) kk) ?_
    show Goes _ _ _ _ _ _ _ (T8.setTop (mkF m 76 _ []))
    refine Goes.go (fun _ kk => XS.iconst X8.here hx rfl (hb hby at_76) kk) ?_
    show Goes _ _ _ _ _ _ _ (T8.setTop (mkF m 77 _ [(.int (1 : Int32))]))
    refine Goes.go (fun _ kk => XS.goto X8.here hx rfl (pc0 := 77) (pc' := 81) rfl (hb hby at_77) (by decide) (by decide) kk) ?_
    show Goes _ _ _ _ _ _ _ (T8.setTop (mkF m 81 _ [(.int (1 : Int32))]))
    refine Goes.go (fun _ kk => XS.istore X8.here hx rfl (hb hby at_81) rfl (l' := #[.val (.int p0), .val (.int p1), .val (.int p2), .val (.ref ar1), .val (.int (0 : Int32)), .val (.int (2 : Int32)), .val (.ref ob52), .val (.int (1 : Int32)), .unset, .unset, .unset, .unset, .unset, .unset]) rfl kk) ?_
    show Goes _ _ _ _ _ _ _ (T8.setTop (mkF m 83 #[.val (.int p0), .val (.int p1), .val (.int p2), .val (.ref ar1), .val (.int (0 : Int32)), .val (.int (2 : Int32)), .val (.ref ob52), .val (.int (1 : Int32)), .unset, .unset, .unset, .unset, .unset, .unset] []))
    refine Goes.go (fun _ kk => XS.aload X8.here hx rfl (hb hby at_83) rfl rfl kk) ?_
    show Goes _ _ _ _ _ _ _ (T8.setTop (mkF m 85 _ [(.ref ob52)]))
    obtain ⟨cq9, kq9, qa9, qb9, qc9⟩ := isOf hZ hh8 Eq7
    obtain ⟨_, _, ⟨T9, L9, k9, n9⟩, -, X9, ⟨Lc9, hQ9, l9, y9, z9⟩, st9⟩ := X8.virtualBack hx (y := (⟨"com/example/wide_schema/wideschema/io/BytesInput", "read", "()I"⟩ : MethodName)) (z := (⟨"com/example/wide_schema/wideschema/io/BytesInput", "read", "()I"⟩ : MethodName)) hown (mvT hZ (hw _ (List.mem_of_getElem? (i := 27) rfl))) (mvT hZ (hw _ (List.mem_of_getElem? (i := 28) rfl))) (notFace_of_selects (args := #[]) (mvT hZ (hw _ (List.mem_of_getElem? (i := 30) rfl)))) (mvT hZ (hw _ (List.mem_of_getElem? (i := 30) rfl))) (mvT hZ (hw _ (List.mem_of_getElem? (i := 29) rfl))) (by decide) (backOf (W := 0) (rmY l Z a0 hw [] ob52 ar1 _ (0 : Int32) (2 : Int32) (p0).toInt8.toInt32 T7.heap n0 Z7 Eq7 Fq7_0 Fq7_1 Fq7_2 ge_ob52 f_9 (by decide) (by decide) rfl) hZ (hw _ (List.mem_of_getElem? (i := 31) rfl)) (hw _ (List.mem_of_getElem? (i := 4) rfl)) (by decide) (by decide)) qa9 qc9 (g := (mkF m 85 #[.val (.int p0), .val (.int p1), .val (.int p2), .val (.ref ar1), .val (.int (0 : Int32)), .val (.int (2 : Int32)), .val (.ref ob52), .val (.int (1 : Int32)), .unset, .unset, .unset, .unset, .unset, .unset] [(.ref ob52)])) rfl (by rw [hml]; rfl) (Steps.refl _) (argsL := []) (rest := []) (lenOf pd2 rfl) rfl (by show 2 * 0 + _ ≤ _; exact Nat.le_of_eq rfl) (hb hby at_85) (fun _ _ => ⟨rfl, hh8, (by decide : 2 + 0 ≤ _), (by decide : 7 + 0 ≤ _)⟩)
    dsimp only [Pt.U, Pt.locs, Pt.cells, Pt.slots] at X9 l9 y9 z9 st9 hQ9
    subst l9 y9 z9
    obtain ⟨rfl, Nq9, Kq9, Eq9, Fq9_0, Fq9_1, Fq9_2⟩ := hQ9
    have N9 := Fr.app N8 Nq9
    have Z9 : n0 ≤ T9.heap.size := Nat.le_trans Z7 Kq9.1
    have f_10 := Arl.keep f_9 Kq9 (ninS ne_ar1_ob52 nin0)
    refine Goes.go (fun _ kk => st9.trans kk) ?_
    show Goes _ _ _ _ _ _ _ (T9.setTop (mkF m 88 _ [(.int ((p0).toInt8.toInt32 &&& (255 : Int32)))]))
    refine Goes.go (fun _ kk => XS.istore X9.here hx rfl (hb hby at_88) rfl (l' := #[.val (.int p0), .val (.int p1), .val (.int p2), .val (.ref ar1), .val (.int (0 : Int32)), .val (.int (2 : Int32)), .val (.ref ob52), .val (.int (1 : Int32)), .val (.int ((p0).toInt8.toInt32 &&& (255 : Int32))), .unset, .unset, .unset, .unset, .unset]) rfl kk) ?_
    show Goes _ _ _ _ _ _ _ (T9.setTop (mkF m 90 #[.val (.int p0), .val (.int p1), .val (.int p2), .val (.ref ar1), .val (.int (0 : Int32)), .val (.int (2 : Int32)), .val (.ref ob52), .val (.int (1 : Int32)), .val (.int ((p0).toInt8.toInt32 &&& (255 : Int32))), .unset, .unset, .unset, .unset, .unset] []))
    refine Goes.go (fun _ kk => XS.aload X9.here hx rfl (hb hby at_90) rfl rfl kk) ?_
    show Goes _ _ _ _ _ _ _ (T9.setTop (mkF m 92 _ [(.ref ob52)]))
    obtain ⟨cq10, kq10, qa10, qb10, qc10⟩ := isOf hZ rfl Eq9
    obtain ⟨_, _, ⟨T10, L10, k10, n10⟩, -, X10, ⟨Lc10, hQ10, l10, y10, z10⟩, st10⟩ := X9.virtualBack hx (y := (⟨"com/example/wide_schema/wideschema/io/BytesInput", "read", "()I"⟩ : MethodName)) (z := (⟨"com/example/wide_schema/wideschema/io/BytesInput", "read", "()I"⟩ : MethodName)) hown (mvT hZ (hw _ (List.mem_of_getElem? (i := 27) rfl))) (mvT hZ (hw _ (List.mem_of_getElem? (i := 28) rfl))) (notFace_of_selects (args := #[]) (mvT hZ (hw _ (List.mem_of_getElem? (i := 30) rfl)))) (mvT hZ (hw _ (List.mem_of_getElem? (i := 30) rfl))) (mvT hZ (hw _ (List.mem_of_getElem? (i := 29) rfl))) (by decide) (backOf (W := 0) (rmY l Z a0 hw [] ob52 ar1 _ (1 : Int32) (2 : Int32) (((p0).toUInt32 >>> ((8 : Int32) &&& 31).toUInt32).toInt32).toInt8.toInt32 T9.heap n0 Z9 Eq9 Fq9_0 Fq9_1 Fq9_2 ge_ob52 f_10 (by decide) (by decide) rfl) hZ (hw _ (List.mem_of_getElem? (i := 31) rfl)) (hw _ (List.mem_of_getElem? (i := 4) rfl)) (by decide) (by decide)) qa10 qc10 (g := (mkF m 92 #[.val (.int p0), .val (.int p1), .val (.int p2), .val (.ref ar1), .val (.int (0 : Int32)), .val (.int (2 : Int32)), .val (.ref ob52), .val (.int (1 : Int32)), .val (.int ((p0).toInt8.toInt32 &&& (255 : Int32))), .unset, .unset, .unset, .unset, .unset] [(.ref ob52)])) rfl (by rw [hml]; rfl) (Steps.refl _) (argsL := []) (rest := []) (lenOf pd2 rfl) rfl (by show 2 * 0 + _ ≤ _; exact Nat.le_of_eq rfl) (hb hby at_92) (fun _ _ => ⟨rfl, rfl, (by decide : 2 + 0 ≤ _), (by decide : 7 + 0 ≤ _)⟩)
    dsimp only [Pt.U, Pt.locs, Pt.cells, Pt.slots] at X10 l10 y10 z10 st10 hQ10
    subst l10 y10 z10
    obtain ⟨rfl, Nq10, Kq10, Eq10, Fq10_0, Fq10_1, Fq10_2⟩ := hQ10
    have N10 := Fr.app N9 Nq10
    have Z10 : n0 ≤ T10.heap.size := Nat.le_trans Z9 Kq10.1
    have f_11 := Arl.keep f_10 Kq10 (ninS ne_ar1_ob52 nin0)
    refine Goes.go (fun _ kk => st10.trans kk) ?_
    show Goes _ _ _ _ _ _ _ (T10.setTop (mkF m 95 _ [(.int ((((p0).toUInt32 >>> ((8 : Int32) &&& 31).toUInt32).toInt32).toInt8.toInt32 &&& (255 : Int32)))]))
    refine Goes.go (fun _ kk => XS.istore X10.here hx rfl (hb hby at_95) rfl (l' := #[.val (.int p0), .val (.int p1), .val (.int p2), .val (.ref ar1), .val (.int (0 : Int32)), .val (.int (2 : Int32)), .val (.ref ob52), .val (.int (1 : Int32)), .val (.int ((p0).toInt8.toInt32 &&& (255 : Int32))), .val (.int ((((p0).toUInt32 >>> ((8 : Int32) &&& 31).toUInt32).toInt32).toInt8.toInt32 &&& (255 : Int32))), .unset, .unset, .unset, .unset]) rfl kk) ?_
    show Goes _ _ _ _ _ _ _ (T10.setTop (mkF m 97 #[.val (.int p0), .val (.int p1), .val (.int p2), .val (.ref ar1), .val (.int (0 : Int32)), .val (.int (2 : Int32)), .val (.ref ob52), .val (.int (1 : Int32)), .val (.int ((p0).toInt8.toInt32 &&& (255 : Int32))), .val (.int ((((p0).toUInt32 >>> ((8 : Int32) &&& 31).toUInt32).toInt32).toInt8.toInt32 &&& (255 : Int32))), .unset, .unset, .unset, .unset] []))
    refine Goes.go (fun _ kk => XS.aload X10.here hx rfl (hb hby at_97) rfl rfl kk) ?_
    show Goes _ _ _ _ _ _ _ (T10.setTop (mkF m 99 _ [(.ref ob52)]))
    obtain ⟨cq11, kq11, qa11, qb11, qc11⟩ := isOf hZ rfl Eq10
    obtain ⟨_, _, ⟨T11, L11, k11, n11⟩, -, X11, ⟨Lc11, hQ11, l11, y11, z11⟩, st11⟩ := X10.virtualBack hx (y := (⟨"com/example/wide_schema/wideschema/io/BytesInput", "read", "()I"⟩ : MethodName)) (z := (⟨"com/example/wide_schema/wideschema/io/BytesInput", "read", "()I"⟩ : MethodName)) hown (mvT hZ (hw _ (List.mem_of_getElem? (i := 27) rfl))) (mvT hZ (hw _ (List.mem_of_getElem? (i := 28) rfl))) (notFace_of_selects (args := #[]) (mvT hZ (hw _ (List.mem_of_getElem? (i := 30) rfl)))) (mvT hZ (hw _ (List.mem_of_getElem? (i := 30) rfl))) (mvT hZ (hw _ (List.mem_of_getElem? (i := 29) rfl))) (by decide) (backOf (W := 0) (rmN l Z a0 hw [] ob52 (2 : Int32) (2 : Int32) T10.heap n0 Z10 Fq10_1 Fq10_2 (by decide)) hZ (hw _ (List.mem_of_getElem? (i := 31) rfl)) (hw _ (List.mem_of_getElem? (i := 4) rfl)) (by decide) (by decide)) qa11 qc11 (g := (mkF m 99 #[.val (.int p0), .val (.int p1), .val (.int p2), .val (.ref ar1), .val (.int (0 : Int32)), .val (.int (2 : Int32)), .val (.ref ob52), .val (.int (1 : Int32)), .val (.int ((p0).toInt8.toInt32 &&& (255 : Int32))), .val (.int ((((p0).toUInt32 >>> ((8 : Int32) &&& 31).toUInt32).toInt32).toInt8.toInt32 &&& (255 : Int32))), .unset, .unset, .unset, .unset] [(.ref ob52)])) rfl (by rw [hml]; rfl) (Steps.refl _) (argsL := []) (rest := []) (lenOf pd2 rfl) rfl (by show 2 * 0 + _ ≤ _; exact Nat.le_of_eq rfl) (hb hby at_99) (fun _ _ => ⟨rfl, rfl, (by decide : 2 + 0 ≤ _), (by decide : 7 + 0 ≤ _)⟩)
    dsimp only [Pt.U, Pt.locs, Pt.cells, Pt.slots] at X11 l11 y11 z11 st11 hQ11
    subst l11 y11 z11
    obtain ⟨rfl, Nq11, hh11⟩ := hQ11
    have N11 := Fr.app N10 Nq11
    refine Goes.go (fun _ kk => st11.trans kk) ?_
    show Goes _ _ _ _ _ _ _ (T11.setTop (mkF m 102 _ [(.int (-1 : Int32))]))
    refine Goes.go (fun _ kk => XS.istore X11.here hx rfl (hb hby at_102) rfl (l' := #[.val (.int p0), .val (.int p1), .val (.int p2), .val (.ref ar1), .val (.int (0 : Int32)), .val (.int (2 : Int32)), .val (.ref ob52), .val (.int (1 : Int32)), .val (.int ((p0).toInt8.toInt32 &&& (255 : Int32))), .val (.int ((((p0).toUInt32 >>> ((8 : Int32) &&& 31).toUInt32).toInt32).toInt8.toInt32 &&& (255 : Int32))), .val (.int (-1 : Int32)), .unset, .unset, .unset]) rfl kk) ?_
    show Goes _ _ _ _ _ _ _ (T11.setTop (mkF m 104 #[.val (.int p0), .val (.int p1), .val (.int p2), .val (.ref ar1), .val (.int (0 : Int32)), .val (.int (2 : Int32)), .val (.ref ob52), .val (.int (1 : Int32)), .val (.int ((p0).toInt8.toInt32 &&& (255 : Int32))), .val (.int ((((p0).toUInt32 >>> ((8 : Int32) &&& 31).toUInt32).toInt32).toInt8.toInt32 &&& (255 : Int32))), .val (.int (-1 : Int32)), .unset, .unset, .unset] []))
    refine Goes.go (fun _ kk => XS.aload X11.here hx rfl (hb hby at_104) rfl rfl kk) ?_
    show Goes _ _ _ _ _ _ _ (T11.setTop (mkF m 106 _ [(.ref ob52)]))
    obtain ⟨cq12, kq12, qa12, qb12, qc12⟩ := isOf hZ hh11 Eq10
    obtain ⟨_, _, ⟨T12, L12, k12, n12⟩, -, X12, ⟨Lc12, hQ12, l12, y12, z12⟩, st12⟩ := X11.virtualBack hx (y := (⟨"com/example/wide_schema/wideschema/io/BytesInput", "read", "()I"⟩ : MethodName)) (z := (⟨"com/example/wide_schema/wideschema/io/BytesInput", "read", "()I"⟩ : MethodName)) hown (mvT hZ (hw _ (List.mem_of_getElem? (i := 27) rfl))) (mvT hZ (hw _ (List.mem_of_getElem? (i := 28) rfl))) (notFace_of_selects (args := #[]) (mvT hZ (hw _ (List.mem_of_getElem? (i := 30) rfl)))) (mvT hZ (hw _ (List.mem_of_getElem? (i := 30) rfl))) (mvT hZ (hw _ (List.mem_of_getElem? (i := 29) rfl))) (by decide) (backOf (W := 0) (rmN l Z a0 hw [] ob52 (2 : Int32) (2 : Int32) T10.heap n0 Z10 Fq10_1 Fq10_2 (by decide)) hZ (hw _ (List.mem_of_getElem? (i := 31) rfl)) (hw _ (List.mem_of_getElem? (i := 4) rfl)) (by decide) (by decide)) qa12 qc12 (g := (mkF m 106 #[.val (.int p0), .val (.int p1), .val (.int p2), .val (.ref ar1), .val (.int (0 : Int32)), .val (.int (2 : Int32)), .val (.ref ob52), .val (.int (1 : Int32)), .val (.int ((p0).toInt8.toInt32 &&& (255 : Int32))), .val (.int ((((p0).toUInt32 >>> ((8 : Int32) &&& 31).toUInt32).toInt32).toInt8.toInt32 &&& (255 : Int32))), .val (.int (-1 : Int32)), .unset, .unset, .unset] [(.ref ob52)])) rfl (by rw [hml]; rfl) (Steps.refl _) (argsL := []) (rest := []) (lenOf pd2 rfl) rfl (by show 2 * 0 + _ ≤ _; exact Nat.le_of_eq rfl) (hb hby at_106) (fun _ _ => ⟨rfl, hh11, (by decide : 2 + 0 ≤ _), (by decide : 7 + 0 ≤ _)⟩)
    dsimp only [Pt.U, Pt.locs, Pt.cells, Pt.slots] at X12 l12 y12 z12 st12 hQ12
    subst l12 y12 z12
    obtain ⟨rfl, Nq12, hh12⟩ := hQ12
    have N12 := Fr.app N11 Nq12
    refine Goes.go (fun _ kk => st12.trans kk) ?_
    show Goes _ _ _ _ _ _ _ (T12.setTop (mkF m 109 _ [(.int (-1 : Int32))]))
    refine Goes.go (fun _ kk => XS.istore X12.here hx rfl (hb hby at_109) rfl (l' := #[.val (.int p0), .val (.int p1), .val (.int p2), .val (.ref ar1), .val (.int (0 : Int32)), .val (.int (2 : Int32)), .val (.ref ob52), .val (.int (1 : Int32)), .val (.int ((p0).toInt8.toInt32 &&& (255 : Int32))), .val (.int ((((p0).toUInt32 >>> ((8 : Int32) &&& 31).toUInt32).toInt32).toInt8.toInt32 &&& (255 : Int32))), .val (.int (-1 : Int32)), .val (.int (-1 : Int32)), .unset, .unset]) rfl kk) ?_
    show Goes _ _ _ _ _ _ _ (T12.setTop (mkF m 111 #[.val (.int p0), .val (.int p1), .val (.int p2), .val (.ref ar1), .val (.int (0 : Int32)), .val (.int (2 : Int32)), .val (.ref ob52), .val (.int (1 : Int32)), .val (.int ((p0).toInt8.toInt32 &&& (255 : Int32))), .val (.int ((((p0).toUInt32 >>> ((8 : Int32) &&& 31).toUInt32).toInt32).toInt8.toInt32 &&& (255 : Int32))), .val (.int (-1 : Int32)), .val (.int (-1 : Int32)), .unset, .unset] []))
    refine Goes.go (fun _ kk => XS.aload X12.here hx rfl (hb hby at_111) rfl rfl kk) ?_
    show Goes _ _ _ _ _ _ _ (T12.setTop (mkF m 113 _ [(.ref ob52)]))
    obtain ⟨cq13, kq13, qa13, qb13, qc13⟩ := isOf hZ hh12 Eq10
    obtain ⟨_, _, ⟨T13, L13, k13, n13⟩, -, X13, ⟨Lc13, hQ13, l13, y13, z13⟩, st13⟩ := X12.virtualBack hx (y := (⟨"com/example/wide_schema/wideschema/io/BytesInput", "read", "()I"⟩ : MethodName)) (z := (⟨"com/example/wide_schema/wideschema/io/BytesInput", "read", "()I"⟩ : MethodName)) hown (mvT hZ (hw _ (List.mem_of_getElem? (i := 27) rfl))) (mvT hZ (hw _ (List.mem_of_getElem? (i := 28) rfl))) (notFace_of_selects (args := #[]) (mvT hZ (hw _ (List.mem_of_getElem? (i := 30) rfl)))) (mvT hZ (hw _ (List.mem_of_getElem? (i := 30) rfl))) (mvT hZ (hw _ (List.mem_of_getElem? (i := 29) rfl))) (by decide) (backOf (W := 0) (rmN l Z a0 hw [] ob52 (2 : Int32) (2 : Int32) T10.heap n0 Z10 Fq10_1 Fq10_2 (by decide)) hZ (hw _ (List.mem_of_getElem? (i := 31) rfl)) (hw _ (List.mem_of_getElem? (i := 4) rfl)) (by decide) (by decide)) qa13 qc13 (g := (mkF m 113 #[.val (.int p0), .val (.int p1), .val (.int p2), .val (.ref ar1), .val (.int (0 : Int32)), .val (.int (2 : Int32)), .val (.ref ob52), .val (.int (1 : Int32)), .val (.int ((p0).toInt8.toInt32 &&& (255 : Int32))), .val (.int ((((p0).toUInt32 >>> ((8 : Int32) &&& 31).toUInt32).toInt32).toInt8.toInt32 &&& (255 : Int32))), .val (.int (-1 : Int32)), .val (.int (-1 : Int32)), .unset, .unset] [(.ref ob52)])) rfl (by rw [hml]; rfl) (Steps.refl _) (argsL := []) (rest := []) (lenOf pd2 rfl) rfl (by show 2 * 0 + _ ≤ _; exact Nat.le_of_eq rfl) (hb hby at_113) (fun _ _ => ⟨rfl, hh12, (by decide : 2 + 0 ≤ _), (by decide : 7 + 0 ≤ _)⟩)
    dsimp only [Pt.U, Pt.locs, Pt.cells, Pt.slots] at X13 l13 y13 z13 st13 hQ13
    subst l13 y13 z13
    obtain ⟨rfl, Nq13, hh13⟩ := hQ13
    have N13 := Fr.app N12 Nq13
    refine Goes.go (fun _ kk => st13.trans kk) ?_
    show Goes _ _ _ _ _ _ _ (T13.setTop (mkF m 116 _ [(.int (-1 : Int32))]))
    refine Goes.go (fun _ kk => XS.istore X13.here hx rfl (hb hby at_116) rfl (l' := #[.val (.int p0), .val (.int p1), .val (.int p2), .val (.ref ar1), .val (.int (0 : Int32)), .val (.int (2 : Int32)), .val (.ref ob52), .val (.int (1 : Int32)), .val (.int ((p0).toInt8.toInt32 &&& (255 : Int32))), .val (.int ((((p0).toUInt32 >>> ((8 : Int32) &&& 31).toUInt32).toInt32).toInt8.toInt32 &&& (255 : Int32))), .val (.int (-1 : Int32)), .val (.int (-1 : Int32)), .val (.int (-1 : Int32)), .unset]) rfl kk) ?_
    show Goes _ _ _ _ _ _ _ (T13.setTop (mkF m 118 #[.val (.int p0), .val (.int p1), .val (.int p2), .val (.ref ar1), .val (.int (0 : Int32)), .val (.int (2 : Int32)), .val (.ref ob52), .val (.int (1 : Int32)), .val (.int ((p0).toInt8.toInt32 &&& (255 : Int32))), .val (.int ((((p0).toUInt32 >>> ((8 : Int32) &&& 31).toUInt32).toInt32).toInt8.toInt32 &&& (255 : Int32))), .val (.int (-1 : Int32)), .val (.int (-1 : Int32)), .val (.int (-1 : Int32)), .unset] []))
    refine Goes.go (fun _ kk => XS.aload X13.here hx rfl (hb hby at_118) rfl rfl kk) ?_
    show Goes _ _ _ _ _ _ _ (T13.setTop (mkF m 120 _ [(.ref ob52)]))
    obtain ⟨cq14, kq14, qa14, qb14, qc14⟩ := isOf hZ hh13 Eq10
    obtain ⟨_, _, ⟨T14, L14, k14, n14⟩, -, X14, ⟨Lc14, hQ14, l14, y14, z14⟩, st14⟩ := X13.virtualBack hx (y := (⟨"com/example/wide_schema/wideschema/io/BytesInput", "read", "()I"⟩ : MethodName)) (z := (⟨"com/example/wide_schema/wideschema/io/BytesInput", "read", "()I"⟩ : MethodName)) hown (mvT hZ (hw _ (List.mem_of_getElem? (i := 27) rfl))) (mvT hZ (hw _ (List.mem_of_getElem? (i := 28) rfl))) (notFace_of_selects (args := #[]) (mvT hZ (hw _ (List.mem_of_getElem? (i := 30) rfl)))) (mvT hZ (hw _ (List.mem_of_getElem? (i := 30) rfl))) (mvT hZ (hw _ (List.mem_of_getElem? (i := 29) rfl))) (by decide) (backOf (W := 0) (rmN l Z a0 hw [] ob52 (2 : Int32) (2 : Int32) T10.heap n0 Z10 Fq10_1 Fq10_2 (by decide)) hZ (hw _ (List.mem_of_getElem? (i := 31) rfl)) (hw _ (List.mem_of_getElem? (i := 4) rfl)) (by decide) (by decide)) qa14 qc14 (g := (mkF m 120 #[.val (.int p0), .val (.int p1), .val (.int p2), .val (.ref ar1), .val (.int (0 : Int32)), .val (.int (2 : Int32)), .val (.ref ob52), .val (.int (1 : Int32)), .val (.int ((p0).toInt8.toInt32 &&& (255 : Int32))), .val (.int ((((p0).toUInt32 >>> ((8 : Int32) &&& 31).toUInt32).toInt32).toInt8.toInt32 &&& (255 : Int32))), .val (.int (-1 : Int32)), .val (.int (-1 : Int32)), .val (.int (-1 : Int32)), .unset] [(.ref ob52)])) rfl (by rw [hml]; rfl) (Steps.refl _) (argsL := []) (rest := []) (lenOf pd2 rfl) rfl (by show 2 * 0 + _ ≤ _; exact Nat.le_of_eq rfl) (hb hby at_120) (fun _ _ => ⟨rfl, hh13, (by decide : 2 + 0 ≤ _), (by decide : 7 + 0 ≤ _)⟩)
    dsimp only [Pt.U, Pt.locs, Pt.cells, Pt.slots] at X14 l14 y14 z14 st14 hQ14
    subst l14 y14 z14
    obtain ⟨rfl, Nq14, hh14⟩ := hQ14
    have N14 := Fr.app N13 Nq14
    refine Goes.go (fun _ kk => st14.trans kk) ?_
    show Goes _ _ _ _ _ _ _ (T14.setTop (mkF m 123 _ [(.int (-1 : Int32))]))
    refine Goes.go (fun _ kk => XS.istore X14.here hx rfl (hb hby at_123) rfl (l' := #[.val (.int p0), .val (.int p1), .val (.int p2), .val (.ref ar1), .val (.int (0 : Int32)), .val (.int (2 : Int32)), .val (.ref ob52), .val (.int (1 : Int32)), .val (.int ((p0).toInt8.toInt32 &&& (255 : Int32))), .val (.int ((((p0).toUInt32 >>> ((8 : Int32) &&& 31).toUInt32).toInt32).toInt8.toInt32 &&& (255 : Int32))), .val (.int (-1 : Int32)), .val (.int (-1 : Int32)), .val (.int (-1 : Int32)), .val (.int (-1 : Int32))]) rfl kk) ?_
    show Goes _ _ _ _ _ _ _ (T14.setTop (mkF m 125 #[.val (.int p0), .val (.int p1), .val (.int p2), .val (.ref ar1), .val (.int (0 : Int32)), .val (.int (2 : Int32)), .val (.ref ob52), .val (.int (1 : Int32)), .val (.int ((p0).toInt8.toInt32 &&& (255 : Int32))), .val (.int ((((p0).toUInt32 >>> ((8 : Int32) &&& 31).toUInt32).toInt32).toInt8.toInt32 &&& (255 : Int32))), .val (.int (-1 : Int32)), .val (.int (-1 : Int32)), .val (.int (-1 : Int32)), .val (.int (-1 : Int32))] []))
    refine Goes.go (fun _ kk => XS.iload X14.here hx rfl (hb hby at_125) rfl kk) ?_
    show Goes _ _ _ _ _ _ _ (T14.setTop (mkF m 127 _ [(.int (1 : Int32))]))
    refine Goes.go (fun _ kk => XS.ifNo X14.here hx rfl (hb hby at_127) rfl (XT.i0_eq_f (by decide)) kk) ?_
    show Goes _ _ _ _ _ _ _ (T14.setTop (mkF m 130 _ []))
    refine Goes.go (fun _ kk => XS.iload X14.here hx rfl (hb hby at_130) rfl kk) ?_
    show Goes _ _ _ _ _ _ _ (T14.setTop (mkF m 132 _ [(.int ((p0).toInt8.toInt32 &&& (255 : Int32)))]))
    refine Goes.go (fun _ kk => XS.iloadN X14.here hx rfl (hb hby at_132) rfl kk) ?_
    show Goes _ _ _ _ _ _ _ (T14.setTop (mkF m 133 _ [(.int p0), (.int ((p0).toInt8.toInt32 &&& (255 : Int32)))]))
    refine Goes.go (fun _ kk => XS.iload X14.here hx rfl (hb hby at_133) rfl kk) ?_
    show Goes _ _ _ _ _ _ _ (T14.setTop (mkF m 135 _ [(.int (0 : Int32)), (.int p0), (.int ((p0).toInt8.toInt32 &&& (255 : Int32)))]))
    refine Goes.go (fun _ kk => XS.iload X14.here hx rfl (hb hby at_135) rfl kk) ?_
    show Goes _ _ _ _ _ _ _ (T14.setTop (mkF m 137 _ [(.int (2 : Int32)), (.int (0 : Int32)), (.int p0), (.int ((p0).toInt8.toInt32 &&& (255 : Int32)))]))
    refine Goes.go (fun _ kk => XS.iconst X14.here hx rfl (hb hby at_137) kk) ?_
    show Goes _ _ _ _ _ _ _ (T14.setTop (mkF m 138 _ [(.int (0 : Int32)), (.int (2 : Int32)), (.int (0 : Int32)), (.int p0), (.int ((p0).toInt8.toInt32 &&& (255 : Int32)))]))
    obtain ⟨_, _, ⟨T15, L15, k15, n15⟩, -, X15, ⟨Lc15, hQ15, l15, y15, z15⟩, st15⟩ := Jvm.LawKit.callS X14 hx (y := (⟨"com/example/wide_schema/wideschema/io/BytesInputReadPinLaw", "exp", "(IIII)I"⟩ : MethodName)) hown (mvT hZ (hw _ (List.mem_of_getElem? (i := 32) rfl))) (mvT hZ (hw _ (List.mem_of_getElem? (i := 33) rfl))) (mvT hZ (hw _ (List.mem_of_getElem? (i := 34) rfl))) (mvT hZ (hw _ (List.mem_of_getElem? (i := 35) rfl))) (by decide) (backOf (W := 1) (rm5 l Z a0 hw [] p0 (0 : Int32) (2 : Int32) (0 : Int32) T10.heap n0 Z10) hZ (hw _ (List.mem_of_getElem? (i := 35) rfl)) (hw _ (List.mem_of_getElem? (i := 34) rfl)) (by decide) (by decide)) (g := (mkF m 138 #[.val (.int p0), .val (.int p1), .val (.int p2), .val (.ref ar1), .val (.int (0 : Int32)), .val (.int (2 : Int32)), .val (.ref ob52), .val (.int (1 : Int32)), .val (.int ((p0).toInt8.toInt32 &&& (255 : Int32))), .val (.int ((((p0).toUInt32 >>> ((8 : Int32) &&& 31).toUInt32).toInt32).toInt8.toInt32 &&& (255 : Int32))), .val (.int (-1 : Int32)), .val (.int (-1 : Int32)), .val (.int (-1 : Int32)), .val (.int (-1 : Int32))] [(.int (0 : Int32)), (.int (2 : Int32)), (.int (0 : Int32)), (.int p0), (.int ((p0).toInt8.toInt32 &&& (255 : Int32)))])) rfl (by rw [hml]; rfl) (argsL := [(.int p0), (.int (0 : Int32)), (.int (2 : Int32)), (.int (0 : Int32))]) (rest := [(.int ((p0).toInt8.toInt32 &&& (255 : Int32)))]) (lenOf pd3 rfl) rfl (by show 2 * 0 + _ ≤ _; exact Nat.le_of_eq rfl) (hb hby at_138) (fun _ _ => ⟨rfl, hh14, (by decide : 2 + 0 ≤ _), (by decide : 7 + 0 ≤ _)⟩)
    dsimp only [Pt.U, Pt.locs, Pt.cells, Pt.slots] at X15 l15 y15 z15 st15 hQ15
    subst l15 y15 z15
    obtain ⟨rfl, Nq15, hh15⟩ := hQ15
    have N15 := Fr.app N14 Nq15
    refine Goes.go (st15) ?_
    show Goes _ _ _ _ _ _ _ (T15.setTop (mkF m 141 _ [(.int (exF p0 (0 : Int32) (2 : Int32) (0 : Int32))), (.int ((p0).toInt8.toInt32 &&& (255 : Int32)))]))
    refine Goes.go (fun _ kk => XS.icmpNo X15.here hx rfl (hb hby at_141) rfl (XT.ii_ne_f (own_0 (by decide) (by decide))) kk) ?_
    show Goes _ _ _ _ _ _ _ (T15.setTop (mkF m 144 _ []))
    refine Goes.go (fun _ kk => XS.iconst X15.here hx rfl (hb hby at_144) kk) ?_
    show Goes _ _ _ _ _ _ _ (T15.setTop (mkF m 145 _ [(.int (1 : Int32))]))
    refine Goes.go (fun _ kk => XS.goto X15.here hx rfl (pc0 := 145) (pc' := 149) rfl (hb hby at_145) (by decide) (by decide) kk) ?_
    show Goes _ _ _ _ _ _ _ (T15.setTop (mkF m 149 _ [(.int (1 : Int32))]))
    refine Goes.go (fun _ kk => XS.istore X15.here hx rfl (hb hby at_149) rfl (l' := #[.val (.int p0), .val (.int p1), .val (.int p2), .val (.ref ar1), .val (.int (0 : Int32)), .val (.int (2 : Int32)), .val (.ref ob52), .val (.int (1 : Int32)), .val (.int ((p0).toInt8.toInt32 &&& (255 : Int32))), .val (.int ((((p0).toUInt32 >>> ((8 : Int32) &&& 31).toUInt32).toInt32).toInt8.toInt32 &&& (255 : Int32))), .val (.int (-1 : Int32)), .val (.int (-1 : Int32)), .val (.int (-1 : Int32)), .val (.int (-1 : Int32))]) rfl kk) ?_
    show Goes _ _ _ _ _ _ _ (T15.setTop (mkF m 151 _ []))
    refine Goes.go (fun _ kk => XS.iload X15.here hx rfl (hb hby at_151) rfl kk) ?_
    show Goes _ _ _ _ _ _ _ (T15.setTop (mkF m 153 _ [(.int (1 : Int32))]))
    refine Goes.go (fun _ kk => XS.ifNo X15.here hx rfl (hb hby at_153) rfl (XT.i0_eq_f (by decide)) kk) ?_
    show Goes _ _ _ _ _ _ _ (T15.setTop (mkF m 156 _ []))
    refine Goes.go (fun _ kk => XS.iload X15.here hx rfl (hb hby at_156) rfl kk) ?_
    show Goes _ _ _ _ _ _ _ (T15.setTop (mkF m 158 _ [(.int ((((p0).toUInt32 >>> ((8 : Int32) &&& 31).toUInt32).toInt32).toInt8.toInt32 &&& (255 : Int32)))]))
    refine Goes.go (fun _ kk => XS.iloadN X15.here hx rfl (hb hby at_158) rfl kk) ?_
    show Goes _ _ _ _ _ _ _ (T15.setTop (mkF m 159 _ [(.int p0), (.int ((((p0).toUInt32 >>> ((8 : Int32) &&& 31).toUInt32).toInt32).toInt8.toInt32 &&& (255 : Int32)))]))
    refine Goes.go (fun _ kk => XS.iload X15.here hx rfl (hb hby at_159) rfl kk) ?_
    show Goes _ _ _ _ _ _ _ (T15.setTop (mkF m 161 _ [(.int (0 : Int32)), (.int p0), (.int ((((p0).toUInt32 >>> ((8 : Int32) &&& 31).toUInt32).toInt32).toInt8.toInt32 &&& (255 : Int32)))]))
    refine Goes.go (fun _ kk => XS.iload X15.here hx rfl (hb hby at_161) rfl kk) ?_
    show Goes _ _ _ _ _ _ _ (T15.setTop (mkF m 163 _ [(.int (2 : Int32)), (.int (0 : Int32)), (.int p0), (.int ((((p0).toUInt32 >>> ((8 : Int32) &&& 31).toUInt32).toInt32).toInt8.toInt32 &&& (255 : Int32)))]))
    refine Goes.go (fun _ kk => XS.iconst X15.here hx rfl (hb hby at_163) kk) ?_
    show Goes _ _ _ _ _ _ _ (T15.setTop (mkF m 164 _ [(.int (1 : Int32)), (.int (2 : Int32)), (.int (0 : Int32)), (.int p0), (.int ((((p0).toUInt32 >>> ((8 : Int32) &&& 31).toUInt32).toInt32).toInt8.toInt32 &&& (255 : Int32)))]))
    obtain ⟨_, _, ⟨T16, L16, k16, n16⟩, -, X16, ⟨Lc16, hQ16, l16, y16, z16⟩, st16⟩ := Jvm.LawKit.callS X15 hx (y := (⟨"com/example/wide_schema/wideschema/io/BytesInputReadPinLaw", "exp", "(IIII)I"⟩ : MethodName)) hown (mvT hZ (hw _ (List.mem_of_getElem? (i := 32) rfl))) (mvT hZ (hw _ (List.mem_of_getElem? (i := 33) rfl))) (mvT hZ (hw _ (List.mem_of_getElem? (i := 34) rfl))) (mvT hZ (hw _ (List.mem_of_getElem? (i := 35) rfl))) (by decide) (backOf (W := 1) (rm5 l Z a0 hw [] p0 (0 : Int32) (2 : Int32) (1 : Int32) T10.heap n0 Z10) hZ (hw _ (List.mem_of_getElem? (i := 35) rfl)) (hw _ (List.mem_of_getElem? (i := 34) rfl)) (by decide) (by decide)) (g := (mkF m 164 #[.val (.int p0), .val (.int p1), .val (.int p2), .val (.ref ar1), .val (.int (0 : Int32)), .val (.int (2 : Int32)), .val (.ref ob52), .val (.int (1 : Int32)), .val (.int ((p0).toInt8.toInt32 &&& (255 : Int32))), .val (.int ((((p0).toUInt32 >>> ((8 : Int32) &&& 31).toUInt32).toInt32).toInt8.toInt32 &&& (255 : Int32))), .val (.int (-1 : Int32)), .val (.int (-1 : Int32)), .val (.int (-1 : Int32)), .val (.int (-1 : Int32))] [(.int (1 : Int32)), (.int (2 : Int32)), (.int (0 : Int32)), (.int p0), (.int ((((p0).toUInt32 >>> ((8 : Int32) &&& 31).toUInt32).toInt32).toInt8.toInt32 &&& (255 : Int32)))])) rfl (by rw [hml]; rfl) (argsL := [(.int p0), (.int (0 : Int32)), (.int (2 : Int32)), (.int (1 : Int32))]) (rest := [(.int ((((p0).toUInt32 >>> ((8 : Int32) &&& 31).toUInt32).toInt32).toInt8.toInt32 &&& (255 : Int32)))]) (lenOf pd3 rfl) rfl (by show 2 * 0 + _ ≤ _; exact Nat.le_of_eq rfl) (hb hby at_164) (fun _ _ => ⟨rfl, hh15, (by decide : 2 + 0 ≤ _), (by decide : 7 + 0 ≤ _)⟩)
    dsimp only [Pt.U, Pt.locs, Pt.cells, Pt.slots] at X16 l16 y16 z16 st16 hQ16
    subst l16 y16 z16
    obtain ⟨rfl, Nq16, hh16⟩ := hQ16
    have N16 := Fr.app N15 Nq16
    refine Goes.go (st16) ?_
    show Goes _ _ _ _ _ _ _ (T16.setTop (mkF m 167 _ [(.int (exF p0 (0 : Int32) (2 : Int32) (1 : Int32))), (.int ((((p0).toUInt32 >>> ((8 : Int32) &&& 31).toUInt32).toInt32).toInt8.toInt32 &&& (255 : Int32)))]))
    refine Goes.go (fun _ kk => XS.icmpNo X16.here hx rfl (hb hby at_167) rfl (XT.ii_ne_f (own_n (8 : Int32) (by decide) (by decide))) kk) ?_
    show Goes _ _ _ _ _ _ _ (T16.setTop (mkF m 170 _ []))
    refine Goes.go (fun _ kk => XS.iconst X16.here hx rfl (hb hby at_170) kk) ?_
    show Goes _ _ _ _ _ _ _ (T16.setTop (mkF m 171 _ [(.int (1 : Int32))]))
    refine Goes.go (fun _ kk => XS.goto X16.here hx rfl (pc0 := 171) (pc' := 175) rfl (hb hby at_171) (by decide) (by decide) kk) ?_
    show Goes _ _ _ _ _ _ _ (T16.setTop (mkF m 175 _ [(.int (1 : Int32))]))
    refine Goes.go (fun _ kk => XS.istore X16.here hx rfl (hb hby at_175) rfl (l' := #[.val (.int p0), .val (.int p1), .val (.int p2), .val (.ref ar1), .val (.int (0 : Int32)), .val (.int (2 : Int32)), .val (.ref ob52), .val (.int (1 : Int32)), .val (.int ((p0).toInt8.toInt32 &&& (255 : Int32))), .val (.int ((((p0).toUInt32 >>> ((8 : Int32) &&& 31).toUInt32).toInt32).toInt8.toInt32 &&& (255 : Int32))), .val (.int (-1 : Int32)), .val (.int (-1 : Int32)), .val (.int (-1 : Int32)), .val (.int (-1 : Int32))]) rfl kk) ?_
    show Goes _ _ _ _ _ _ _ (T16.setTop (mkF m 177 _ []))
    refine Goes.go (fun _ kk => XS.iload X16.here hx rfl (hb hby at_177) rfl kk) ?_
    show Goes _ _ _ _ _ _ _ (T16.setTop (mkF m 179 _ [(.int (1 : Int32))]))
    refine Goes.go (fun _ kk => XS.ifNo X16.here hx rfl (hb hby at_179) rfl (XT.i0_eq_f (by decide)) kk) ?_
    show Goes _ _ _ _ _ _ _ (T16.setTop (mkF m 182 _ []))
    refine Goes.go (fun _ kk => XS.iload X16.here hx rfl (hb hby at_182) rfl kk) ?_
    show Goes _ _ _ _ _ _ _ (T16.setTop (mkF m 184 _ [(.int (-1 : Int32))]))
    refine Goes.go (fun _ kk => XS.iloadN X16.here hx rfl (hb hby at_184) rfl kk) ?_
    show Goes _ _ _ _ _ _ _ (T16.setTop (mkF m 185 _ [(.int p0), (.int (-1 : Int32))]))
    refine Goes.go (fun _ kk => XS.iload X16.here hx rfl (hb hby at_185) rfl kk) ?_
    show Goes _ _ _ _ _ _ _ (T16.setTop (mkF m 187 _ [(.int (0 : Int32)), (.int p0), (.int (-1 : Int32))]))
    refine Goes.go (fun _ kk => XS.iload X16.here hx rfl (hb hby at_187) rfl kk) ?_
    show Goes _ _ _ _ _ _ _ (T16.setTop (mkF m 189 _ [(.int (2 : Int32)), (.int (0 : Int32)), (.int p0), (.int (-1 : Int32))]))
    refine Goes.go (fun _ kk => XS.iconst X16.here hx rfl (hb hby at_189) kk) ?_
    show Goes _ _ _ _ _ _ _ (T16.setTop (mkF m 190 _ [(.int (2 : Int32)), (.int (2 : Int32)), (.int (0 : Int32)), (.int p0), (.int (-1 : Int32))]))
    obtain ⟨_, _, ⟨T17, L17, k17, n17⟩, -, X17, ⟨Lc17, hQ17, l17, y17, z17⟩, st17⟩ := Jvm.LawKit.callS X16 hx (y := (⟨"com/example/wide_schema/wideschema/io/BytesInputReadPinLaw", "exp", "(IIII)I"⟩ : MethodName)) hown (mvT hZ (hw _ (List.mem_of_getElem? (i := 32) rfl))) (mvT hZ (hw _ (List.mem_of_getElem? (i := 33) rfl))) (mvT hZ (hw _ (List.mem_of_getElem? (i := 34) rfl))) (mvT hZ (hw _ (List.mem_of_getElem? (i := 35) rfl))) (by decide) (backOf (W := 1) (rm5 l Z a0 hw [] p0 (0 : Int32) (2 : Int32) (2 : Int32) T10.heap n0 Z10) hZ (hw _ (List.mem_of_getElem? (i := 35) rfl)) (hw _ (List.mem_of_getElem? (i := 34) rfl)) (by decide) (by decide)) (g := (mkF m 190 #[.val (.int p0), .val (.int p1), .val (.int p2), .val (.ref ar1), .val (.int (0 : Int32)), .val (.int (2 : Int32)), .val (.ref ob52), .val (.int (1 : Int32)), .val (.int ((p0).toInt8.toInt32 &&& (255 : Int32))), .val (.int ((((p0).toUInt32 >>> ((8 : Int32) &&& 31).toUInt32).toInt32).toInt8.toInt32 &&& (255 : Int32))), .val (.int (-1 : Int32)), .val (.int (-1 : Int32)), .val (.int (-1 : Int32)), .val (.int (-1 : Int32))] [(.int (2 : Int32)), (.int (2 : Int32)), (.int (0 : Int32)), (.int p0), (.int (-1 : Int32))])) rfl (by rw [hml]; rfl) (argsL := [(.int p0), (.int (0 : Int32)), (.int (2 : Int32)), (.int (2 : Int32))]) (rest := [(.int (-1 : Int32))]) (lenOf pd3 rfl) rfl (by show 2 * 0 + _ ≤ _; exact Nat.le_of_eq rfl) (hb hby at_190) (fun _ _ => ⟨rfl, hh16, (by decide : 2 + 0 ≤ _), (by decide : 7 + 0 ≤ _)⟩)
    dsimp only [Pt.U, Pt.locs, Pt.cells, Pt.slots] at X17 l17 y17 z17 st17 hQ17
    subst l17 y17 z17
    obtain ⟨rfl, Nq17, hh17⟩ := hQ17
    have N17 := Fr.app N16 Nq17
    refine Goes.go (st17) ?_
    show Goes _ _ _ _ _ _ _ (T17.setTop (mkF m 193 _ [(.int (exF p0 (0 : Int32) (2 : Int32) (2 : Int32))), (.int (-1 : Int32))]))
    refine Goes.go (fun _ kk => XS.icmpNo X17.here hx rfl (hb hby at_193) rfl (XT.ii_ne_f (own_m (by decide))) kk) ?_
    show Goes _ _ _ _ _ _ _ (T17.setTop (mkF m 196 _ []))
    refine Goes.go (fun _ kk => XS.iconst X17.here hx rfl (hb hby at_196) kk) ?_
    show Goes _ _ _ _ _ _ _ (T17.setTop (mkF m 197 _ [(.int (1 : Int32))]))
    refine Goes.go (fun _ kk => XS.goto X17.here hx rfl (pc0 := 197) (pc' := 201) rfl (hb hby at_197) (by decide) (by decide) kk) ?_
    show Goes _ _ _ _ _ _ _ (T17.setTop (mkF m 201 _ [(.int (1 : Int32))]))
    refine Goes.go (fun _ kk => XS.istore X17.here hx rfl (hb hby at_201) rfl (l' := #[.val (.int p0), .val (.int p1), .val (.int p2), .val (.ref ar1), .val (.int (0 : Int32)), .val (.int (2 : Int32)), .val (.ref ob52), .val (.int (1 : Int32)), .val (.int ((p0).toInt8.toInt32 &&& (255 : Int32))), .val (.int ((((p0).toUInt32 >>> ((8 : Int32) &&& 31).toUInt32).toInt32).toInt8.toInt32 &&& (255 : Int32))), .val (.int (-1 : Int32)), .val (.int (-1 : Int32)), .val (.int (-1 : Int32)), .val (.int (-1 : Int32))]) rfl kk) ?_
    show Goes _ _ _ _ _ _ _ (T17.setTop (mkF m 203 _ []))
    refine Goes.go (fun _ kk => XS.iload X17.here hx rfl (hb hby at_203) rfl kk) ?_
    show Goes _ _ _ _ _ _ _ (T17.setTop (mkF m 205 _ [(.int (1 : Int32))]))
    refine Goes.go (fun _ kk => XS.ifNo X17.here hx rfl (hb hby at_205) rfl (XT.i0_eq_f (by decide)) kk) ?_
    show Goes _ _ _ _ _ _ _ (T17.setTop (mkF m 208 _ []))
    refine Goes.go (fun _ kk => XS.iload X17.here hx rfl (hb hby at_208) rfl kk) ?_
    show Goes _ _ _ _ _ _ _ (T17.setTop (mkF m 210 _ [(.int (-1 : Int32))]))
    refine Goes.go (fun _ kk => XS.iloadN X17.here hx rfl (hb hby at_210) rfl kk) ?_
    show Goes _ _ _ _ _ _ _ (T17.setTop (mkF m 211 _ [(.int p0), (.int (-1 : Int32))]))
    refine Goes.go (fun _ kk => XS.iload X17.here hx rfl (hb hby at_211) rfl kk) ?_
    show Goes _ _ _ _ _ _ _ (T17.setTop (mkF m 213 _ [(.int (0 : Int32)), (.int p0), (.int (-1 : Int32))]))
    refine Goes.go (fun _ kk => XS.iload X17.here hx rfl (hb hby at_213) rfl kk) ?_
    show Goes _ _ _ _ _ _ _ (T17.setTop (mkF m 215 _ [(.int (2 : Int32)), (.int (0 : Int32)), (.int p0), (.int (-1 : Int32))]))
    refine Goes.go (fun _ kk => XS.iconst X17.here hx rfl (hb hby at_215) kk) ?_
    show Goes _ _ _ _ _ _ _ (T17.setTop (mkF m 216 _ [(.int (3 : Int32)), (.int (2 : Int32)), (.int (0 : Int32)), (.int p0), (.int (-1 : Int32))]))
    obtain ⟨_, _, ⟨T18, L18, k18, n18⟩, -, X18, ⟨Lc18, hQ18, l18, y18, z18⟩, st18⟩ := Jvm.LawKit.callS X17 hx (y := (⟨"com/example/wide_schema/wideschema/io/BytesInputReadPinLaw", "exp", "(IIII)I"⟩ : MethodName)) hown (mvT hZ (hw _ (List.mem_of_getElem? (i := 32) rfl))) (mvT hZ (hw _ (List.mem_of_getElem? (i := 33) rfl))) (mvT hZ (hw _ (List.mem_of_getElem? (i := 34) rfl))) (mvT hZ (hw _ (List.mem_of_getElem? (i := 35) rfl))) (by decide) (backOf (W := 1) (rm5 l Z a0 hw [] p0 (0 : Int32) (2 : Int32) (3 : Int32) T10.heap n0 Z10) hZ (hw _ (List.mem_of_getElem? (i := 35) rfl)) (hw _ (List.mem_of_getElem? (i := 34) rfl)) (by decide) (by decide)) (g := (mkF m 216 #[.val (.int p0), .val (.int p1), .val (.int p2), .val (.ref ar1), .val (.int (0 : Int32)), .val (.int (2 : Int32)), .val (.ref ob52), .val (.int (1 : Int32)), .val (.int ((p0).toInt8.toInt32 &&& (255 : Int32))), .val (.int ((((p0).toUInt32 >>> ((8 : Int32) &&& 31).toUInt32).toInt32).toInt8.toInt32 &&& (255 : Int32))), .val (.int (-1 : Int32)), .val (.int (-1 : Int32)), .val (.int (-1 : Int32)), .val (.int (-1 : Int32))] [(.int (3 : Int32)), (.int (2 : Int32)), (.int (0 : Int32)), (.int p0), (.int (-1 : Int32))])) rfl (by rw [hml]; rfl) (argsL := [(.int p0), (.int (0 : Int32)), (.int (2 : Int32)), (.int (3 : Int32))]) (rest := [(.int (-1 : Int32))]) (lenOf pd3 rfl) rfl (by show 2 * 0 + _ ≤ _; exact Nat.le_of_eq rfl) (hb hby at_216) (fun _ _ => ⟨rfl, hh17, (by decide : 2 + 0 ≤ _), (by decide : 7 + 0 ≤ _)⟩)
    dsimp only [Pt.U, Pt.locs, Pt.cells, Pt.slots] at X18 l18 y18 z18 st18 hQ18
    subst l18 y18 z18
    obtain ⟨rfl, Nq18, hh18⟩ := hQ18
    have N18 := Fr.app N17 Nq18
    refine Goes.go (st18) ?_
    show Goes _ _ _ _ _ _ _ (T18.setTop (mkF m 219 _ [(.int (exF p0 (0 : Int32) (2 : Int32) (3 : Int32))), (.int (-1 : Int32))]))
    refine Goes.go (fun _ kk => XS.icmpNo X18.here hx rfl (hb hby at_219) rfl (XT.ii_ne_f (own_m (by decide))) kk) ?_
    show Goes _ _ _ _ _ _ _ (T18.setTop (mkF m 222 _ []))
    refine Goes.go (fun _ kk => XS.iconst X18.here hx rfl (hb hby at_222) kk) ?_
    show Goes _ _ _ _ _ _ _ (T18.setTop (mkF m 223 _ [(.int (1 : Int32))]))
    refine Goes.go (fun _ kk => XS.goto X18.here hx rfl (pc0 := 223) (pc' := 227) rfl (hb hby at_223) (by decide) (by decide) kk) ?_
    show Goes _ _ _ _ _ _ _ (T18.setTop (mkF m 227 _ [(.int (1 : Int32))]))
    refine Goes.go (fun _ kk => XS.istore X18.here hx rfl (hb hby at_227) rfl (l' := #[.val (.int p0), .val (.int p1), .val (.int p2), .val (.ref ar1), .val (.int (0 : Int32)), .val (.int (2 : Int32)), .val (.ref ob52), .val (.int (1 : Int32)), .val (.int ((p0).toInt8.toInt32 &&& (255 : Int32))), .val (.int ((((p0).toUInt32 >>> ((8 : Int32) &&& 31).toUInt32).toInt32).toInt8.toInt32 &&& (255 : Int32))), .val (.int (-1 : Int32)), .val (.int (-1 : Int32)), .val (.int (-1 : Int32)), .val (.int (-1 : Int32))]) rfl kk) ?_
    show Goes _ _ _ _ _ _ _ (T18.setTop (mkF m 229 _ []))
    refine Goes.go (fun _ kk => XS.iload X18.here hx rfl (hb hby at_229) rfl kk) ?_
    show Goes _ _ _ _ _ _ _ (T18.setTop (mkF m 231 _ [(.int (1 : Int32))]))
    refine Goes.go (fun _ kk => XS.ifNo X18.here hx rfl (hb hby at_231) rfl (XT.i0_eq_f (by decide)) kk) ?_
    show Goes _ _ _ _ _ _ _ (T18.setTop (mkF m 234 _ []))
    refine Goes.go (fun _ kk => XS.iload X18.here hx rfl (hb hby at_234) rfl kk) ?_
    show Goes _ _ _ _ _ _ _ (T18.setTop (mkF m 236 _ [(.int (-1 : Int32))]))
    refine Goes.go (fun _ kk => XS.iloadN X18.here hx rfl (hb hby at_236) rfl kk) ?_
    show Goes _ _ _ _ _ _ _ (T18.setTop (mkF m 237 _ [(.int p0), (.int (-1 : Int32))]))
    refine Goes.go (fun _ kk => XS.iload X18.here hx rfl (hb hby at_237) rfl kk) ?_
    show Goes _ _ _ _ _ _ _ (T18.setTop (mkF m 239 _ [(.int (0 : Int32)), (.int p0), (.int (-1 : Int32))]))
    refine Goes.go (fun _ kk => XS.iload X18.here hx rfl (hb hby at_239) rfl kk) ?_
    show Goes _ _ _ _ _ _ _ (T18.setTop (mkF m 241 _ [(.int (2 : Int32)), (.int (0 : Int32)), (.int p0), (.int (-1 : Int32))]))
    refine Goes.go (fun _ kk => XS.iconst X18.here hx rfl (hb hby at_241) kk) ?_
    show Goes _ _ _ _ _ _ _ (T18.setTop (mkF m 242 _ [(.int (4 : Int32)), (.int (2 : Int32)), (.int (0 : Int32)), (.int p0), (.int (-1 : Int32))]))
    obtain ⟨_, _, ⟨T19, L19, k19, n19⟩, -, X19, ⟨Lc19, hQ19, l19, y19, z19⟩, st19⟩ := Jvm.LawKit.callS X18 hx (y := (⟨"com/example/wide_schema/wideschema/io/BytesInputReadPinLaw", "exp", "(IIII)I"⟩ : MethodName)) hown (mvT hZ (hw _ (List.mem_of_getElem? (i := 32) rfl))) (mvT hZ (hw _ (List.mem_of_getElem? (i := 33) rfl))) (mvT hZ (hw _ (List.mem_of_getElem? (i := 34) rfl))) (mvT hZ (hw _ (List.mem_of_getElem? (i := 35) rfl))) (by decide) (backOf (W := 1) (rm5 l Z a0 hw [] p0 (0 : Int32) (2 : Int32) (4 : Int32) T10.heap n0 Z10) hZ (hw _ (List.mem_of_getElem? (i := 35) rfl)) (hw _ (List.mem_of_getElem? (i := 34) rfl)) (by decide) (by decide)) (g := (mkF m 242 #[.val (.int p0), .val (.int p1), .val (.int p2), .val (.ref ar1), .val (.int (0 : Int32)), .val (.int (2 : Int32)), .val (.ref ob52), .val (.int (1 : Int32)), .val (.int ((p0).toInt8.toInt32 &&& (255 : Int32))), .val (.int ((((p0).toUInt32 >>> ((8 : Int32) &&& 31).toUInt32).toInt32).toInt8.toInt32 &&& (255 : Int32))), .val (.int (-1 : Int32)), .val (.int (-1 : Int32)), .val (.int (-1 : Int32)), .val (.int (-1 : Int32))] [(.int (4 : Int32)), (.int (2 : Int32)), (.int (0 : Int32)), (.int p0), (.int (-1 : Int32))])) rfl (by rw [hml]; rfl) (argsL := [(.int p0), (.int (0 : Int32)), (.int (2 : Int32)), (.int (4 : Int32))]) (rest := [(.int (-1 : Int32))]) (lenOf pd3 rfl) rfl (by show 2 * 0 + _ ≤ _; exact Nat.le_of_eq rfl) (hb hby at_242) (fun _ _ => ⟨rfl, hh18, (by decide : 2 + 0 ≤ _), (by decide : 7 + 0 ≤ _)⟩)
    dsimp only [Pt.U, Pt.locs, Pt.cells, Pt.slots] at X19 l19 y19 z19 st19 hQ19
    subst l19 y19 z19
    obtain ⟨rfl, Nq19, hh19⟩ := hQ19
    have N19 := Fr.app N18 Nq19
    refine Goes.go (st19) ?_
    show Goes _ _ _ _ _ _ _ (T19.setTop (mkF m 245 _ [(.int (exF p0 (0 : Int32) (2 : Int32) (4 : Int32))), (.int (-1 : Int32))]))
    refine Goes.go (fun _ kk => XS.icmpNo X19.here hx rfl (hb hby at_245) rfl (XT.ii_ne_f (own_m (by decide))) kk) ?_
    show Goes _ _ _ _ _ _ _ (T19.setTop (mkF m 248 _ []))
    refine Goes.go (fun _ kk => XS.iconst X19.here hx rfl (hb hby at_248) kk) ?_
    show Goes _ _ _ _ _ _ _ (T19.setTop (mkF m 249 _ [(.int (1 : Int32))]))
    refine Goes.go (fun _ kk => XS.goto X19.here hx rfl (pc0 := 249) (pc' := 253) rfl (hb hby at_249) (by decide) (by decide) kk) ?_
    show Goes _ _ _ _ _ _ _ (T19.setTop (mkF m 253 _ [(.int (1 : Int32))]))
    refine Goes.go (fun _ kk => XS.istore X19.here hx rfl (hb hby at_253) rfl (l' := #[.val (.int p0), .val (.int p1), .val (.int p2), .val (.ref ar1), .val (.int (0 : Int32)), .val (.int (2 : Int32)), .val (.ref ob52), .val (.int (1 : Int32)), .val (.int ((p0).toInt8.toInt32 &&& (255 : Int32))), .val (.int ((((p0).toUInt32 >>> ((8 : Int32) &&& 31).toUInt32).toInt32).toInt8.toInt32 &&& (255 : Int32))), .val (.int (-1 : Int32)), .val (.int (-1 : Int32)), .val (.int (-1 : Int32)), .val (.int (-1 : Int32))]) rfl kk) ?_
    show Goes _ _ _ _ _ _ _ (T19.setTop (mkF m 255 _ []))
    refine Goes.go (fun _ kk => XS.iload X19.here hx rfl (hb hby at_255) rfl kk) ?_
    show Goes _ _ _ _ _ _ _ (T19.setTop (mkF m 257 _ [(.int (1 : Int32))]))
    refine Goes.go (fun _ kk => XS.ifNo X19.here hx rfl (hb hby at_257) rfl (XT.i0_eq_f (by decide)) kk) ?_
    show Goes _ _ _ _ _ _ _ (T19.setTop (mkF m 260 _ []))
    refine Goes.go (fun _ kk => XS.iload X19.here hx rfl (hb hby at_260) rfl kk) ?_
    show Goes _ _ _ _ _ _ _ (T19.setTop (mkF m 262 _ [(.int (-1 : Int32))]))
    refine Goes.go (fun _ kk => XS.iloadN X19.here hx rfl (hb hby at_262) rfl kk) ?_
    show Goes _ _ _ _ _ _ _ (T19.setTop (mkF m 263 _ [(.int p0), (.int (-1 : Int32))]))
    refine Goes.go (fun _ kk => XS.iload X19.here hx rfl (hb hby at_263) rfl kk) ?_
    show Goes _ _ _ _ _ _ _ (T19.setTop (mkF m 265 _ [(.int (0 : Int32)), (.int p0), (.int (-1 : Int32))]))
    refine Goes.go (fun _ kk => XS.iload X19.here hx rfl (hb hby at_265) rfl kk) ?_
    show Goes _ _ _ _ _ _ _ (T19.setTop (mkF m 267 _ [(.int (2 : Int32)), (.int (0 : Int32)), (.int p0), (.int (-1 : Int32))]))
    refine Goes.go (fun _ kk => XS.iconst X19.here hx rfl (hb hby at_267) kk) ?_
    show Goes _ _ _ _ _ _ _ (T19.setTop (mkF m 268 _ [(.int (5 : Int32)), (.int (2 : Int32)), (.int (0 : Int32)), (.int p0), (.int (-1 : Int32))]))
    obtain ⟨_, _, ⟨T20, L20, k20, n20⟩, -, X20, ⟨Lc20, hQ20, l20, y20, z20⟩, st20⟩ := Jvm.LawKit.callS X19 hx (y := (⟨"com/example/wide_schema/wideschema/io/BytesInputReadPinLaw", "exp", "(IIII)I"⟩ : MethodName)) hown (mvT hZ (hw _ (List.mem_of_getElem? (i := 32) rfl))) (mvT hZ (hw _ (List.mem_of_getElem? (i := 33) rfl))) (mvT hZ (hw _ (List.mem_of_getElem? (i := 34) rfl))) (mvT hZ (hw _ (List.mem_of_getElem? (i := 35) rfl))) (by decide) (backOf (W := 1) (rm5 l Z a0 hw [] p0 (0 : Int32) (2 : Int32) (5 : Int32) T10.heap n0 Z10) hZ (hw _ (List.mem_of_getElem? (i := 35) rfl)) (hw _ (List.mem_of_getElem? (i := 34) rfl)) (by decide) (by decide)) (g := (mkF m 268 #[.val (.int p0), .val (.int p1), .val (.int p2), .val (.ref ar1), .val (.int (0 : Int32)), .val (.int (2 : Int32)), .val (.ref ob52), .val (.int (1 : Int32)), .val (.int ((p0).toInt8.toInt32 &&& (255 : Int32))), .val (.int ((((p0).toUInt32 >>> ((8 : Int32) &&& 31).toUInt32).toInt32).toInt8.toInt32 &&& (255 : Int32))), .val (.int (-1 : Int32)), .val (.int (-1 : Int32)), .val (.int (-1 : Int32)), .val (.int (-1 : Int32))] [(.int (5 : Int32)), (.int (2 : Int32)), (.int (0 : Int32)), (.int p0), (.int (-1 : Int32))])) rfl (by rw [hml]; rfl) (argsL := [(.int p0), (.int (0 : Int32)), (.int (2 : Int32)), (.int (5 : Int32))]) (rest := [(.int (-1 : Int32))]) (lenOf pd3 rfl) rfl (by show 2 * 0 + _ ≤ _; exact Nat.le_of_eq rfl) (hb hby at_268) (fun _ _ => ⟨rfl, hh19, (by decide : 2 + 0 ≤ _), (by decide : 7 + 0 ≤ _)⟩)
    dsimp only [Pt.U, Pt.locs, Pt.cells, Pt.slots] at X20 l20 y20 z20 st20 hQ20
    subst l20 y20 z20
    obtain ⟨rfl, Nq20, hh20⟩ := hQ20
    have N20 := Fr.app N19 Nq20
    refine Goes.go (st20) ?_
    show Goes _ _ _ _ _ _ _ (T20.setTop (mkF m 271 _ [(.int (exF p0 (0 : Int32) (2 : Int32) (5 : Int32))), (.int (-1 : Int32))]))
    refine Goes.go (fun _ kk => XS.icmpNo X20.here hx rfl (hb hby at_271) rfl (XT.ii_ne_f (own_m (by decide))) kk) ?_
    show Goes _ _ _ _ _ _ _ (T20.setTop (mkF m 274 _ []))
    refine Goes.go (fun _ kk => XS.iconst X20.here hx rfl (hb hby at_274) kk) ?_
    show Goes _ _ _ _ _ _ _ (T20.setTop (mkF m 275 _ [(.int (1 : Int32))]))
    refine Goes.go (fun _ kk => XS.goto X20.here hx rfl (pc0 := 275) (pc' := 279) rfl (hb hby at_275) (by decide) (by decide) kk) ?_
    show Goes _ _ _ _ _ _ _ (T20.setTop (mkF m 279 _ [(.int (1 : Int32))]))
    refine Goes.go (fun _ kk => XS.istore X20.here hx rfl (hb hby at_279) rfl (l' := #[.val (.int p0), .val (.int p1), .val (.int p2), .val (.ref ar1), .val (.int (0 : Int32)), .val (.int (2 : Int32)), .val (.ref ob52), .val (.int (1 : Int32)), .val (.int ((p0).toInt8.toInt32 &&& (255 : Int32))), .val (.int ((((p0).toUInt32 >>> ((8 : Int32) &&& 31).toUInt32).toInt32).toInt8.toInt32 &&& (255 : Int32))), .val (.int (-1 : Int32)), .val (.int (-1 : Int32)), .val (.int (-1 : Int32)), .val (.int (-1 : Int32))]) rfl kk) ?_
    show Goes _ _ _ _ _ _ _ (T20.setTop (mkF m 281 _ []))
    refine Goes.go (fun _ kk => XS.iload X20.here hx rfl (hb hby at_281) rfl kk) ?_
    show Goes _ _ _ _ _ _ _ (T20.setTop (mkF m 283 _ [(.int (1 : Int32))]))
    refine Goes.go (fun _ kk => XS.ifNo X20.here hx rfl (hb hby at_283) rfl (XT.i0_eq_f (by decide)) kk) ?_
    show Goes _ _ _ _ _ _ _ (T20.setTop (mkF m 286 _ []))
    refine Goes.go (fun _ kk => XS.aload X20.here hx rfl (hb hby at_286) rfl rfl kk) ?_
    show Goes _ _ _ _ _ _ _ (T20.setTop (mkF m 288 _ [(.ref ob52)]))
    obtain ⟨cq21, kq21, qa21, qb21, qc21⟩ := isOf hZ hh20 Eq10
    obtain ⟨_, _, ⟨T21, L21, k21, n21⟩, -, X21, ⟨Lc21, hQ21, l21, y21, z21⟩, st21⟩ := X20.virtualBack hx (y := (⟨"com/example/wide_schema/wideschema/io/BytesInput", "available", "()I"⟩ : MethodName)) (z := (⟨"com/example/wide_schema/wideschema/io/BytesInput", "available", "()I"⟩ : MethodName)) hown (mvT hZ (hw _ (List.mem_of_getElem? (i := 22) rfl))) (mvT hZ (hw _ (List.mem_of_getElem? (i := 23) rfl))) (notFace_of_selects (args := #[]) (mvT hZ (hw _ (List.mem_of_getElem? (i := 25) rfl)))) (mvT hZ (hw _ (List.mem_of_getElem? (i := 25) rfl))) (mvT hZ (hw _ (List.mem_of_getElem? (i := 24) rfl))) (by decide) (backOf (W := 0) (rm3 l Z a0 hw [] ob52 (2 : Int32) (2 : Int32) T10.heap n0 Z10 Fq10_1 Fq10_2) hZ (hw _ (List.mem_of_getElem? (i := 26) rfl)) (hw _ (List.mem_of_getElem? (i := 4) rfl)) (by decide) (by decide)) qa21 qc21 (g := (mkF m 288 #[.val (.int p0), .val (.int p1), .val (.int p2), .val (.ref ar1), .val (.int (0 : Int32)), .val (.int (2 : Int32)), .val (.ref ob52), .val (.int (1 : Int32)), .val (.int ((p0).toInt8.toInt32 &&& (255 : Int32))), .val (.int ((((p0).toUInt32 >>> ((8 : Int32) &&& 31).toUInt32).toInt32).toInt8.toInt32 &&& (255 : Int32))), .val (.int (-1 : Int32)), .val (.int (-1 : Int32)), .val (.int (-1 : Int32)), .val (.int (-1 : Int32))] [(.ref ob52)])) rfl (by rw [hml]; rfl) (Steps.refl _) (argsL := []) (rest := []) (lenOf pd2 rfl) rfl (by show 2 * 0 + _ ≤ _; exact Nat.le_of_eq rfl) (hb hby at_288) (fun _ _ => ⟨rfl, hh20, (by decide : 2 + 0 ≤ _), (by decide : 7 + 0 ≤ _)⟩)
    dsimp only [Pt.U, Pt.locs, Pt.cells, Pt.slots] at X21 l21 y21 z21 st21 hQ21
    subst l21 y21 z21
    obtain ⟨rfl, Nq21, hh21⟩ := hQ21
    have N21 := Fr.app N20 Nq21
    refine Goes.go (fun _ kk => st21.trans kk) ?_
    show Goes _ _ _ _ _ _ _ (T21.setTop (mkF m 291 _ [(.int (0 : Int32))]))
    refine Goes.go (fun _ kk => XS.ifNo X21.here hx rfl (hb hby at_291) rfl (XT.i0_ne_f (by decide)) kk) ?_
    show Goes _ _ _ _ _ _ _ (T21.setTop (mkF m 294 _ []))
    refine Goes.go (fun _ kk => XS.iconst X21.here hx rfl (hb hby at_294) kk) ?_
    show Goes _ _ _ _ _ _ _ (T21.setTop (mkF m 295 _ [(.int (1 : Int32))]))
    refine Goes.go (fun _ kk => XS.goto X21.here hx rfl (pc0 := 295) (pc' := 299) rfl (hb hby at_295) (by decide) (by decide) kk) ?_
    show Goes _ _ _ _ _ _ _ (T21.setTop (mkF m 299 _ [(.int (1 : Int32))]))
    refine Goes.go (fun _ kk => XS.istore X21.here hx rfl (hb hby at_299) rfl (l' := #[.val (.int p0), .val (.int p1), .val (.int p2), .val (.ref ar1), .val (.int (0 : Int32)), .val (.int (2 : Int32)), .val (.ref ob52), .val (.int (1 : Int32)), .val (.int ((p0).toInt8.toInt32 &&& (255 : Int32))), .val (.int ((((p0).toUInt32 >>> ((8 : Int32) &&& 31).toUInt32).toInt32).toInt8.toInt32 &&& (255 : Int32))), .val (.int (-1 : Int32)), .val (.int (-1 : Int32)), .val (.int (-1 : Int32)), .val (.int (-1 : Int32))]) rfl kk) ?_
    show Goes _ _ _ _ _ _ _ (T21.setTop (mkF m 301 _ []))
    refine Goes.go (fun _ kk => XS.iload X21.here hx rfl (hb hby at_301) rfl kk) ?_
    show Goes _ _ _ _ _ _ _ (T21.setTop (mkF m 303 _ [(.int (1 : Int32))]))
    exact Goes.outZ X21 hx hlk hret rfl (hb hby at_303) hh21 ⟨rfl, N21⟩ (by decide) (by decide)
  · skip
    show Goes _ _ _ _ _ _ _ (T5.setTop (mkF m 52 #[.val (.int p0), .val (.int p1), .val (.int p2), .val (.ref ar1), .val (.int (0 : Int32)), .val (.int (3 : Int32)), .unset, .unset, .unset, .unset, .unset, .unset, .unset, .unset] []))
    obtain ⟨T6, h6, X6, e6, E6, A6, D6, -, st6⟩ := newO X5 hx hZ hown (hw _ (List.mem_of_getElem? (i := 2) rfl)) (hw _ (List.mem_of_getElem? (i := 3) rfl)) (hw _ (List.mem_of_getElem? (i := 4) rfl)) e5 (g := (mkF m 52 #[.val (.int p0), .val (.int p1), .val (.int p2), .val (.ref ar1), .val (.int (0 : Int32)), .val (.int (3 : Int32)), .unset, .unset, .unset, .unset, .unset, .unset, .unset, .unset] [])) rfl (hb hby at_52) (by decide) (by decide)
    obtain ⟨ob52, gob52⟩ : ∃ z, z = h5.size := ⟨_, rfl⟩
    rw [← gob52] at A6 D6 st6
    have ne_ar1_ob52 : ar1 ≠ ob52 := by rw [gob52]; exact Nat.ne_of_lt f_4.lt
    have f_5 := f_4.ext E6
    have Z6 : n0 ≤ h6.size := Nat.le_trans Z5 E6.1
    have ge_ob52 : n0 ≤ ob52 := Nat.le_trans Z5 (Nat.le_of_eq gob52.symm)
    have f_6 : Fld Z h6 ob52 "com/example/wide_schema/wideschema/io/BytesInput" "_bytes" "[B" .null := D6 (Or.inr (hw _ (List.mem_of_getElem? (i := 17) rfl))) (ty := (.array .byte)) (by decide)
    have f_7 : Fld Z h6 ob52 "com/example/wide_schema/wideschema/io/BytesInput" "_next" "I" (.int (0 : Int32)) := D6 (Or.inl (hw _ (List.mem_of_getElem? (i := 19) rfl))) (ty := .int) (by decide)
    have f_8 : Fld Z h6 ob52 "com/example/wide_schema/wideschema/io/BytesInput" "_end" "I" (.int (0 : Int32)) := D6 (Or.inr (hw _ (List.mem_of_getElem? (i := 21) rfl))) (ty := .int) (by decide)
    refine Goes.go (st6) ?_
    show Goes _ _ _ _ _ _ _ (T6.setTop (mkF m 55 _ [(.ref ob52)]))
    refine Goes.go (fun _ kk => XS.dup X6.here hx rfl (hb hby at_55) rfl rfl kk) ?_
    show Goes _ _ _ _ _ _ _ (T6.setTop (mkF m 56 _ [(.ref ob52), (.ref ob52)]))
    refine Goes.go (fun _ kk => XS.aloadN X6.here hx rfl (hb hby at_56) rfl rfl kk) ?_
    show Goes _ _ _ _ _ _ _ (T6.setTop (mkF m 57 _ [(.ref ar1), (.ref ob52), (.ref ob52)]))
    refine Goes.go (fun _ kk => XS.iload X6.here hx rfl (hb hby at_57) rfl kk) ?_
    show Goes _ _ _ _ _ _ _ (T6.setTop (mkF m 59 _ [(.int (0 : Int32)), (.ref ar1), (.ref ob52), (.ref ob52)]))
    refine Goes.go (fun _ kk => XS.iload X6.here hx rfl (hb hby at_59) rfl kk) ?_
    show Goes _ _ _ _ _ _ _ (T6.setTop (mkF m 61 _ [(.int (3 : Int32)), (.int (0 : Int32)), (.ref ar1), (.ref ob52), (.ref ob52)]))
    obtain ⟨_, _, ⟨T7, L7, k7, n7⟩, -, X7, ⟨Lc7, hQ7, l7, y7, z7⟩, st7⟩ := X6.specialBack hx (y := (⟨"com/example/wide_schema/wideschema/io/BytesInput", "<init>", "([BII)V"⟩ : MethodName)) rfl hown (mvT hZ (hw _ (List.mem_of_getElem? (i := 5) rfl))) (mvT hZ (hw _ (List.mem_of_getElem? (i := 6) rfl))) (mvT hZ (hw _ (List.mem_of_getElem? (i := 7) rfl))) (by decide) (backOf (W := 1) (rm1 l Z a0 hw [] ob52 ar1 (0 : Int32) (3 : Int32) h6 n0 Z6 A6 f_6 f_7 f_8 ge_ob52) hZ (hw _ (List.mem_of_getElem? (i := 7) rfl)) (hw _ (List.mem_of_getElem? (i := 4) rfl)) (by decide) (by decide)) (g := (mkF m 61 #[.val (.int p0), .val (.int p1), .val (.int p2), .val (.ref ar1), .val (.int (0 : Int32)), .val (.int (3 : Int32)), .unset, .unset, .unset, .unset, .unset, .unset, .unset, .unset] [(.int (3 : Int32)), (.int (0 : Int32)), (.ref ar1), (.ref ob52), (.ref ob52)])) rfl (by rw [hml]; rfl) (Steps.refl _) (a := ob52) (argsL := [(.ref ar1), (.int (0 : Int32)), (.int (3 : Int32))]) (rest := [(.ref ob52)]) (lenOf pd0 rfl) rfl (by show 2 * 0 + _ ≤ _; exact Nat.le_of_eq rfl) (hb hby at_61) (fun _ _ => ⟨rfl, e6, (by decide : 2 + 0 ≤ _), (by decide : 7 + 0 ≤ _)⟩)
    dsimp only [Pt.U, Pt.locs, Pt.cells, Pt.slots] at X7 l7 y7 z7 st7 hQ7
    subst l7 y7 z7
    obtain ⟨rfl, Nq7, Kq7, Eq7, Fq7_0, Fq7_1, Fq7_2⟩ := hQ7
    have N7 := Fr.app N5 Nq7
    have Z7 : n0 ≤ T7.heap.size := Nat.le_trans Z6 Kq7.1
    have f_9 := Arl.keep f_5 Kq7 (ninS ne_ar1_ob52 nin0)
    refine Goes.go (fun _ kk => st7.trans kk) ?_
    show Goes _ _ _ _ _ _ _ (T7.setTop (mkF m 64 _ [(.ref ob52)]))
    refine Goes.go (fun _ kk => XS.astore X7.here hx rfl (hb hby at_64) rfl rfl (l' := #[.val (.int p0), .val (.int p1), .val (.int p2), .val (.ref ar1), .val (.int (0 : Int32)), .val (.int (3 : Int32)), .val (.ref ob52), .unset, .unset, .unset, .unset, .unset, .unset, .unset]) rfl kk) ?_
    show Goes _ _ _ _ _ _ _ (T7.setTop (mkF m 66 #[.val (.int p0), .val (.int p1), .val (.int p2), .val (.ref ar1), .val (.int (0 : Int32)), .val (.int (3 : Int32)), .val (.ref ob52), .unset, .unset, .unset, .unset, .unset, .unset, .unset] []))
    refine Goes.go (fun _ kk => XS.aload X7.here hx rfl (hb hby at_66) rfl rfl kk) ?_
    show Goes _ _ _ _ _ _ _ (T7.setTop (mkF m 68 _ [(.ref ob52)]))
    obtain ⟨cq8, kq8, qa8, qb8, qc8⟩ := isOf hZ rfl Eq7
    obtain ⟨_, _, ⟨T8, L8, k8, n8⟩, -, X8, ⟨Lc8, hQ8, l8, y8, z8⟩, st8⟩ := X7.virtualBack hx (y := (⟨"com/example/wide_schema/wideschema/io/BytesInput", "available", "()I"⟩ : MethodName)) (z := (⟨"com/example/wide_schema/wideschema/io/BytesInput", "available", "()I"⟩ : MethodName)) hown (mvT hZ (hw _ (List.mem_of_getElem? (i := 22) rfl))) (mvT hZ (hw _ (List.mem_of_getElem? (i := 23) rfl))) (notFace_of_selects (args := #[]) (mvT hZ (hw _ (List.mem_of_getElem? (i := 25) rfl)))) (mvT hZ (hw _ (List.mem_of_getElem? (i := 25) rfl))) (mvT hZ (hw _ (List.mem_of_getElem? (i := 24) rfl))) (by decide) (backOf (W := 0) (rm3 l Z a0 hw [] ob52 (0 : Int32) (3 : Int32) T7.heap n0 Z7 Fq7_1 Fq7_2) hZ (hw _ (List.mem_of_getElem? (i := 26) rfl)) (hw _ (List.mem_of_getElem? (i := 4) rfl)) (by decide) (by decide)) qa8 qc8 (g := (mkF m 68 #[.val (.int p0), .val (.int p1), .val (.int p2), .val (.ref ar1), .val (.int (0 : Int32)), .val (.int (3 : Int32)), .val (.ref ob52), .unset, .unset, .unset, .unset, .unset, .unset, .unset] [(.ref ob52)])) rfl (by rw [hml]; rfl) (Steps.refl _) (argsL := []) (rest := []) (lenOf pd2 rfl) rfl (by show 2 * 0 + _ ≤ _; exact Nat.le_of_eq rfl) (hb hby at_68) (fun _ _ => ⟨rfl, rfl, (by decide : 2 + 0 ≤ _), (by decide : 7 + 0 ≤ _)⟩)
    dsimp only [Pt.U, Pt.locs, Pt.cells, Pt.slots] at X8 l8 y8 z8 st8 hQ8
    subst l8 y8 z8
    obtain ⟨rfl, Nq8, hh8⟩ := hQ8
    have N8 := Fr.app N7 Nq8
    refine Goes.go (fun _ kk => st8.trans kk) ?_
    show Goes _ _ _ _ _ _ _ (T8.setTop (mkF m 71 _ [(.int (3 : Int32))]))
    refine Goes.go (fun _ kk => XS.iload X8.here hx rfl (hb hby at_71) rfl kk) ?_
    show Goes _ _ _ _ _ _ _ (T8.setTop (mkF m 73 _ [(.int (3 : Int32)), (.int (3 : Int32))]))
    refine Goes.go (fun _ kk => XS.icmpNo X8.here hx rfl (hb hby at_73) rfl (XT.ii_ne_f (by decide)) kk) ?_
    show Goes _ _ _ _ _ _ _ (T8.setTop (mkF m 76 _ []))
    refine Goes.go (fun _ kk => XS.iconst X8.here hx rfl (hb hby at_76) kk) ?_
    show Goes _ _ _ _ _ _ _ (T8.setTop (mkF m 77 _ [(.int (1 : Int32))]))
    refine Goes.go (fun _ kk => XS.goto X8.here hx rfl (pc0 := 77) (pc' := 81) rfl (hb hby at_77) (by decide) (by decide) kk) ?_
    show Goes _ _ _ _ _ _ _ (T8.setTop (mkF m 81 _ [(.int (1 : Int32))]))
    refine Goes.go (fun _ kk => XS.istore X8.here hx rfl (hb hby at_81) rfl (l' := #[.val (.int p0), .val (.int p1), .val (.int p2), .val (.ref ar1), .val (.int (0 : Int32)), .val (.int (3 : Int32)), .val (.ref ob52), .val (.int (1 : Int32)), .unset, .unset, .unset, .unset, .unset, .unset]) rfl kk) ?_
    show Goes _ _ _ _ _ _ _ (T8.setTop (mkF m 83 #[.val (.int p0), .val (.int p1), .val (.int p2), .val (.ref ar1), .val (.int (0 : Int32)), .val (.int (3 : Int32)), .val (.ref ob52), .val (.int (1 : Int32)), .unset, .unset, .unset, .unset, .unset, .unset] []))
    refine Goes.go (fun _ kk => XS.aload X8.here hx rfl (hb hby at_83) rfl rfl kk) ?_
    show Goes _ _ _ _ _ _ _ (T8.setTop (mkF m 85 _ [(.ref ob52)]))
    obtain ⟨cq9, kq9, qa9, qb9, qc9⟩ := isOf hZ hh8 Eq7
    obtain ⟨_, _, ⟨T9, L9, k9, n9⟩, -, X9, ⟨Lc9, hQ9, l9, y9, z9⟩, st9⟩ := X8.virtualBack hx (y := (⟨"com/example/wide_schema/wideschema/io/BytesInput", "read", "()I"⟩ : MethodName)) (z := (⟨"com/example/wide_schema/wideschema/io/BytesInput", "read", "()I"⟩ : MethodName)) hown (mvT hZ (hw _ (List.mem_of_getElem? (i := 27) rfl))) (mvT hZ (hw _ (List.mem_of_getElem? (i := 28) rfl))) (notFace_of_selects (args := #[]) (mvT hZ (hw _ (List.mem_of_getElem? (i := 30) rfl)))) (mvT hZ (hw _ (List.mem_of_getElem? (i := 30) rfl))) (mvT hZ (hw _ (List.mem_of_getElem? (i := 29) rfl))) (by decide) (backOf (W := 0) (rmY l Z a0 hw [] ob52 ar1 _ (0 : Int32) (3 : Int32) (p0).toInt8.toInt32 T7.heap n0 Z7 Eq7 Fq7_0 Fq7_1 Fq7_2 ge_ob52 f_9 (by decide) (by decide) rfl) hZ (hw _ (List.mem_of_getElem? (i := 31) rfl)) (hw _ (List.mem_of_getElem? (i := 4) rfl)) (by decide) (by decide)) qa9 qc9 (g := (mkF m 85 #[.val (.int p0), .val (.int p1), .val (.int p2), .val (.ref ar1), .val (.int (0 : Int32)), .val (.int (3 : Int32)), .val (.ref ob52), .val (.int (1 : Int32)), .unset, .unset, .unset, .unset, .unset, .unset] [(.ref ob52)])) rfl (by rw [hml]; rfl) (Steps.refl _) (argsL := []) (rest := []) (lenOf pd2 rfl) rfl (by show 2 * 0 + _ ≤ _; exact Nat.le_of_eq rfl) (hb hby at_85) (fun _ _ => ⟨rfl, hh8, (by decide : 2 + 0 ≤ _), (by decide : 7 + 0 ≤ _)⟩)
    dsimp only [Pt.U, Pt.locs, Pt.cells, Pt.slots] at X9 l9 y9 z9 st9 hQ9
    subst l9 y9 z9
    obtain ⟨rfl, Nq9, Kq9, Eq9, Fq9_0, Fq9_1, Fq9_2⟩ := hQ9
    have N9 := Fr.app N8 Nq9
    have Z9 : n0 ≤ T9.heap.size := Nat.le_trans Z7 Kq9.1
    have f_10 := Arl.keep f_9 Kq9 (ninS ne_ar1_ob52 nin0)
    refine Goes.go (fun _ kk => st9.trans kk) ?_
    show Goes _ _ _ _ _ _ _ (T9.setTop (mkF m 88 _ [(.int ((p0).toInt8.toInt32 &&& (255 : Int32)))]))
    refine Goes.go (fun _ kk => XS.istore X9.here hx rfl (hb hby at_88) rfl (l' := #[.val (.int p0), .val (.int p1), .val (.int p2), .val (.ref ar1), .val (.int (0 : Int32)), .val (.int (3 : Int32)), .val (.ref ob52), .val (.int (1 : Int32)), .val (.int ((p0).toInt8.toInt32 &&& (255 : Int32))), .unset, .unset, .unset, .unset, .unset]) rfl kk) ?_
    show Goes _ _ _ _ _ _ _ (T9.setTop (mkF m 90 #[.val (.int p0), .val (.int p1), .val (.int p2), .val (.ref ar1), .val (.int (0 : Int32)), .val (.int (3 : Int32)), .val (.ref ob52), .val (.int (1 : Int32)), .val (.int ((p0).toInt8.toInt32 &&& (255 : Int32))), .unset, .unset, .unset, .unset, .unset] []))
    refine Goes.go (fun _ kk => XS.aload X9.here hx rfl (hb hby at_90) rfl rfl kk) ?_
    show Goes _ _ _ _ _ _ _ (T9.setTop (mkF m 92 _ [(.ref ob52)]))
    obtain ⟨cq10, kq10, qa10, qb10, qc10⟩ := isOf hZ rfl Eq9
    obtain ⟨_, _, ⟨T10, L10, k10, n10⟩, -, X10, ⟨Lc10, hQ10, l10, y10, z10⟩, st10⟩ := X9.virtualBack hx (y := (⟨"com/example/wide_schema/wideschema/io/BytesInput", "read", "()I"⟩ : MethodName)) (z := (⟨"com/example/wide_schema/wideschema/io/BytesInput", "read", "()I"⟩ : MethodName)) hown (mvT hZ (hw _ (List.mem_of_getElem? (i := 27) rfl))) (mvT hZ (hw _ (List.mem_of_getElem? (i := 28) rfl))) (notFace_of_selects (args := #[]) (mvT hZ (hw _ (List.mem_of_getElem? (i := 30) rfl)))) (mvT hZ (hw _ (List.mem_of_getElem? (i := 30) rfl))) (mvT hZ (hw _ (List.mem_of_getElem? (i := 29) rfl))) (by decide) (backOf (W := 0) (rmY l Z a0 hw [] ob52 ar1 _ (1 : Int32) (3 : Int32) (((p0).toUInt32 >>> ((8 : Int32) &&& 31).toUInt32).toInt32).toInt8.toInt32 T9.heap n0 Z9 Eq9 Fq9_0 Fq9_1 Fq9_2 ge_ob52 f_10 (by decide) (by decide) rfl) hZ (hw _ (List.mem_of_getElem? (i := 31) rfl)) (hw _ (List.mem_of_getElem? (i := 4) rfl)) (by decide) (by decide)) qa10 qc10 (g := (mkF m 92 #[.val (.int p0), .val (.int p1), .val (.int p2), .val (.ref ar1), .val (.int (0 : Int32)), .val (.int (3 : Int32)), .val (.ref ob52), .val (.int (1 : Int32)), .val (.int ((p0).toInt8.toInt32 &&& (255 : Int32))), .unset, .unset, .unset, .unset, .unset] [(.ref ob52)])) rfl (by rw [hml]; rfl) (Steps.refl _) (argsL := []) (rest := []) (lenOf pd2 rfl) rfl (by show 2 * 0 + _ ≤ _; exact Nat.le_of_eq rfl) (hb hby at_92) (fun _ _ => ⟨rfl, rfl, (by decide : 2 + 0 ≤ _), (by decide : 7 + 0 ≤ _)⟩)
    dsimp only [Pt.U, Pt.locs, Pt.cells, Pt.slots] at X10 l10 y10 z10 st10 hQ10
    subst l10 y10 z10
    obtain ⟨rfl, Nq10, Kq10, Eq10, Fq10_0, Fq10_1, Fq10_2⟩ := hQ10
    have N10 := Fr.app N9 Nq10
    have Z10 : n0 ≤ T10.heap.size := Nat.le_trans Z9 Kq10.1
    have f_11 := Arl.keep f_10 Kq10 (ninS ne_ar1_ob52 nin0)
    refine Goes.go (fun _ kk => st10.trans kk) ?_
    show Goes _ _ _ _ _ _ _ (T10.setTop (mkF m 95 _ [(.int ((((p0).toUInt32 >>> ((8 : Int32) &&& 31).toUInt32).toInt32).toInt8.toInt32 &&& (255 : Int32)))]))
    refine Goes.go (fun _ kk => XS.istore X10.here hx rfl (hb hby at_95) rfl (l' := #[.val (.int p0), .val (.int p1), .val (.int p2), .val (.ref ar1), .val (.int (0 : Int32)), .val (.int (3 : Int32)), .val (.ref ob52), .val (.int (1 : Int32)), .val (.int ((p0).toInt8.toInt32 &&& (255 : Int32))), .val (.int ((((p0).toUInt32 >>> ((8 : Int32) &&& 31).toUInt32).toInt32).toInt8.toInt32 &&& (255 : Int32))), .unset, .unset, .unset, .unset]) rfl kk) ?_
    show Goes _ _ _ _ _ _ _ (T10.setTop (mkF m 97 #[.val (.int p0), .val (.int p1), .val (.int p2), .val (.ref ar1), .val (.int (0 : Int32)), .val (.int (3 : Int32)), .val (.ref ob52), .val (.int (1 : Int32)), .val (.int ((p0).toInt8.toInt32 &&& (255 : Int32))), .val (.int ((((p0).toUInt32 >>> ((8 : Int32) &&& 31).toUInt32).toInt32).toInt8.toInt32 &&& (255 : Int32))), .unset, .unset, .unset, .unset] []))
    refine Goes.go (fun _ kk => XS.aload X10.here hx rfl (hb hby at_97) rfl rfl kk) ?_
    show Goes _ _ _ _ _ _ _ (T10.setTop (mkF m 99 _ [(.ref ob52)]))
    obtain ⟨cq11, kq11, qa11, qb11, qc11⟩ := isOf hZ rfl Eq10
    obtain ⟨_, _, ⟨T11, L11, k11, n11⟩, -, X11, ⟨Lc11, hQ11, l11, y11, z11⟩, st11⟩ := X10.virtualBack hx (y := (⟨"com/example/wide_schema/wideschema/io/BytesInput", "read", "()I"⟩ : MethodName)) (z := (⟨"com/example/wide_schema/wideschema/io/BytesInput", "read", "()I"⟩ : MethodName)) hown (mvT hZ (hw _ (List.mem_of_getElem? (i := 27) rfl))) (mvT hZ (hw _ (List.mem_of_getElem? (i := 28) rfl))) (notFace_of_selects (args := #[]) (mvT hZ (hw _ (List.mem_of_getElem? (i := 30) rfl)))) (mvT hZ (hw _ (List.mem_of_getElem? (i := 30) rfl))) (mvT hZ (hw _ (List.mem_of_getElem? (i := 29) rfl))) (by decide) (backOf (W := 0) (rmY l Z a0 hw [] ob52 ar1 _ (2 : Int32) (3 : Int32) (((p0).toUInt32 >>> ((16 : Int32) &&& 31).toUInt32).toInt32).toInt8.toInt32 T10.heap n0 Z10 Eq10 Fq10_0 Fq10_1 Fq10_2 ge_ob52 f_11 (by decide) (by decide) rfl) hZ (hw _ (List.mem_of_getElem? (i := 31) rfl)) (hw _ (List.mem_of_getElem? (i := 4) rfl)) (by decide) (by decide)) qa11 qc11 (g := (mkF m 99 #[.val (.int p0), .val (.int p1), .val (.int p2), .val (.ref ar1), .val (.int (0 : Int32)), .val (.int (3 : Int32)), .val (.ref ob52), .val (.int (1 : Int32)), .val (.int ((p0).toInt8.toInt32 &&& (255 : Int32))), .val (.int ((((p0).toUInt32 >>> ((8 : Int32) &&& 31).toUInt32).toInt32).toInt8.toInt32 &&& (255 : Int32))), .unset, .unset, .unset, .unset] [(.ref ob52)])) rfl (by rw [hml]; rfl) (Steps.refl _) (argsL := []) (rest := []) (lenOf pd2 rfl) rfl (by show 2 * 0 + _ ≤ _; exact Nat.le_of_eq rfl) (hb hby at_99) (fun _ _ => ⟨rfl, rfl, (by decide : 2 + 0 ≤ _), (by decide : 7 + 0 ≤ _)⟩)
    dsimp only [Pt.U, Pt.locs, Pt.cells, Pt.slots] at X11 l11 y11 z11 st11 hQ11
    subst l11 y11 z11
    obtain ⟨rfl, Nq11, Kq11, Eq11, Fq11_0, Fq11_1, Fq11_2⟩ := hQ11
    have N11 := Fr.app N10 Nq11
    have Z11 : n0 ≤ T11.heap.size := Nat.le_trans Z10 Kq11.1
    have f_12 := Arl.keep f_11 Kq11 (ninS ne_ar1_ob52 nin0)
    refine Goes.go (fun _ kk => st11.trans kk) ?_
    show Goes _ _ _ _ _ _ _ (T11.setTop (mkF m 102 _ [(.int ((((p0).toUInt32 >>> ((16 : Int32) &&& 31).toUInt32).toInt32).toInt8.toInt32 &&& (255 : Int32)))]))
    refine Goes.go (fun _ kk => XS.istore X11.here hx rfl (hb hby at_102) rfl (l' := #[.val (.int p0), .val (.int p1), .val (.int p2), .val (.ref ar1), .val (.int (0 : Int32)), .val (.int (3 : Int32)), .val (.ref ob52), .val (.int (1 : Int32)), .val (.int ((p0).toInt8.toInt32 &&& (255 : Int32))), .val (.int ((((p0).toUInt32 >>> ((8 : Int32) &&& 31).toUInt32).toInt32).toInt8.toInt32 &&& (255 : Int32))), .val (.int ((((p0).toUInt32 >>> ((16 : Int32) &&& 31).toUInt32).toInt32).toInt8.toInt32 &&& (255 : Int32))), .unset, .unset, .unset]) rfl kk) ?_
    show Goes _ _ _ _ _ _ _ (T11.setTop (mkF m 104 #[.val (.int p0), .val (.int p1), .val (.int p2), .val (.ref ar1), .val (.int (0 : Int32)), .val (.int (3 : Int32)), .val (.ref ob52), .val (.int (1 : Int32)), .val (.int ((p0).toInt8.toInt32 &&& (255 : Int32))), .val (.int ((((p0).toUInt32 >>> ((8 : Int32) &&& 31).toUInt32).toInt32).toInt8.toInt32 &&& (255 : Int32))), .val (.int ((((p0).toUInt32 >>> ((16 : Int32) &&& 31).toUInt32).toInt32).toInt8.toInt32 &&& (255 : Int32))), .unset, .unset, .unset] []))
    refine Goes.go (fun _ kk => XS.aload X11.here hx rfl (hb hby at_104) rfl rfl kk) ?_
    show Goes _ _ _ _ _ _ _ (T11.setTop (mkF m 106 _ [(.ref ob52)]))
    obtain ⟨cq12, kq12, qa12, qb12, qc12⟩ := isOf hZ rfl Eq11
    obtain ⟨_, _, ⟨T12, L12, k12, n12⟩, -, X12, ⟨Lc12, hQ12, l12, y12, z12⟩, st12⟩ := X11.virtualBack hx (y := (⟨"com/example/wide_schema/wideschema/io/BytesInput", "read", "()I"⟩ : MethodName)) (z := (⟨"com/example/wide_schema/wideschema/io/BytesInput", "read", "()I"⟩ : MethodName)) hown (mvT hZ (hw _ (List.mem_of_getElem? (i := 27) rfl))) (mvT hZ (hw _ (List.mem_of_getElem? (i := 28) rfl))) (notFace_of_selects (args := #[]) (mvT hZ (hw _ (List.mem_of_getElem? (i := 30) rfl)))) (mvT hZ (hw _ (List.mem_of_getElem? (i := 30) rfl))) (mvT hZ (hw _ (List.mem_of_getElem? (i := 29) rfl))) (by decide) (backOf (W := 0) (rmN l Z a0 hw [] ob52 (3 : Int32) (3 : Int32) T11.heap n0 Z11 Fq11_1 Fq11_2 (by decide)) hZ (hw _ (List.mem_of_getElem? (i := 31) rfl)) (hw _ (List.mem_of_getElem? (i := 4) rfl)) (by decide) (by decide)) qa12 qc12 (g := (mkF m 106 #[.val (.int p0), .val (.int p1), .val (.int p2), .val (.ref ar1), .val (.int (0 : Int32)), .val (.int (3 : Int32)), .val (.ref ob52), .val (.int (1 : Int32)), .val (.int ((p0).toInt8.toInt32 &&& (255 : Int32))), .val (.int ((((p0).toUInt32 >>> ((8 : Int32) &&& 31).toUInt32).toInt32).toInt8.toInt32 &&& (255 : Int32))), .val (.int ((((p0).toUInt32 >>> ((16 : Int32) &&& 31).toUInt32).toInt32).toInt8.toInt32 &&& (255 : Int32))), .unset, .unset, .unset] [(.ref ob52)])) rfl (by rw [hml]; rfl) (Steps.refl _) (argsL := []) (rest := []) (lenOf pd2 rfl) rfl (by show 2 * 0 + _ ≤ _; exact Nat.le_of_eq rfl) (hb hby at_106) (fun _ _ => ⟨rfl, rfl, (by decide : 2 + 0 ≤ _), (by decide : 7 + 0 ≤ _)⟩)
    dsimp only [Pt.U, Pt.locs, Pt.cells, Pt.slots] at X12 l12 y12 z12 st12 hQ12
    subst l12 y12 z12
    obtain ⟨rfl, Nq12, hh12⟩ := hQ12
    have N12 := Fr.app N11 Nq12
    refine Goes.go (fun _ kk => st12.trans kk) ?_
    show Goes _ _ _ _ _ _ _ (T12.setTop (mkF m 109 _ [(.int (-1 : Int32))]))
    refine Goes.go (fun _ kk => XS.istore X12.here hx rfl (hb hby at_109) rfl (l' := #[.val (.int p0), .val (.int p1), .val (.int p2), .val (.ref ar1), .val (.int (0 : Int32)), .val (.int (3 : Int32)), .val (.ref ob52), .val (.int (1 : Int32)), .val (.int ((p0).toInt8.toInt32 &&& (255 : Int32))), .val (.int ((((p0).toUInt32 >>> ((8 : Int32) &&& 31).toUInt32).toInt32).toInt8.toInt32 &&& (255 : Int32))), .val (.int ((((p0).toUInt32 >>> ((16 : Int32) &&& 31).toUInt32).toInt32).toInt8.toInt32 &&& (255 : Int32))), .val (.int (-1 : Int32)), .unset, .unset]) rfl kk) ?_
    show Goes _ _ _ _ _ _ _ (T12.setTop (mkF m 111 #[.val (.int p0), .val (.int p1), .val (.int p2), .val (.ref ar1), .val (.int (0 : Int32)), .val (.int (3 : Int32)), .val (.ref ob52), .val (.int (1 : Int32)), .val (.int ((p0).toInt8.toInt32 &&& (255 : Int32))), .val (.int ((((p0).toUInt32 >>> ((8 : Int32) &&& 31).toUInt32).toInt32).toInt8.toInt32 &&& (255 : Int32))), .val (.int ((((p0).toUInt32 >>> ((16 : Int32) &&& 31).toUInt32).toInt32).toInt8.toInt32 &&& (255 : Int32))), .val (.int (-1 : Int32)), .unset, .unset] []))
    refine Goes.go (fun _ kk => XS.aload X12.here hx rfl (hb hby at_111) rfl rfl kk) ?_
    show Goes _ _ _ _ _ _ _ (T12.setTop (mkF m 113 _ [(.ref ob52)]))
    obtain ⟨cq13, kq13, qa13, qb13, qc13⟩ := isOf hZ hh12 Eq11
    obtain ⟨_, _, ⟨T13, L13, k13, n13⟩, -, X13, ⟨Lc13, hQ13, l13, y13, z13⟩, st13⟩ := X12.virtualBack hx (y := (⟨"com/example/wide_schema/wideschema/io/BytesInput", "read", "()I"⟩ : MethodName)) (z := (⟨"com/example/wide_schema/wideschema/io/BytesInput", "read", "()I"⟩ : MethodName)) hown (mvT hZ (hw _ (List.mem_of_getElem? (i := 27) rfl))) (mvT hZ (hw _ (List.mem_of_getElem? (i := 28) rfl))) (notFace_of_selects (args := #[]) (mvT hZ (hw _ (List.mem_of_getElem? (i := 30) rfl)))) (mvT hZ (hw _ (List.mem_of_getElem? (i := 30) rfl))) (mvT hZ (hw _ (List.mem_of_getElem? (i := 29) rfl))) (by decide) (backOf (W := 0) (rmN l Z a0 hw [] ob52 (3 : Int32) (3 : Int32) T11.heap n0 Z11 Fq11_1 Fq11_2 (by decide)) hZ (hw _ (List.mem_of_getElem? (i := 31) rfl)) (hw _ (List.mem_of_getElem? (i := 4) rfl)) (by decide) (by decide)) qa13 qc13 (g := (mkF m 113 #[.val (.int p0), .val (.int p1), .val (.int p2), .val (.ref ar1), .val (.int (0 : Int32)), .val (.int (3 : Int32)), .val (.ref ob52), .val (.int (1 : Int32)), .val (.int ((p0).toInt8.toInt32 &&& (255 : Int32))), .val (.int ((((p0).toUInt32 >>> ((8 : Int32) &&& 31).toUInt32).toInt32).toInt8.toInt32 &&& (255 : Int32))), .val (.int ((((p0).toUInt32 >>> ((16 : Int32) &&& 31).toUInt32).toInt32).toInt8.toInt32 &&& (255 : Int32))), .val (.int (-1 : Int32)), .unset, .unset] [(.ref ob52)])) rfl (by rw [hml]; rfl) (Steps.refl _) (argsL := []) (rest := []) (lenOf pd2 rfl) rfl (by show 2 * 0 + _ ≤ _; exact Nat.le_of_eq rfl) (hb hby at_113) (fun _ _ => ⟨rfl, hh12, (by decide : 2 + 0 ≤ _), (by decide : 7 + 0 ≤ _)⟩)
    dsimp only [Pt.U, Pt.locs, Pt.cells, Pt.slots] at X13 l13 y13 z13 st13 hQ13
    subst l13 y13 z13
    obtain ⟨rfl, Nq13, hh13⟩ := hQ13
    have N13 := Fr.app N12 Nq13
    refine Goes.go (fun _ kk => st13.trans kk) ?_
    show Goes _ _ _ _ _ _ _ (T13.setTop (mkF m 116 _ [(.int (-1 : Int32))]))
    refine Goes.go (fun _ kk => XS.istore X13.here hx rfl (hb hby at_116) rfl (l' := #[.val (.int p0), .val (.int p1), .val (.int p2), .val (.ref ar1), .val (.int (0 : Int32)), .val (.int (3 : Int32)), .val (.ref ob52), .val (.int (1 : Int32)), .val (.int ((p0).toInt8.toInt32 &&& (255 : Int32))), .val (.int ((((p0).toUInt32 >>> ((8 : Int32) &&& 31).toUInt32).toInt32).toInt8.toInt32 &&& (255 : Int32))), .val (.int ((((p0).toUInt32 >>> ((16 : Int32) &&& 31).toUInt32).toInt32).toInt8.toInt32 &&& (255 : Int32))), .val (.int (-1 : Int32)), .val (.int (-1 : Int32)), .unset]) rfl kk) ?_
    show Goes _ _ _ _ _ _ _ (T13.setTop (mkF m 118 #[.val (.int p0), .val (.int p1), .val (.int p2), .val (.ref ar1), .val (.int (0 : Int32)), .val (.int (3 : Int32)), .val (.ref ob52), .val (.int (1 : Int32)), .val (.int ((p0).toInt8.toInt32 &&& (255 : Int32))), .val (.int ((((p0).toUInt32 >>> ((8 : Int32) &&& 31).toUInt32).toInt32).toInt8.toInt32 &&& (255 : Int32))), .val (.int ((((p0).toUInt32 >>> ((16 : Int32) &&& 31).toUInt32).toInt32).toInt8.toInt32 &&& (255 : Int32))), .val (.int (-1 : Int32)), .val (.int (-1 : Int32)), .unset] []))
    refine Goes.go (fun _ kk => XS.aload X13.here hx rfl (hb hby at_118) rfl rfl kk) ?_
    show Goes _ _ _ _ _ _ _ (T13.setTop (mkF m 120 _ [(.ref ob52)]))
    obtain ⟨cq14, kq14, qa14, qb14, qc14⟩ := isOf hZ hh13 Eq11
    obtain ⟨_, _, ⟨T14, L14, k14, n14⟩, -, X14, ⟨Lc14, hQ14, l14, y14, z14⟩, st14⟩ := X13.virtualBack hx (y := (⟨"com/example/wide_schema/wideschema/io/BytesInput", "read", "()I"⟩ : MethodName)) (z := (⟨"com/example/wide_schema/wideschema/io/BytesInput", "read", "()I"⟩ : MethodName)) hown (mvT hZ (hw _ (List.mem_of_getElem? (i := 27) rfl))) (mvT hZ (hw _ (List.mem_of_getElem? (i := 28) rfl))) (notFace_of_selects (args := #[]) (mvT hZ (hw _ (List.mem_of_getElem? (i := 30) rfl)))) (mvT hZ (hw _ (List.mem_of_getElem? (i := 30) rfl))) (mvT hZ (hw _ (List.mem_of_getElem? (i := 29) rfl))) (by decide) (backOf (W := 0) (rmN l Z a0 hw [] ob52 (3 : Int32) (3 : Int32) T11.heap n0 Z11 Fq11_1 Fq11_2 (by decide)) hZ (hw _ (List.mem_of_getElem? (i := 31) rfl)) (hw _ (List.mem_of_getElem? (i := 4) rfl)) (by decide) (by decide)) qa14 qc14 (g := (mkF m 120 #[.val (.int p0), .val (.int p1), .val (.int p2), .val (.ref ar1), .val (.int (0 : Int32)), .val (.int (3 : Int32)), .val (.ref ob52), .val (.int (1 : Int32)), .val (.int ((p0).toInt8.toInt32 &&& (255 : Int32))), .val (.int ((((p0).toUInt32 >>> ((8 : Int32) &&& 31).toUInt32).toInt32).toInt8.toInt32 &&& (255 : Int32))), .val (.int ((((p0).toUInt32 >>> ((16 : Int32) &&& 31).toUInt32).toInt32).toInt8.toInt32 &&& (255 : Int32))), .val (.int (-1 : Int32)), .val (.int (-1 : Int32)), .unset] [(.ref ob52)])) rfl (by rw [hml]; rfl) (Steps.refl _) (argsL := []) (rest := []) (lenOf pd2 rfl) rfl (by show 2 * 0 + _ ≤ _; exact Nat.le_of_eq rfl) (hb hby at_120) (fun _ _ => ⟨rfl, hh13, (by decide : 2 + 0 ≤ _), (by decide : 7 + 0 ≤ _)⟩)
    dsimp only [Pt.U, Pt.locs, Pt.cells, Pt.slots] at X14 l14 y14 z14 st14 hQ14
    subst l14 y14 z14
    obtain ⟨rfl, Nq14, hh14⟩ := hQ14
    have N14 := Fr.app N13 Nq14
    refine Goes.go (fun _ kk => st14.trans kk) ?_
    show Goes _ _ _ _ _ _ _ (T14.setTop (mkF m 123 _ [(.int (-1 : Int32))]))
    refine Goes.go (fun _ kk => XS.istore X14.here hx rfl (hb hby at_123) rfl (l' := #[.val (.int p0), .val (.int p1), .val (.int p2), .val (.ref ar1), .val (.int (0 : Int32)), .val (.int (3 : Int32)), .val (.ref ob52), .val (.int (1 : Int32)), .val (.int ((p0).toInt8.toInt32 &&& (255 : Int32))), .val (.int ((((p0).toUInt32 >>> ((8 : Int32) &&& 31).toUInt32).toInt32).toInt8.toInt32 &&& (255 : Int32))), .val (.int ((((p0).toUInt32 >>> ((16 : Int32) &&& 31).toUInt32).toInt32).toInt8.toInt32 &&& (255 : Int32))), .val (.int (-1 : Int32)), .val (.int (-1 : Int32)), .val (.int (-1 : Int32))]) rfl kk) ?_
    show Goes _ _ _ _ _ _ _ (T14.setTop (mkF m 125 #[.val (.int p0), .val (.int p1), .val (.int p2), .val (.ref ar1), .val (.int (0 : Int32)), .val (.int (3 : Int32)), .val (.ref ob52), .val (.int (1 : Int32)), .val (.int ((p0).toInt8.toInt32 &&& (255 : Int32))), .val (.int ((((p0).toUInt32 >>> ((8 : Int32) &&& 31).toUInt32).toInt32).toInt8.toInt32 &&& (255 : Int32))), .val (.int ((((p0).toUInt32 >>> ((16 : Int32) &&& 31).toUInt32).toInt32).toInt8.toInt32 &&& (255 : Int32))), .val (.int (-1 : Int32)), .val (.int (-1 : Int32)), .val (.int (-1 : Int32))] []))
    refine Goes.go (fun _ kk => XS.iload X14.here hx rfl (hb hby at_125) rfl kk) ?_
    show Goes _ _ _ _ _ _ _ (T14.setTop (mkF m 127 _ [(.int (1 : Int32))]))
    refine Goes.go (fun _ kk => XS.ifNo X14.here hx rfl (hb hby at_127) rfl (XT.i0_eq_f (by decide)) kk) ?_
    show Goes _ _ _ _ _ _ _ (T14.setTop (mkF m 130 _ []))
    refine Goes.go (fun _ kk => XS.iload X14.here hx rfl (hb hby at_130) rfl kk) ?_
    show Goes _ _ _ _ _ _ _ (T14.setTop (mkF m 132 _ [(.int ((p0).toInt8.toInt32 &&& (255 : Int32)))]))
    refine Goes.go (fun _ kk => XS.iloadN X14.here hx rfl (hb hby at_132) rfl kk) ?_
    show Goes _ _ _ _ _ _ _ (T14.setTop (mkF m 133 _ [(.int p0), (.int ((p0).toInt8.toInt32 &&& (255 : Int32)))]))
    refine Goes.go (fun _ kk => XS.iload X14.here hx rfl (hb hby at_133) rfl kk) ?_
    show Goes _ _ _ _ _ _ _ (T14.setTop (mkF m 135 _ [(.int (0 : Int32)), (.int p0), (.int ((p0).toInt8.toInt32 &&& (255 : Int32)))]))
    refine Goes.go (fun _ kk => XS.iload X14.here hx rfl (hb hby at_135) rfl kk) ?_
    show Goes _ _ _ _ _ _ _ (T14.setTop (mkF m 137 _ [(.int (3 : Int32)), (.int (0 : Int32)), (.int p0), (.int ((p0).toInt8.toInt32 &&& (255 : Int32)))]))
    refine Goes.go (fun _ kk => XS.iconst X14.here hx rfl (hb hby at_137) kk) ?_
    show Goes _ _ _ _ _ _ _ (T14.setTop (mkF m 138 _ [(.int (0 : Int32)), (.int (3 : Int32)), (.int (0 : Int32)), (.int p0), (.int ((p0).toInt8.toInt32 &&& (255 : Int32)))]))
    obtain ⟨_, _, ⟨T15, L15, k15, n15⟩, -, X15, ⟨Lc15, hQ15, l15, y15, z15⟩, st15⟩ := Jvm.LawKit.callS X14 hx (y := (⟨"com/example/wide_schema/wideschema/io/BytesInputReadPinLaw", "exp", "(IIII)I"⟩ : MethodName)) hown (mvT hZ (hw _ (List.mem_of_getElem? (i := 32) rfl))) (mvT hZ (hw _ (List.mem_of_getElem? (i := 33) rfl))) (mvT hZ (hw _ (List.mem_of_getElem? (i := 34) rfl))) (mvT hZ (hw _ (List.mem_of_getElem? (i := 35) rfl))) (by decide) (backOf (W := 1) (rm5 l Z a0 hw [] p0 (0 : Int32) (3 : Int32) (0 : Int32) T11.heap n0 Z11) hZ (hw _ (List.mem_of_getElem? (i := 35) rfl)) (hw _ (List.mem_of_getElem? (i := 34) rfl)) (by decide) (by decide)) (g := (mkF m 138 #[.val (.int p0), .val (.int p1), .val (.int p2), .val (.ref ar1), .val (.int (0 : Int32)), .val (.int (3 : Int32)), .val (.ref ob52), .val (.int (1 : Int32)), .val (.int ((p0).toInt8.toInt32 &&& (255 : Int32))), .val (.int ((((p0).toUInt32 >>> ((8 : Int32) &&& 31).toUInt32).toInt32).toInt8.toInt32 &&& (255 : Int32))), .val (.int ((((p0).toUInt32 >>> ((16 : Int32) &&& 31).toUInt32).toInt32).toInt8.toInt32 &&& (255 : Int32))), .val (.int (-1 : Int32)), .val (.int (-1 : Int32)), .val (.int (-1 : Int32))] [(.int (0 : Int32)), (.int (3 : Int32)), (.int (0 : Int32)), (.int p0), (.int ((p0).toInt8.toInt32 &&& (255 : Int32)))])) rfl (by rw [hml]; rfl) (argsL := [(.int p0), (.int (0 : Int32)), (.int (3 : Int32)), (.int (0 : Int32))]) (rest := [(.int ((p0).toInt8.toInt32 &&& (255 : Int32)))]) (lenOf pd3 rfl) rfl (by show 2 * 0 + _ ≤ _; exact Nat.le_of_eq rfl) (hb hby at_138) (fun _ _ => ⟨rfl, hh14, (by decide : 2 + 0 ≤ _), (by decide : 7 + 0 ≤ _)⟩)
    dsimp only [Pt.U, Pt.locs, Pt.cells, Pt.slots] at X15 l15 y15 z15 st15 hQ15
    subst l15 y15 z15
    obtain ⟨rfl, Nq15, hh15⟩ := hQ15
    have N15 := Fr.app N14 Nq15
    refine Goes.go (st15) ?_
    show Goes _ _ _ _ _ _ _ (T15.setTop (mkF m 141 _ [(.int (exF p0 (0 : Int32) (3 : Int32) (0 : Int32))), (.int ((p0).toInt8.toInt32 &&& (255 : Int32)))]))
    refine Goes.go (fun _ kk => XS.icmpNo X15.here hx rfl (hb hby at_141) rfl (XT.ii_ne_f (own_0 (by decide) (by decide))) kk) ?_
    show Goes _ _ _ _ _ _ _ (T15.setTop (mkF m 144 _ []))
    refine Goes.go (fun _ kk => XS.iconst X15.here hx rfl (hb hby at_144) kk) ?_
    show Goes _ _ _ _ _ _ _ (T15.setTop (mkF m 145 _ [(.int (1 : Int32))]))
    refine Goes.go (fun _ kk => XS.goto X15.here hx rfl (pc0 := 145) (pc' := 149) rfl (hb hby at_145) (by decide) (by decide) kk) ?_
    show Goes _ _ _ _ _ _ _ (T15.setTop (mkF m 149 _ [(.int (1 : Int32))]))
    refine Goes.go (fun _ kk => XS.istore X15.here hx rfl (hb hby at_149) rfl (l' := #[.val (.int p0), .val (.int p1), .val (.int p2), .val (.ref ar1), .val (.int (0 : Int32)), .val (.int (3 : Int32)), .val (.ref ob52), .val (.int (1 : Int32)), .val (.int ((p0).toInt8.toInt32 &&& (255 : Int32))), .val (.int ((((p0).toUInt32 >>> ((8 : Int32) &&& 31).toUInt32).toInt32).toInt8.toInt32 &&& (255 : Int32))), .val (.int ((((p0).toUInt32 >>> ((16 : Int32) &&& 31).toUInt32).toInt32).toInt8.toInt32 &&& (255 : Int32))), .val (.int (-1 : Int32)), .val (.int (-1 : Int32)), .val (.int (-1 : Int32))]) rfl kk) ?_
    show Goes _ _ _ _ _ _ _ (T15.setTop (mkF m 151 _ []))
    refine Goes.go (fun _ kk => XS.iload X15.here hx rfl (hb hby at_151) rfl kk) ?_
    show Goes _ _ _ _ _ _ _ (T15.setTop (mkF m 153 _ [(.int (1 : Int32))]))
    refine Goes.go (fun _ kk => XS.ifNo X15.here hx rfl (hb hby at_153) rfl (XT.i0_eq_f (by decide)) kk) ?_
    show Goes _ _ _ _ _ _ _ (T15.setTop (mkF m 156 _ []))
    refine Goes.go (fun _ kk => XS.iload X15.here hx rfl (hb hby at_156) rfl kk) ?_
    show Goes _ _ _ _ _ _ _ (T15.setTop (mkF m 158 _ [(.int ((((p0).toUInt32 >>> ((8 : Int32) &&& 31).toUInt32).toInt32).toInt8.toInt32 &&& (255 : Int32)))]))
    refine Goes.go (fun _ kk => XS.iloadN X15.here hx rfl (hb hby at_158) rfl kk) ?_
    show Goes _ _ _ _ _ _ _ (T15.setTop (mkF m 159 _ [(.int p0), (.int ((((p0).toUInt32 >>> ((8 : Int32) &&& 31).toUInt32).toInt32).toInt8.toInt32 &&& (255 : Int32)))]))
    refine Goes.go (fun _ kk => XS.iload X15.here hx rfl (hb hby at_159) rfl kk) ?_
    show Goes _ _ _ _ _ _ _ (T15.setTop (mkF m 161 _ [(.int (0 : Int32)), (.int p0), (.int ((((p0).toUInt32 >>> ((8 : Int32) &&& 31).toUInt32).toInt32).toInt8.toInt32 &&& (255 : Int32)))]))
    refine Goes.go (fun _ kk => XS.iload X15.here hx rfl (hb hby at_161) rfl kk) ?_
    show Goes _ _ _ _ _ _ _ (T15.setTop (mkF m 163 _ [(.int (3 : Int32)), (.int (0 : Int32)), (.int p0), (.int ((((p0).toUInt32 >>> ((8 : Int32) &&& 31).toUInt32).toInt32).toInt8.toInt32 &&& (255 : Int32)))]))
    refine Goes.go (fun _ kk => XS.iconst X15.here hx rfl (hb hby at_163) kk) ?_
    show Goes _ _ _ _ _ _ _ (T15.setTop (mkF m 164 _ [(.int (1 : Int32)), (.int (3 : Int32)), (.int (0 : Int32)), (.int p0), (.int ((((p0).toUInt32 >>> ((8 : Int32) &&& 31).toUInt32).toInt32).toInt8.toInt32 &&& (255 : Int32)))]))
    obtain ⟨_, _, ⟨T16, L16, k16, n16⟩, -, X16, ⟨Lc16, hQ16, l16, y16, z16⟩, st16⟩ := Jvm.LawKit.callS X15 hx (y := (⟨"com/example/wide_schema/wideschema/io/BytesInputReadPinLaw", "exp", "(IIII)I"⟩ : MethodName)) hown (mvT hZ (hw _ (List.mem_of_getElem? (i := 32) rfl))) (mvT hZ (hw _ (List.mem_of_getElem? (i := 33) rfl))) (mvT hZ (hw _ (List.mem_of_getElem? (i := 34) rfl))) (mvT hZ (hw _ (List.mem_of_getElem? (i := 35) rfl))) (by decide) (backOf (W := 1) (rm5 l Z a0 hw [] p0 (0 : Int32) (3 : Int32) (1 : Int32) T11.heap n0 Z11) hZ (hw _ (List.mem_of_getElem? (i := 35) rfl)) (hw _ (List.mem_of_getElem? (i := 34) rfl)) (by decide) (by decide)) (g := (mkF m 164 #[.val (.int p0), .val (.int p1), .val (.int p2), .val (.ref ar1), .val (.int (0 : Int32)), .val (.int (3 : Int32)), .val (.ref ob52), .val (.int (1 : Int32)), .val (.int ((p0).toInt8.toInt32 &&& (255 : Int32))), .val (.int ((((p0).toUInt32 >>> ((8 : Int32) &&& 31).toUInt32).toInt32).toInt8.toInt32 &&& (255 : Int32))), .val (.int ((((p0).toUInt32 >>> ((16 : Int32) &&& 31).toUInt32).toInt32).toInt8.toInt32 &&& (255 : Int32))), .val (.int (-1 : Int32)), .val (.int (-1 : Int32)), .val (.int (-1 : Int32))] [(.int (1 : Int32)), (.int (3 : Int32)), (.int (0 : Int32)), (.int p0), (.int ((((p0).toUInt32 >>> ((8 : Int32) &&& 31).toUInt32).toInt32).toInt8.toInt32 &&& (255 : Int32)))])) rfl (by rw [hml]; rfl) (argsL := [(.int p0), (.int (0 : Int32)), (.int (3 : Int32)), (.int (1 : Int32))]) (rest := [(.int ((((p0).toUInt32 >>> ((8 : Int32) &&& 31).toUInt32).toInt32).toInt8.toInt32 &&& (255 : Int32)))]) (lenOf pd3 rfl) rfl (by show 2 * 0 + _ ≤ _; exact Nat.le_of_eq rfl) (hb hby at_164) (fun _ _ => ⟨rfl, hh15, (by decide : 2 + 0 ≤ _), (by decide : 7 + 0 ≤ _)⟩)
    dsimp only [Pt.U, Pt.locs, Pt.cells, Pt.slots] at X16 l16 y16 z16 st16 hQ16
    subst l16 y16 z16
    obtain ⟨rfl, Nq16, hh16⟩ := hQ16
    have N16 := Fr.app N15 Nq16
    refine Goes.go (st16) ?_
    show Goes _ _ _ _ _ _ _ (T16.setTop (mkF m 167 _ [(.int (exF p0 (0 : Int32) (3 : Int32) (1 : Int32))), (.int ((((p0).toUInt32 >>> ((8 : Int32) &&& 31).toUInt32).toInt32).toInt8.toInt32 &&& (255 : Int32)))]))
    refine Goes.go (fun _ kk => XS.icmpNo X16.here hx rfl (hb hby at_167) rfl (XT.ii_ne_f (own_n (8 : Int32) (by decide) (by decide))) kk) ?_
    show Goes _ _ _ _ _ _ _ (T16.setTop (mkF m 170 _ []))
    refine Goes.go (fun _ kk => XS.iconst X16.here hx rfl (hb hby at_170) kk) ?_
    show Goes _ _ _ _ _ _ _ (T16.setTop (mkF m 171 _ [(.int (1 : Int32))]))
    refine Goes.go (fun _ kk => XS.goto X16.here hx rfl (pc0 := 171) (pc' := 175) rfl (hb hby at_171) (by decide) (by decide) kk) ?_
    show Goes _ _ _ _ _ _ _ (T16.setTop (mkF m 175 _ [(.int (1 : Int32))]))
    refine Goes.go (fun _ kk => XS.istore X16.here hx rfl (hb hby at_175) rfl (l' := #[.val (.int p0), .val (.int p1), .val (.int p2), .val (.ref ar1), .val (.int (0 : Int32)), .val (.int (3 : Int32)), .val (.ref ob52), .val (.int (1 : Int32)), .val (.int ((p0).toInt8.toInt32 &&& (255 : Int32))), .val (.int ((((p0).toUInt32 >>> ((8 : Int32) &&& 31).toUInt32).toInt32).toInt8.toInt32 &&& (255 : Int32))), .val (.int ((((p0).toUInt32 >>> ((16 : Int32) &&& 31).toUInt32).toInt32).toInt8.toInt32 &&& (255 : Int32))), .val (.int (-1 : Int32)), .val (.int (-1 : Int32)), .val (.int (-1 : Int32))]) rfl kk) ?_
    show Goes _ _ _ _ _ _ _ (T16.setTop (mkF m 177 _ []))
    refine Goes.go (fun _ kk => XS.iload X16.here hx rfl (hb hby at_177) rfl kk) ?_
    show Goes _ _ _ _ _ _ _ (T16.setTop (mkF m 179 _ [(.int (1 : Int32))]))
    refine Goes.go (fun _ kk => XS.ifNo X16.here hx rfl (hb hby at_179) rfl (XT.i0_eq_f (by decide)) kk) ?_
    show Goes _ _ _ _ _ _ _ (T16.setTop (mkF m 182 _ []))
    refine Goes.go (fun _ kk => XS.iload X16.here hx rfl (hb hby at_182) rfl kk) ?_
    show Goes _ _ _ _ _ _ _ (T16.setTop (mkF m 184 _ [(.int ((((p0).toUInt32 >>> ((16 : Int32) &&& 31).toUInt32).toInt32).toInt8.toInt32 &&& (255 : Int32)))]))
    refine Goes.go (fun _ kk => XS.iloadN X16.here hx rfl (hb hby at_184) rfl kk) ?_
    show Goes _ _ _ _ _ _ _ (T16.setTop (mkF m 185 _ [(.int p0), (.int ((((p0).toUInt32 >>> ((16 : Int32) &&& 31).toUInt32).toInt32).toInt8.toInt32 &&& (255 : Int32)))]))
    refine Goes.go (fun _ kk => XS.iload X16.here hx rfl (hb hby at_185) rfl kk) ?_
    show Goes _ _ _ _ _ _ _ (T16.setTop (mkF m 187 _ [(.int (0 : Int32)), (.int p0), (.int ((((p0).toUInt32 >>> ((16 : Int32) &&& 31).toUInt32).toInt32).toInt8.toInt32 &&& (255 : Int32)))]))
    refine Goes.go (fun _ kk => XS.iload X16.here hx rfl (hb hby at_187) rfl kk) ?_
    show Goes _ _ _ _ _ _ _ (T16.setTop (mkF m 189 _ [(.int (3 : Int32)), (.int (0 : Int32)), (.int p0), (.int ((((p0).toUInt32 >>> ((16 : Int32) &&& 31).toUInt32).toInt32).toInt8.toInt32 &&& (255 : Int32)))]))
    refine Goes.go (fun _ kk => XS.iconst X16.here hx rfl (hb hby at_189) kk) ?_
    show Goes _ _ _ _ _ _ _ (T16.setTop (mkF m 190 _ [(.int (2 : Int32)), (.int (3 : Int32)), (.int (0 : Int32)), (.int p0), (.int ((((p0).toUInt32 >>> ((16 : Int32) &&& 31).toUInt32).toInt32).toInt8.toInt32 &&& (255 : Int32)))]))
    obtain ⟨_, _, ⟨T17, L17, k17, n17⟩, -, X17, ⟨Lc17, hQ17, l17, y17, z17⟩, st17⟩ := Jvm.LawKit.callS X16 hx (y := (⟨"com/example/wide_schema/wideschema/io/BytesInputReadPinLaw", "exp", "(IIII)I"⟩ : MethodName)) hown (mvT hZ (hw _ (List.mem_of_getElem? (i := 32) rfl))) (mvT hZ (hw _ (List.mem_of_getElem? (i := 33) rfl))) (mvT hZ (hw _ (List.mem_of_getElem? (i := 34) rfl))) (mvT hZ (hw _ (List.mem_of_getElem? (i := 35) rfl))) (by decide) (backOf (W := 1) (rm5 l Z a0 hw [] p0 (0 : Int32) (3 : Int32) (2 : Int32) T11.heap n0 Z11) hZ (hw _ (List.mem_of_getElem? (i := 35) rfl)) (hw _ (List.mem_of_getElem? (i := 34) rfl)) (by decide) (by decide)) (g := (mkF m 190 #[.val (.int p0), .val (.int p1), .val (.int p2), .val (.ref ar1), .val (.int (0 : Int32)), .val (.int (3 : Int32)), .val (.ref ob52), .val (.int (1 : Int32)), .val (.int ((p0).toInt8.toInt32 &&& (255 : Int32))), .val (.int ((((p0).toUInt32 >>> ((8 : Int32) &&& 31).toUInt32).toInt32).toInt8.toInt32 &&& (255 : Int32))), .val (.int ((((p0).toUInt32 >>> ((16 : Int32) &&& 31).toUInt32).toInt32).toInt8.toInt32 &&& (255 : Int32))), .val (.int (-1 : Int32)), .val (.int (-1 : Int32)), .val (.int (-1 : Int32))] [(.int (2 : Int32)), (.int (3 : Int32)), (.int (0 : Int32)), (.int p0), (.int ((((p0).toUInt32 >>> ((16 : Int32) &&& 31).toUInt32).toInt32).toInt8.toInt32 &&& (255 : Int32)))])) rfl (by rw [hml]; rfl) (argsL := [(.int p0), (.int (0 : Int32)), (.int (3 : Int32)), (.int (2 : Int32))]) (rest := [(.int ((((p0).toUInt32 >>> ((16 : Int32) &&& 31).toUInt32).toInt32).toInt8.toInt32 &&& (255 : Int32)))]) (lenOf pd3 rfl) rfl (by show 2 * 0 + _ ≤ _; exact Nat.le_of_eq rfl) (hb hby at_190) (fun _ _ => ⟨rfl, hh16, (by decide : 2 + 0 ≤ _), (by decide : 7 + 0 ≤ _)⟩)
    dsimp only [Pt.U, Pt.locs, Pt.cells, Pt.slots] at X17 l17 y17 z17 st17 hQ17
    subst l17 y17 z17
    obtain ⟨rfl, Nq17, hh17⟩ := hQ17
    have N17 := Fr.app N16 Nq17
    refine Goes.go (st17) ?_
    show Goes _ _ _ _ _ _ _ (T17.setTop (mkF m 193 _ [(.int (exF p0 (0 : Int32) (3 : Int32) (2 : Int32))), (.int ((((p0).toUInt32 >>> ((16 : Int32) &&& 31).toUInt32).toInt32).toInt8.toInt32 &&& (255 : Int32)))]))
    refine Goes.go (fun _ kk => XS.icmpNo X17.here hx rfl (hb hby at_193) rfl (XT.ii_ne_f (own_n (16 : Int32) (by decide) (by decide))) kk) ?_
    show Goes _ _ _ _ _ _ _ (T17.setTop (mkF m 196 _ []))
    refine Goes.go (fun _ kk => XS.iconst X17.here hx rfl (hb hby at_196) kk) ?_
    show Goes _ _ _ _ _ _ _ (T17.setTop (mkF m 197 _ [(.int (1 : Int32))]))
    refine Goes.go (fun _ kk => XS.goto X17.here hx rfl (pc0 := 197) (pc' := 201) rfl (hb hby at_197) (by decide) (by decide) kk) ?_
    show Goes _ _ _ _ _ _ _ (T17.setTop (mkF m 201 _ [(.int (1 : Int32))]))
    refine Goes.go (fun _ kk => XS.istore X17.here hx rfl (hb hby at_201) rfl (l' := #[.val (.int p0), .val (.int p1), .val (.int p2), .val (.ref ar1), .val (.int (0 : Int32)), .val (.int (3 : Int32)), .val (.ref ob52), .val (.int (1 : Int32)), .val (.int ((p0).toInt8.toInt32 &&& (255 : Int32))), .val (.int ((((p0).toUInt32 >>> ((8 : Int32) &&& 31).toUInt32).toInt32).toInt8.toInt32 &&& (255 : Int32))), .val (.int ((((p0).toUInt32 >>> ((16 : Int32) &&& 31).toUInt32).toInt32).toInt8.toInt32 &&& (255 : Int32))), .val (.int (-1 : Int32)), .val (.int (-1 : Int32)), .val (.int (-1 : Int32))]) rfl kk) ?_
    show Goes _ _ _ _ _ _ _ (T17.setTop (mkF m 203 _ []))
    refine Goes.go (fun _ kk => XS.iload X17.here hx rfl (hb hby at_203) rfl kk) ?_
    show Goes _ _ _ _ _ _ _ (T17.setTop (mkF m 205 _ [(.int (1 : Int32))]))
    refine Goes.go (fun _ kk => XS.ifNo X17.here hx rfl (hb hby at_205) rfl (XT.i0_eq_f (by decide)) kk) ?_
    show Goes _ _ _ _ _ _ _ (T17.setTop (mkF m 208 _ []))
    refine Goes.go (fun _ kk => XS.iload X17.here hx rfl (hb hby at_208) rfl kk) ?_
    show Goes _ _ _ _ _ _ _ (T17.setTop (mkF m 210 _ [(.int (-1 : Int32))]))
    refine Goes.go (fun _ kk => XS.iloadN X17.here hx rfl (hb hby at_210) rfl kk) ?_
    show Goes _ _ _ _ _ _ _ (T17.setTop (mkF m 211 _ [(.int p0), (.int (-1 : Int32))]))
    refine Goes.go (fun _ kk => XS.iload X17.here hx rfl (hb hby at_211) rfl kk) ?_
    show Goes _ _ _ _ _ _ _ (T17.setTop (mkF m 213 _ [(.int (0 : Int32)), (.int p0), (.int (-1 : Int32))]))
    refine Goes.go (fun _ kk => XS.iload X17.here hx rfl (hb hby at_213) rfl kk) ?_
    show Goes _ _ _ _ _ _ _ (T17.setTop (mkF m 215 _ [(.int (3 : Int32)), (.int (0 : Int32)), (.int p0), (.int (-1 : Int32))]))
    refine Goes.go (fun _ kk => XS.iconst X17.here hx rfl (hb hby at_215) kk) ?_
    show Goes _ _ _ _ _ _ _ (T17.setTop (mkF m 216 _ [(.int (3 : Int32)), (.int (3 : Int32)), (.int (0 : Int32)), (.int p0), (.int (-1 : Int32))]))
    obtain ⟨_, _, ⟨T18, L18, k18, n18⟩, -, X18, ⟨Lc18, hQ18, l18, y18, z18⟩, st18⟩ := Jvm.LawKit.callS X17 hx (y := (⟨"com/example/wide_schema/wideschema/io/BytesInputReadPinLaw", "exp", "(IIII)I"⟩ : MethodName)) hown (mvT hZ (hw _ (List.mem_of_getElem? (i := 32) rfl))) (mvT hZ (hw _ (List.mem_of_getElem? (i := 33) rfl))) (mvT hZ (hw _ (List.mem_of_getElem? (i := 34) rfl))) (mvT hZ (hw _ (List.mem_of_getElem? (i := 35) rfl))) (by decide) (backOf (W := 1) (rm5 l Z a0 hw [] p0 (0 : Int32) (3 : Int32) (3 : Int32) T11.heap n0 Z11) hZ (hw _ (List.mem_of_getElem? (i := 35) rfl)) (hw _ (List.mem_of_getElem? (i := 34) rfl)) (by decide) (by decide)) (g := (mkF m 216 #[.val (.int p0), .val (.int p1), .val (.int p2), .val (.ref ar1), .val (.int (0 : Int32)), .val (.int (3 : Int32)), .val (.ref ob52), .val (.int (1 : Int32)), .val (.int ((p0).toInt8.toInt32 &&& (255 : Int32))), .val (.int ((((p0).toUInt32 >>> ((8 : Int32) &&& 31).toUInt32).toInt32).toInt8.toInt32 &&& (255 : Int32))), .val (.int ((((p0).toUInt32 >>> ((16 : Int32) &&& 31).toUInt32).toInt32).toInt8.toInt32 &&& (255 : Int32))), .val (.int (-1 : Int32)), .val (.int (-1 : Int32)), .val (.int (-1 : Int32))] [(.int (3 : Int32)), (.int (3 : Int32)), (.int (0 : Int32)), (.int p0), (.int (-1 : Int32))])) rfl (by rw [hml]; rfl) (argsL := [(.int p0), (.int (0 : Int32)), (.int (3 : Int32)), (.int (3 : Int32))]) (rest := [(.int (-1 : Int32))]) (lenOf pd3 rfl) rfl (by show 2 * 0 + _ ≤ _; exact Nat.le_of_eq rfl) (hb hby at_216) (fun _ _ => ⟨rfl, hh17, (by decide : 2 + 0 ≤ _), (by decide : 7 + 0 ≤ _)⟩)
    dsimp only [Pt.U, Pt.locs, Pt.cells, Pt.slots] at X18 l18 y18 z18 st18 hQ18
    subst l18 y18 z18
    obtain ⟨rfl, Nq18, hh18⟩ := hQ18
    have N18 := Fr.app N17 Nq18
    refine Goes.go (st18) ?_
    show Goes _ _ _ _ _ _ _ (T18.setTop (mkF m 219 _ [(.int (exF p0 (0 : Int32) (3 : Int32) (3 : Int32))), (.int (-1 : Int32))]))
    refine Goes.go (fun _ kk => XS.icmpNo X18.here hx rfl (hb hby at_219) rfl (XT.ii_ne_f (own_m (by decide))) kk) ?_
    show Goes _ _ _ _ _ _ _ (T18.setTop (mkF m 222 _ []))
    refine Goes.go (fun _ kk => XS.iconst X18.here hx rfl (hb hby at_222) kk) ?_
    show Goes _ _ _ _ _ _ _ (T18.setTop (mkF m 223 _ [(.int (1 : Int32))]))
    refine Goes.go (fun _ kk => XS.goto X18.here hx rfl (pc0 := 223) (pc' := 227) rfl (hb hby at_223) (by decide) (by decide) kk) ?_
    show Goes _ _ _ _ _ _ _ (T18.setTop (mkF m 227 _ [(.int (1 : Int32))]))
    refine Goes.go (fun _ kk => XS.istore X18.here hx rfl (hb hby at_227) rfl (l' := #[.val (.int p0), .val (.int p1), .val (.int p2), .val (.ref ar1), .val (.int (0 : Int32)), .val (.int (3 : Int32)), .val (.ref ob52), .val (.int (1 : Int32)), .val (.int ((p0).toInt8.toInt32 &&& (255 : Int32))), .val (.int ((((p0).toUInt32 >>> ((8 : Int32) &&& 31).toUInt32).toInt32).toInt8.toInt32 &&& (255 : Int32))), .val (.int ((((p0).toUInt32 >>> ((16 : Int32) &&& 31).toUInt32).toInt32).toInt8.toInt32 &&& (255 : Int32))), .val (.int (-1 : Int32)), .val (.int (-1 : Int32)), .val (.int (-1 : Int32))]) rfl kk) ?_
    show Goes _ _ _ _ _ _ _ (T18.setTop (mkF m 229 _ []))
    refine Goes.go (fun _ kk => XS.iload X18.here hx rfl (hb hby at_229) rfl kk) ?_
    show Goes _ _ _ _ _ _ _ (T18.setTop (mkF m 231 _ [(.int (1 : Int32))]))
    refine Goes.go (fun _ kk => XS.ifNo X18.here hx rfl (hb hby at_231) rfl (XT.i0_eq_f (by decide)) kk) ?_
    show Goes _ _ _ _ _ _ _ (T18.setTop (mkF m 234 _ []))
    refine Goes.go (fun _ kk => XS.iload X18.here hx rfl (hb hby at_234) rfl kk) ?_
    show Goes _ _ _ _ _ _ _ (T18.setTop (mkF m 236 _ [(.int (-1 : Int32))]))
    refine Goes.go (fun _ kk => XS.iloadN X18.here hx rfl (hb hby at_236) rfl kk) ?_
    show Goes _ _ _ _ _ _ _ (T18.setTop (mkF m 237 _ [(.int p0), (.int (-1 : Int32))]))
    refine Goes.go (fun _ kk => XS.iload X18.here hx rfl (hb hby at_237) rfl kk) ?_
    show Goes _ _ _ _ _ _ _ (T18.setTop (mkF m 239 _ [(.int (0 : Int32)), (.int p0), (.int (-1 : Int32))]))
    refine Goes.go (fun _ kk => XS.iload X18.here hx rfl (hb hby at_239) rfl kk) ?_
    show Goes _ _ _ _ _ _ _ (T18.setTop (mkF m 241 _ [(.int (3 : Int32)), (.int (0 : Int32)), (.int p0), (.int (-1 : Int32))]))
    refine Goes.go (fun _ kk => XS.iconst X18.here hx rfl (hb hby at_241) kk) ?_
    show Goes _ _ _ _ _ _ _ (T18.setTop (mkF m 242 _ [(.int (4 : Int32)), (.int (3 : Int32)), (.int (0 : Int32)), (.int p0), (.int (-1 : Int32))]))
    obtain ⟨_, _, ⟨T19, L19, k19, n19⟩, -, X19, ⟨Lc19, hQ19, l19, y19, z19⟩, st19⟩ := Jvm.LawKit.callS X18 hx (y := (⟨"com/example/wide_schema/wideschema/io/BytesInputReadPinLaw", "exp", "(IIII)I"⟩ : MethodName)) hown (mvT hZ (hw _ (List.mem_of_getElem? (i := 32) rfl))) (mvT hZ (hw _ (List.mem_of_getElem? (i := 33) rfl))) (mvT hZ (hw _ (List.mem_of_getElem? (i := 34) rfl))) (mvT hZ (hw _ (List.mem_of_getElem? (i := 35) rfl))) (by decide) (backOf (W := 1) (rm5 l Z a0 hw [] p0 (0 : Int32) (3 : Int32) (4 : Int32) T11.heap n0 Z11) hZ (hw _ (List.mem_of_getElem? (i := 35) rfl)) (hw _ (List.mem_of_getElem? (i := 34) rfl)) (by decide) (by decide)) (g := (mkF m 242 #[.val (.int p0), .val (.int p1), .val (.int p2), .val (.ref ar1), .val (.int (0 : Int32)), .val (.int (3 : Int32)), .val (.ref ob52), .val (.int (1 : Int32)), .val (.int ((p0).toInt8.toInt32 &&& (255 : Int32))), .val (.int ((((p0).toUInt32 >>> ((8 : Int32) &&& 31).toUInt32).toInt32).toInt8.toInt32 &&& (255 : Int32))), .val (.int ((((p0).toUInt32 >>> ((16 : Int32) &&& 31).toUInt32).toInt32).toInt8.toInt32 &&& (255 : Int32))), .val (.int (-1 : Int32)), .val (.int (-1 : Int32)), .val (.int (-1 : Int32))] [(.int (4 : Int32)), (.int (3 : Int32)), (.int (0 : Int32)), (.int p0), (.int (-1 : Int32))])) rfl (by rw [hml]; rfl) (argsL := [(.int p0), (.int (0 : Int32)), (.int (3 : Int32)), (.int (4 : Int32))]) (rest := [(.int (-1 : Int32))]) (lenOf pd3 rfl) rfl (by show 2 * 0 + _ ≤ _; exact Nat.le_of_eq rfl) (hb hby at_242) (fun _ _ => ⟨rfl, hh18, (by decide : 2 + 0 ≤ _), (by decide : 7 + 0 ≤ _)⟩)
    dsimp only [Pt.U, Pt.locs, Pt.cells, Pt.slots] at X19 l19 y19 z19 st19 hQ19
    subst l19 y19 z19
    obtain ⟨rfl, Nq19, hh19⟩ := hQ19
    have N19 := Fr.app N18 Nq19
    refine Goes.go (st19) ?_
    show Goes _ _ _ _ _ _ _ (T19.setTop (mkF m 245 _ [(.int (exF p0 (0 : Int32) (3 : Int32) (4 : Int32))), (.int (-1 : Int32))]))
    refine Goes.go (fun _ kk => XS.icmpNo X19.here hx rfl (hb hby at_245) rfl (XT.ii_ne_f (own_m (by decide))) kk) ?_
    show Goes _ _ _ _ _ _ _ (T19.setTop (mkF m 248 _ []))
    refine Goes.go (fun _ kk => XS.iconst X19.here hx rfl (hb hby at_248) kk) ?_
    show Goes _ _ _ _ _ _ _ (T19.setTop (mkF m 249 _ [(.int (1 : Int32))]))
    refine Goes.go (fun _ kk => XS.goto X19.here hx rfl (pc0 := 249) (pc' := 253) rfl (hb hby at_249) (by decide) (by decide) kk) ?_
    show Goes _ _ _ _ _ _ _ (T19.setTop (mkF m 253 _ [(.int (1 : Int32))]))
    refine Goes.go (fun _ kk => XS.istore X19.here hx rfl (hb hby at_253) rfl (l' := #[.val (.int p0), .val (.int p1), .val (.int p2), .val (.ref ar1), .val (.int (0 : Int32)), .val (.int (3 : Int32)), .val (.ref ob52), .val (.int (1 : Int32)), .val (.int ((p0).toInt8.toInt32 &&& (255 : Int32))), .val (.int ((((p0).toUInt32 >>> ((8 : Int32) &&& 31).toUInt32).toInt32).toInt8.toInt32 &&& (255 : Int32))), .val (.int ((((p0).toUInt32 >>> ((16 : Int32) &&& 31).toUInt32).toInt32).toInt8.toInt32 &&& (255 : Int32))), .val (.int (-1 : Int32)), .val (.int (-1 : Int32)), .val (.int (-1 : Int32))]) rfl kk) ?_
    show Goes _ _ _ _ _ _ _ (T19.setTop (mkF m 255 _ []))
    refine Goes.go (fun _ kk => XS.iload X19.here hx rfl (hb hby at_255) rfl kk) ?_
    show Goes _ _ _ _ _ _ _ (T19.setTop (mkF m 257 _ [(.int (1 : Int32))]))
    refine Goes.go (fun _ kk => XS.ifNo X19.here hx rfl (hb hby at_257) rfl (XT.i0_eq_f (by decide)) kk) ?_
    show Goes _ _ _ _ _ _ _ (T19.setTop (mkF m 260 _ []))
    refine Goes.go (fun _ kk => XS.iload X19.here hx rfl (hb hby at_260) rfl kk) ?_
    show Goes _ _ _ _ _ _ _ (T19.setTop (mkF m 262 _ [(.int (-1 : Int32))]))
    refine Goes.go (fun _ kk => XS.iloadN X19.here hx rfl (hb hby at_262) rfl kk) ?_
    show Goes _ _ _ _ _ _ _ (T19.setTop (mkF m 263 _ [(.int p0), (.int (-1 : Int32))]))
    refine Goes.go (fun _ kk => XS.iload X19.here hx rfl (hb hby at_263) rfl kk) ?_
    show Goes _ _ _ _ _ _ _ (T19.setTop (mkF m 265 _ [(.int (0 : Int32)), (.int p0), (.int (-1 : Int32))]))
    refine Goes.go (fun _ kk => XS.iload X19.here hx rfl (hb hby at_265) rfl kk) ?_
    show Goes _ _ _ _ _ _ _ (T19.setTop (mkF m 267 _ [(.int (3 : Int32)), (.int (0 : Int32)), (.int p0), (.int (-1 : Int32))]))
    refine Goes.go (fun _ kk => XS.iconst X19.here hx rfl (hb hby at_267) kk) ?_
    show Goes _ _ _ _ _ _ _ (T19.setTop (mkF m 268 _ [(.int (5 : Int32)), (.int (3 : Int32)), (.int (0 : Int32)), (.int p0), (.int (-1 : Int32))]))
    obtain ⟨_, _, ⟨T20, L20, k20, n20⟩, -, X20, ⟨Lc20, hQ20, l20, y20, z20⟩, st20⟩ := Jvm.LawKit.callS X19 hx (y := (⟨"com/example/wide_schema/wideschema/io/BytesInputReadPinLaw", "exp", "(IIII)I"⟩ : MethodName)) hown (mvT hZ (hw _ (List.mem_of_getElem? (i := 32) rfl))) (mvT hZ (hw _ (List.mem_of_getElem? (i := 33) rfl))) (mvT hZ (hw _ (List.mem_of_getElem? (i := 34) rfl))) (mvT hZ (hw _ (List.mem_of_getElem? (i := 35) rfl))) (by decide) (backOf (W := 1) (rm5 l Z a0 hw [] p0 (0 : Int32) (3 : Int32) (5 : Int32) T11.heap n0 Z11) hZ (hw _ (List.mem_of_getElem? (i := 35) rfl)) (hw _ (List.mem_of_getElem? (i := 34) rfl)) (by decide) (by decide)) (g := (mkF m 268 #[.val (.int p0), .val (.int p1), .val (.int p2), .val (.ref ar1), .val (.int (0 : Int32)), .val (.int (3 : Int32)), .val (.ref ob52), .val (.int (1 : Int32)), .val (.int ((p0).toInt8.toInt32 &&& (255 : Int32))), .val (.int ((((p0).toUInt32 >>> ((8 : Int32) &&& 31).toUInt32).toInt32).toInt8.toInt32 &&& (255 : Int32))), .val (.int ((((p0).toUInt32 >>> ((16 : Int32) &&& 31).toUInt32).toInt32).toInt8.toInt32 &&& (255 : Int32))), .val (.int (-1 : Int32)), .val (.int (-1 : Int32)), .val (.int (-1 : Int32))] [(.int (5 : Int32)), (.int (3 : Int32)), (.int (0 : Int32)), (.int p0), (.int (-1 : Int32))])) rfl (by rw [hml]; rfl) (argsL := [(.int p0), (.int (0 : Int32)), (.int (3 : Int32)), (.int (5 : Int32))]) (rest := [(.int (-1 : Int32))]) (lenOf pd3 rfl) rfl (by show 2 * 0 + _ ≤ _; exact Nat.le_of_eq rfl) (hb hby at_268) (fun _ _ => ⟨rfl, hh19, (by decide : 2 + 0 ≤ _), (by decide : 7 + 0 ≤ _)⟩)
    dsimp only [Pt.U, Pt.locs, Pt.cells, Pt.slots] at X20 l20 y20 z20 st20 hQ20
    subst l20 y20 z20
    obtain ⟨rfl, Nq20, hh20⟩ := hQ20
    have N20 := Fr.app N19 Nq20
    refine Goes.go (st20) ?_
    show Goes _ _ _ _ _ _ _ (T20.setTop (mkF m 271 _ [(.int (exF p0 (0 : Int32) (3 : Int32) (5 : Int32))), (.int (-1 : Int32))]))
    refine Goes.go (fun _ kk => XS.icmpNo X20.here hx rfl (hb hby at_271) rfl (XT.ii_ne_f (own_m (by decide))) kk) ?_
    show Goes _ _ _ _ _ _ _ (T20.setTop (mkF m 274 _ []))
    refine Goes.go (fun _ kk => XS.iconst X20.here hx rfl (hb hby at_274) kk) ?_
    show Goes _ _ _ _ _ _ _ (T20.setTop (mkF m 275 _ [(.int (1 : Int32))]))
    refine Goes.go (fun _ kk => XS.goto X20.here hx rfl (pc0 := 275) (pc' := 279) rfl (hb hby at_275) (by decide) (by decide) kk) ?_
    show Goes _ _ _ _ _ _ _ (T20.setTop (mkF m 279 _ [(.int (1 : Int32))]))
    refine Goes.go (fun _ kk => XS.istore X20.here hx rfl (hb hby at_279) rfl (l' := #[.val (.int p0), .val (.int p1), .val (.int p2), .val (.ref ar1), .val (.int (0 : Int32)), .val (.int (3 : Int32)), .val (.ref ob52), .val (.int (1 : Int32)), .val (.int ((p0).toInt8.toInt32 &&& (255 : Int32))), .val (.int ((((p0).toUInt32 >>> ((8 : Int32) &&& 31).toUInt32).toInt32).toInt8.toInt32 &&& (255 : Int32))), .val (.int ((((p0).toUInt32 >>> ((16 : Int32) &&& 31).toUInt32).toInt32).toInt8.toInt32 &&& (255 : Int32))), .val (.int (-1 : Int32)), .val (.int (-1 : Int32)), .val (.int (-1 : Int32))]) rfl kk) ?_
    show Goes _ _ _ _ _ _ _ (T20.setTop (mkF m 281 _ []))
    refine Goes.go (fun _ kk => XS.iload X20.here hx rfl (hb hby at_281) rfl kk) ?_
    show Goes _ _ _ _ _ _ _ (T20.setTop (mkF m 283 _ [(.int (1 : Int32))]))
    refine Goes.go (fun _ kk => XS.ifNo X20.here hx rfl (hb hby at_283) rfl (XT.i0_eq_f (by decide)) kk) ?_
    show Goes _ _ _ _ _ _ _ (T20.setTop (mkF m 286 _ []))
    refine Goes.go (fun _ kk => XS.aload X20.here hx rfl (hb hby at_286) rfl rfl kk) ?_
    show Goes _ _ _ _ _ _ _ (T20.setTop (mkF m 288 _ [(.ref ob52)]))
    obtain ⟨cq21, kq21, qa21, qb21, qc21⟩ := isOf hZ hh20 Eq11
    obtain ⟨_, _, ⟨T21, L21, k21, n21⟩, -, X21, ⟨Lc21, hQ21, l21, y21, z21⟩, st21⟩ := X20.virtualBack hx (y := (⟨"com/example/wide_schema/wideschema/io/BytesInput", "available", "()I"⟩ : MethodName)) (z := (⟨"com/example/wide_schema/wideschema/io/BytesInput", "available", "()I"⟩ : MethodName)) hown (mvT hZ (hw _ (List.mem_of_getElem? (i := 22) rfl))) (mvT hZ (hw _ (List.mem_of_getElem? (i := 23) rfl))) (notFace_of_selects (args := #[]) (mvT hZ (hw _ (List.mem_of_getElem? (i := 25) rfl)))) (mvT hZ (hw _ (List.mem_of_getElem? (i := 25) rfl))) (mvT hZ (hw _ (List.mem_of_getElem? (i := 24) rfl))) (by decide) (backOf (W := 0) (rm3 l Z a0 hw [] ob52 (3 : Int32) (3 : Int32) T11.heap n0 Z11 Fq11_1 Fq11_2) hZ (hw _ (List.mem_of_getElem? (i := 26) rfl)) (hw _ (List.mem_of_getElem? (i := 4) rfl)) (by decide) (by decide)) qa21 qc21 (g := (mkF m 288 #[.val (.int p0), .val (.int p1), .val (.int p2), .val (.ref ar1), .val (.int (0 : Int32)), .val (.int (3 : Int32)), .val (.ref ob52), .val (.int (1 : Int32)), .val (.int ((p0).toInt8.toInt32 &&& (255 : Int32))), .val (.int ((((p0).toUInt32 >>> ((8 : Int32) &&& 31).toUInt32).toInt32).toInt8.toInt32 &&& (255 : Int32))), .val (.int ((((p0).toUInt32 >>> ((16 : Int32) &&& 31).toUInt32).toInt32).toInt8.toInt32 &&& (255 : Int32))), .val (.int (-1 : Int32)), .val (.int (-1 : Int32)), .val (.int (-1 : Int32))] [(.ref ob52)])) rfl (by rw [hml]; rfl) (Steps.refl _) (argsL := []) (rest := []) (lenOf pd2 rfl) rfl (by show 2 * 0 + _ ≤ _; exact Nat.le_of_eq rfl) (hb hby at_288) (fun _ _ => ⟨rfl, hh20, (by decide : 2 + 0 ≤ _), (by decide : 7 + 0 ≤ _)⟩)
    dsimp only [Pt.U, Pt.locs, Pt.cells, Pt.slots] at X21 l21 y21 z21 st21 hQ21
    subst l21 y21 z21
    obtain ⟨rfl, Nq21, hh21⟩ := hQ21
    have N21 := Fr.app N20 Nq21
    refine Goes.go (fun _ kk => st21.trans kk) ?_
    show Goes _ _ _ _ _ _ _ (T21.setTop (mkF m 291 _ [(.int (0 : Int32))]))
    refine Goes.go (fun _ kk => XS.ifNo X21.here hx rfl (hb hby at_291) rfl (XT.i0_ne_f (by decide)) kk) ?_
    show Goes _ _ _ _ _ _ _ (T21.setTop (mkF m 294 _ []))
    refine Goes.go (fun _ kk => XS.iconst X21.here hx rfl (hb hby at_294) kk) ?_
    show Goes _ _ _ _ _ _ _ (T21.setTop (mkF m 295 _ [(.int (1 : Int32))]))
    refine Goes.go (fun _ kk => XS.goto X21.here hx rfl (pc0 := 295) (pc' := 299) rfl (hb hby at_295) (by decide) (by decide) kk) ?_
    show Goes _ _ _ _ _ _ _ (T21.setTop (mkF m 299 _ [(.int (1 : Int32))]))
    refine Goes.go (fun _ kk => XS.istore X21.here hx rfl (hb hby at_299) rfl (l' := #[.val (.int p0), .val (.int p1), .val (.int p2), .val (.ref ar1), .val (.int (0 : Int32)), .val (.int (3 : Int32)), .val (.ref ob52), .val (.int (1 : Int32)), .val (.int ((p0).toInt8.toInt32 &&& (255 : Int32))), .val (.int ((((p0).toUInt32 >>> ((8 : Int32) &&& 31).toUInt32).toInt32).toInt8.toInt32 &&& (255 : Int32))), .val (.int ((((p0).toUInt32 >>> ((16 : Int32) &&& 31).toUInt32).toInt32).toInt8.toInt32 &&& (255 : Int32))), .val (.int (-1 : Int32)), .val (.int (-1 : Int32)), .val (.int (-1 : Int32))]) rfl kk) ?_
    show Goes _ _ _ _ _ _ _ (T21.setTop (mkF m 301 _ []))
    refine Goes.go (fun _ kk => XS.iload X21.here hx rfl (hb hby at_301) rfl kk) ?_
    show Goes _ _ _ _ _ _ _ (T21.setTop (mkF m 303 _ [(.int (1 : Int32))]))
    exact Goes.outZ X21 hx hlk hret rfl (hb hby at_303) hh21 ⟨rfl, N21⟩ (by decide) (by decide)
  · skip
    show Goes _ _ _ _ _ _ _ (T5.setTop (mkF m 52 #[.val (.int p0), .val (.int p1), .val (.int p2), .val (.ref ar1), .val (.int (0 : Int32)), .val (.int (4 : Int32)), .unset, .unset, .unset, .unset, .unset, .unset, .unset, .unset] []))
    obtain ⟨T6, h6, X6, e6, E6, A6, D6, -, st6⟩ := newO X5 hx hZ hown (hw _ (List.mem_of_getElem? (i := 2) rfl)) (hw _ (List.mem_of_getElem? (i := 3) rfl)) (hw _ (List.mem_of_getElem? (i := 4) rfl)) e5 (g := (mkF m 52 #[.val (.int p0), .val (.int p1), .val (.int p2), .val (.ref ar1), .val (.int (0 : Int32)), .val (.int (4 : Int32)), .unset, .unset, .unset, .unset, .unset, .unset, .unset, .unset] [])) rfl (hb hby at_52) (by decide) (by decide)
    obtain ⟨ob52, gob52⟩ : ∃ z, z = h5.size := ⟨_, rfl⟩
    rw [← gob52] at A6 D6 st6
    have ne_ar1_ob52 : ar1 ≠ ob52 := by rw [gob52]; exact Nat.ne_of_lt f_4.lt
    have f_5 := f_4.ext E6
    have Z6 : n0 ≤ h6.size := Nat.le_trans Z5 E6.1
    have ge_ob52 : n0 ≤ ob52 := Nat.le_trans Z5 (Nat.le_of_eq gob52.symm)
    have f_6 : Fld Z h6 ob52 "com/example/wide_schema/wideschema/io/BytesInput" "_bytes" "[B" .null := D6 (Or.inr (hw _ (List.mem_of_getElem? (i := 17) rfl))) (ty := (.array .byte)) (by decide)
    have f_7 : Fld Z h6 ob52 "com/example/wide_schema/wideschema/io/BytesInput" "_next" "I" (.int (0 : Int32)) := D6 (Or.inl (hw _ (List.mem_of_getElem? (i := 19) rfl))) (ty := .int) (by decide)
    have f_8 : Fld Z h6 ob52 "com/example/wide_schema/wideschema/io/BytesInput" "_end" "I" (.int (0 : Int32)) := D6 (Or.inr (hw _ (List.mem_of_getElem? (i := 21) rfl))) (ty := .int) (by decide)
    refine Goes.go (st6) ?_
    show Goes _ _ _ _ _ _ _ (T6.setTop (mkF m 55 _ [(.ref ob52)]))
    refine Goes.go (fun _ kk => XS.dup X6.here hx rfl (hb hby at_55) rfl rfl kk) ?_
    show Goes _ _ _ _ _ _ _ (T6.setTop (mkF m 56 _ [(.ref ob52), (.ref ob52)]))
    refine Goes.go (fun _ kk => XS.aloadN X6.here hx rfl (hb hby at_56) rfl rfl kk) ?_
    show Goes _ _ _ _ _ _ _ (T6.setTop (mkF m 57 _ [(.ref ar1), (.ref ob52), (.ref ob52)]))
    refine Goes.go (fun _ kk => XS.iload X6.here hx rfl (hb hby at_57) rfl kk) ?_
    show Goes _ _ _ _ _ _ _ (T6.setTop (mkF m 59 _ [(.int (0 : Int32)), (.ref ar1), (.ref ob52), (.ref ob52)]))
    refine Goes.go (fun _ kk => XS.iload X6.here hx rfl (hb hby at_59) rfl kk) ?_
    show Goes _ _ _ _ _ _ _ (T6.setTop (mkF m 61 _ [(.int (4 : Int32)), (.int (0 : Int32)), (.ref ar1), (.ref ob52), (.ref ob52)]))
    obtain ⟨_, _, ⟨T7, L7, k7, n7⟩, -, X7, ⟨Lc7, hQ7, l7, y7, z7⟩, st7⟩ := X6.specialBack hx (y := (⟨"com/example/wide_schema/wideschema/io/BytesInput", "<init>", "([BII)V"⟩ : MethodName)) rfl hown (mvT hZ (hw _ (List.mem_of_getElem? (i := 5) rfl))) (mvT hZ (hw _ (List.mem_of_getElem? (i := 6) rfl))) (mvT hZ (hw _ (List.mem_of_getElem? (i := 7) rfl))) (by decide) (backOf (W := 1) (rm1 l Z a0 hw [] ob52 ar1 (0 : Int32) (4 : Int32) h6 n0 Z6 A6 f_6 f_7 f_8 ge_ob52) hZ (hw _ (List.mem_of_getElem? (i := 7) rfl)) (hw _ (List.mem_of_getElem? (i := 4) rfl)) (by decide) (by decide)) (g := (mkF m 61 #[.val (.int p0), .val (.int p1), .val (.int p2), .val (.ref ar1), .val (.int (0 : Int32)), .val (.int (4 : Int32)), .unset, .unset, .unset, .unset, .unset, .unset, .unset, .unset] [(.int (4 : Int32)), (.int (0 : Int32)), (.ref ar1), (.ref ob52), (.ref ob52)])) rfl (by rw [hml]; rfl) (Steps.refl _) (a := ob52) (argsL := [(.ref ar1), (.int (0 : Int32)), (.int (4 : Int32))]) (rest := [(.ref ob52)]) (lenOf pd0 rfl) rfl (by show 2 * 0 + _ ≤ _; exact Nat.le_of_eq rfl) (hb hby at_61) (fun _ _ => ⟨rfl, e6, (by decide : 2 + 0 ≤ _), (by decide : 7 + 0 ≤ _)⟩)
    dsimp only [Pt.U, Pt.locs, Pt.cells, Pt.slots] at X7 l7 y7 z7 st7 hQ7
    subst l7 y7 z7
    obtain ⟨rfl, Nq7, Kq7, Eq7, Fq7_0, Fq7_1, Fq7_2⟩ := hQ7
    have N7 := Fr.app N5 Nq7
    have Z7 : n0 ≤ T7.heap.size := Nat.le_trans Z6 Kq7.1
    have f_9 := Arl.keep f_5 Kq7 (ninS ne_ar1_ob52 nin0)
    refine Goes.go (fun _ kk => st7.trans kk) ?_
    show Goes _ _ _ _ _ _ _ (T7.setTop (mkF m 64 _ [(.ref ob52)]))
    refine Goes.go (fun _ kk => XS.astore X7.here hx rfl (hb hby at_64) rfl rfl (l' := #[.val (.int p0), .val (.int p1), .val (.int p2), .val (.ref ar1), .val (.int (0 : Int32)), .val (.int (4 : Int32)), .val (.ref ob52), .unset, .unset, .unset, .unset, .unset, .unset, .unset]) rfl kk) ?_
    show Goes _ _ _ _ _ _ _ (T7.setTop (mkF m 66 #[.val (.int p0), .val (.int p1), .val (.int p2), .val (.ref ar1), .val (.int (0 : Int32)), .val (.int (4 : Int32)), .val (.ref ob52), .unset, .unset, .unset, .unset, .unset, .unset, .unset] []))
    refine Goes.go (fun _ kk => XS.aload X7.here hx rfl (hb hby at_66) rfl rfl kk) ?_
    show Goes _ _ _ _ _ _ _ (T7.setTop (mkF m 68 _ [(.ref ob52)]))
    obtain ⟨cq8, kq8, qa8, qb8, qc8⟩ := isOf hZ rfl Eq7
    obtain ⟨_, _, ⟨T8, L8, k8, n8⟩, -, X8, ⟨Lc8, hQ8, l8, y8, z8⟩, st8⟩ := X7.virtualBack hx (y := (⟨"com/example/wide_schema/wideschema/io/BytesInput", "available", "()I"⟩ : MethodName)) (z := (⟨"com/example/wide_schema/wideschema/io/BytesInput", "available", "()I"⟩ : MethodName)) hown (mvT hZ (hw _ (List.mem_of_getElem? (i := 22) rfl))) (mvT hZ (hw _ (List.mem_of_getElem? (i := 23) rfl))) (notFace_of_selects (args := #[]) (mvT hZ (hw _ (List.mem_of_getElem? (i := 25) rfl)))) (mvT hZ (hw _ (List.mem_of_getElem? (i := 25) rfl))) (mvT hZ (hw _ (List.mem_of_getElem? (i := 24) rfl))) (by decide) (backOf (W := 0) (rm3 l Z a0 hw [] ob52 (0 : Int32) (4 : Int32) T7.heap n0 Z7 Fq7_1 Fq7_2) hZ (hw _ (List.mem_of_getElem? (i := 26) rfl)) (hw _ (List.mem_of_getElem? (i := 4) rfl)) (by decide) (by decide)) qa8 qc8 (g := (mkF m 68 #[.val (.int p0), .val (.int p1), .val (.int p2), .val (.ref ar1), .val (.int (0 : Int32)), .val (.int (4 : Int32)), .val (.ref ob52), .unset, .unset, .unset, .unset, .unset, .unset, .unset] [(.ref ob52)])) rfl (by rw [hml]; rfl) (Steps.refl _) (argsL := []) (rest := []) (lenOf pd2 rfl) rfl (by show 2 * 0 + _ ≤ _; exact Nat.le_of_eq rfl) (hb hby at_68) (fun _ _ => ⟨rfl, rfl, (by decide : 2 + 0 ≤ _), (by decide : 7 + 0 ≤ _)⟩)
    dsimp only [Pt.U, Pt.locs, Pt.cells, Pt.slots] at X8 l8 y8 z8 st8 hQ8
    subst l8 y8 z8
    obtain ⟨rfl, Nq8, hh8⟩ := hQ8
    have N8 := Fr.app N7 Nq8
    refine Goes.go (fun _ kk => st8.trans kk) ?_
    show Goes _ _ _ _ _ _ _ (T8.setTop (mkF m 71 _ [(.int (4 : Int32))]))
    refine Goes.go (fun _ kk => XS.iload X8.here hx rfl (hb hby at_71) rfl kk) ?_
    show Goes _ _ _ _ _ _ _ (T8.setTop (mkF m 73 _ [(.int (4 : Int32)), (.int (4 : Int32))]))
    refine Goes.go (fun _ kk => XS.icmpNo X8.here hx rfl (hb hby at_73) rfl (XT.ii_ne_f (by decide)) kk) ?_
    show Goes _ _ _ _ _ _ _ (T8.setTop (mkF m 76 _ []))
    refine Goes.go (fun _ kk => XS.iconst X8.here hx rfl (hb hby at_76) kk) ?_
    show Goes _ _ _ _ _ _ _ (T8.setTop (mkF m 77 _ [(.int (1 : Int32))]))
    refine Goes.go (fun _ kk => XS.goto X8.here hx rfl (pc0 := 77) (pc' := 81) rfl (hb hby at_77) (by decide) (by decide) kk) ?_
    show Goes _ _ _ _ _ _ _ (T8.setTop (mkF m 81 _ [(.int (1 : Int32))]))
    refine Goes.go (fun _ kk => XS.istore X8.here hx rfl (hb hby at_81) rfl (l' := #[.val (.int p0), .val (.int p1), .val (.int p2), .val (.ref ar1), .val (.int (0 : Int32)), .val (.int (4 : Int32)), .val (.ref ob52), .val (.int (1 : Int32)), .unset, .unset, .unset, .unset, .unset, .unset]) rfl kk) ?_
    show Goes _ _ _ _ _ _ _ (T8.setTop (mkF m 83 #[.val (.int p0), .val (.int p1), .val (.int p2), .val (.ref ar1), .val (.int (0 : Int32)), .val (.int (4 : Int32)), .val (.ref ob52), .val (.int (1 : Int32)), .unset, .unset, .unset, .unset, .unset, .unset] []))
    refine Goes.go (fun _ kk => XS.aload X8.here hx rfl (hb hby at_83) rfl rfl kk) ?_
    show Goes _ _ _ _ _ _ _ (T8.setTop (mkF m 85 _ [(.ref ob52)]))
    obtain ⟨cq9, kq9, qa9, qb9, qc9⟩ := isOf hZ hh8 Eq7
    obtain ⟨_, _, ⟨T9, L9, k9, n9⟩, -, X9, ⟨Lc9, hQ9, l9, y9, z9⟩, st9⟩ := X8.virtualBack hx (y := (⟨"com/example/wide_schema/wideschema/io/BytesInput", "read", "()I"⟩ : MethodName)) (z := (⟨"com/example/wide_schema/wideschema/io/BytesInput", "read", "()I"⟩ : MethodName)) hown (mvT hZ (hw _ (List.mem_of_getElem? (i := 27) rfl))) (mvT hZ (hw _ (List.mem_of_getElem? (i := 28) rfl))) (notFace_of_selects (args := #[]) (mvT hZ (hw _ (List.mem_of_getElem? (i := 30) rfl)))) (mvT hZ (hw _ (List.mem_of_getElem? (i := 30) rfl))) (mvT hZ (hw _ (List.mem_of_getElem? (i := 29) rfl))) (by decide) (backOf (W := 0) (rmY l Z a0 hw [] ob52 ar1 _ (0 : Int32) (4 : Int32) (p0).toInt8.toInt32 T7.heap n0 Z7 Eq7 Fq7_0 Fq7_1 Fq7_2 ge_ob52 f_9 (by decide) (by decide) rfl) hZ (hw _ (List.mem_of_getElem? (i := 31) rfl)) (hw _ (List.mem_of_getElem? (i := 4) rfl)) (by decide) (by decide)) qa9 qc9 (g := (mkF m 85 #[.val (.int p0), .val (.int p1), .val (.int p2), .val (.ref ar1), .val (.int (0 : Int32)), .val (.int (4 : Int32)), .val (.ref ob52), .val (.int (1 : Int32)), .unset, .unset, .unset, .unset, .unset, .unset] [(.ref ob52)])) rfl (by rw [hml]; rfl) (Steps.refl _) (argsL := []) (rest := []) (lenOf pd2 rfl) rfl (by show 2 * 0 + _ ≤ _; exact Nat.le_of_eq rfl) (hb hby at_85) (fun _ _ => ⟨rfl, hh8, (by decide : 2 + 0 ≤ _), (by decide : 7 + 0 ≤ _)⟩)
    dsimp only [Pt.U, Pt.locs, Pt.cells, Pt.slots] at X9 l9 y9 z9 st9 hQ9
    subst l9 y9 z9
    obtain ⟨rfl, Nq9, Kq9, Eq9, Fq9_0, Fq9_1, Fq9_2⟩ := hQ9
    have N9 := Fr.app N8 Nq9
    have Z9 : n0 ≤ T9.heap.size := Nat.le_trans Z7 Kq9.1
    have f_10 := Arl.keep f_9 Kq9 (ninS ne_ar1_ob52 nin0)
    refine Goes.go (fun _ kk => st9.trans kk) ?_
    show Goes _ _ _ _ _ _ _ (T9.setTop (mkF m 88 _ [(.int ((p0).toInt8.toInt32 &&& (255 : Int32)))]))
    refine Goes.go (fun _ kk => XS.istore X9.here hx rfl (hb hby at_88) rfl (l' := #[.val (.int p0), .val (.int p1), .val (.int p2), .val (.ref ar1), .val (.int (0 : Int32)), .val (.int (4 : Int32)), .val (.ref ob52), .val (.int (1 : Int32)), .val (.int ((p0).toInt8.toInt32 &&& (255 : Int32))), .unset, .unset, .unset, .unset, .unset]) rfl kk) ?_
    show Goes _ _ _ _ _ _ _ (T9.setTop (mkF m 90 #[.val (.int p0), .val (.int p1), .val (.int p2), .val (.ref ar1), .val (.int (0 : Int32)), .val (.int (4 : Int32)), .val (.ref ob52), .val (.int (1 : Int32)), .val (.int ((p0).toInt8.toInt32 &&& (255 : Int32))), .unset, .unset, .unset, .unset, .unset] []))
    refine Goes.go (fun _ kk => XS.aload X9.here hx rfl (hb hby at_90) rfl rfl kk) ?_
    show Goes _ _ _ _ _ _ _ (T9.setTop (mkF m 92 _ [(.ref ob52)]))
    obtain ⟨cq10, kq10, qa10, qb10, qc10⟩ := isOf hZ rfl Eq9
    obtain ⟨_, _, ⟨T10, L10, k10, n10⟩, -, X10, ⟨Lc10, hQ10, l10, y10, z10⟩, st10⟩ := X9.virtualBack hx (y := (⟨"com/example/wide_schema/wideschema/io/BytesInput", "read", "()I"⟩ : MethodName)) (z := (⟨"com/example/wide_schema/wideschema/io/BytesInput", "read", "()I"⟩ : MethodName)) hown (mvT hZ (hw _ (List.mem_of_getElem? (i := 27) rfl))) (mvT hZ (hw _ (List.mem_of_getElem? (i := 28) rfl))) (notFace_of_selects (args := #[]) (mvT hZ (hw _ (List.mem_of_getElem? (i := 30) rfl)))) (mvT hZ (hw _ (List.mem_of_getElem? (i := 30) rfl))) (mvT hZ (hw _ (List.mem_of_getElem? (i := 29) rfl))) (by decide) (backOf (W := 0) (rmY l Z a0 hw [] ob52 ar1 _ (1 : Int32) (4 : Int32) (((p0).toUInt32 >>> ((8 : Int32) &&& 31).toUInt32).toInt32).toInt8.toInt32 T9.heap n0 Z9 Eq9 Fq9_0 Fq9_1 Fq9_2 ge_ob52 f_10 (by decide) (by decide) rfl) hZ (hw _ (List.mem_of_getElem? (i := 31) rfl)) (hw _ (List.mem_of_getElem? (i := 4) rfl)) (by decide) (by decide)) qa10 qc10 (g := (mkF m 92 #[.val (.int p0), .val (.int p1), .val (.int p2), .val (.ref ar1), .val (.int (0 : Int32)), .val (.int (4 : Int32)), .val (.ref ob52), .val (.int (1 : Int32)), .val (.int ((p0).toInt8.toInt32 &&& (255 : Int32))), .unset, .unset, .unset, .unset, .unset] [(.ref ob52)])) rfl (by rw [hml]; rfl) (Steps.refl _) (argsL := []) (rest := []) (lenOf pd2 rfl) rfl (by show 2 * 0 + _ ≤ _; exact Nat.le_of_eq rfl) (hb hby at_92) (fun _ _ => ⟨rfl, rfl, (by decide : 2 + 0 ≤ _), (by decide : 7 + 0 ≤ _)⟩)
    dsimp only [Pt.U, Pt.locs, Pt.cells, Pt.slots] at X10 l10 y10 z10 st10 hQ10
    subst l10 y10 z10
    obtain ⟨rfl, Nq10, Kq10, Eq10, Fq10_0, Fq10_1, Fq10_2⟩ := hQ10
    have N10 := Fr.app N9 Nq10
    have Z10 : n0 ≤ T10.heap.size := Nat.le_trans Z9 Kq10.1
    have f_11 := Arl.keep f_10 Kq10 (ninS ne_ar1_ob52 nin0)
    refine Goes.go (fun _ kk => st10.trans kk) ?_
    show Goes _ _ _ _ _ _ _ (T10.setTop (mkF m 95 _ [(.int ((((p0).toUInt32 >>> ((8 : Int32) &&& 31).toUInt32).toInt32).toInt8.toInt32 &&& (255 : Int32)))]))
    refine Goes.go (fun _ kk => XS.istore X10.here hx rfl (hb hby at_95) rfl (l' := #[.val (.int p0), .val (.int p1), .val (.int p2), .val (.ref ar1), .val (.int (0 : Int32)), .val (.int (4 : Int32)), .val (.ref ob52), .val (.int (1 : Int32)), .val (.int ((p0).toInt8.toInt32 &&& (255 : Int32))), .val (.int ((((p0).toUInt32 >>> ((8 : Int32) &&& 31).toUInt32).toInt32).toInt8.toInt32 &&& (255 : Int32))), .unset, .unset, .unset, .unset]) rfl kk) ?_
    show Goes _ _ _ _ _ _ _ (T10.setTop (mkF m 97 #[.val (.int p0), .val (.int p1), .val (.int p2), .val (.ref ar1), .val (.int (0 : Int32)), .val (.int (4 : Int32)), .val (.ref ob52), .val (.int (1 : Int32)), .val (.int ((p0).toInt8.toInt32 &&& (255 : Int32))), .val (.int ((((p0).toUInt32 >>> ((8 : Int32) &&& 31).toUInt32).toInt32).toInt8.toInt32 &&& (255 : Int32))), .unset, .unset, .unset, .unset] []))
    refine Goes.go (fun _ kk => XS.aload X10.here hx rfl (hb hby at_97) rfl rfl kk) ?_
    show Goes _ _ _ _ _ _ _ (T10.setTop (mkF m 99 _ [(.ref ob52)]))
    obtain ⟨cq11, kq11, qa11, qb11, qc11⟩ := isOf hZ rfl Eq10
    obtain ⟨_, _, ⟨T11, L11, k11, n11⟩, -, X11, ⟨Lc11, hQ11, l11, y11, z11⟩, st11⟩ := X10.virtualBack hx (y := (⟨"com/example/wide_schema/wideschema/io/BytesInput", "read", "()I"⟩ : MethodName)) (z := (⟨"com/example/wide_schema/wideschema/io/BytesInput", "read", "()I"⟩ : MethodName)) hown (mvT hZ (hw _ (List.mem_of_getElem? (i := 27) rfl))) (mvT hZ (hw _ (List.mem_of_getElem? (i := 28) rfl))) (notFace_of_selects (args := #[]) (mvT hZ (hw _ (List.mem_of_getElem? (i := 30) rfl)))) (mvT hZ (hw _ (List.mem_of_getElem? (i := 30) rfl))) (mvT hZ (hw _ (List.mem_of_getElem? (i := 29) rfl))) (by decide) (backOf (W := 0) (rmY l Z a0 hw [] ob52 ar1 _ (2 : Int32) (4 : Int32) (((p0).toUInt32 >>> ((16 : Int32) &&& 31).toUInt32).toInt32).toInt8.toInt32 T10.heap n0 Z10 Eq10 Fq10_0 Fq10_1 Fq10_2 ge_ob52 f_11 (by decide) (by decide) rfl) hZ (hw _ (List.mem_of_getElem? (i := 31) rfl)) (hw _ (List.mem_of_getElem? (i := 4) rfl)) (by decide) (by decide)) qa11 qc11 (g := (mkF m 99 #[.val (.int p0), .val (.int p1), .val (.int p2), .val (.ref ar1), .val (.int (0 : Int32)), .val (.int (4 : Int32)), .val (.ref ob52), .val (.int (1 : Int32)), .val (.int ((p0).toInt8.toInt32 &&& (255 : Int32))), .val (.int ((((p0).toUInt32 >>> ((8 : Int32) &&& 31).toUInt32).toInt32).toInt8.toInt32 &&& (255 : Int32))), .unset, .unset, .unset, .unset] [(.ref ob52)])) rfl (by rw [hml]; rfl) (Steps.refl _) (argsL := []) (rest := []) (lenOf pd2 rfl) rfl (by show 2 * 0 + _ ≤ _; exact Nat.le_of_eq rfl) (hb hby at_99) (fun _ _ => ⟨rfl, rfl, (by decide : 2 + 0 ≤ _), (by decide : 7 + 0 ≤ _)⟩)
    dsimp only [Pt.U, Pt.locs, Pt.cells, Pt.slots] at X11 l11 y11 z11 st11 hQ11
    subst l11 y11 z11
    obtain ⟨rfl, Nq11, Kq11, Eq11, Fq11_0, Fq11_1, Fq11_2⟩ := hQ11
    have N11 := Fr.app N10 Nq11
    have Z11 : n0 ≤ T11.heap.size := Nat.le_trans Z10 Kq11.1
    have f_12 := Arl.keep f_11 Kq11 (ninS ne_ar1_ob52 nin0)
    refine Goes.go (fun _ kk => st11.trans kk) ?_
    show Goes _ _ _ _ _ _ _ (T11.setTop (mkF m 102 _ [(.int ((((p0).toUInt32 >>> ((16 : Int32) &&& 31).toUInt32).toInt32).toInt8.toInt32 &&& (255 : Int32)))]))
    refine Goes.go (fun _ kk => XS.istore X11.here hx rfl (hb hby at_102) rfl (l' := #[.val (.int p0), .val (.int p1), .val (.int p2), .val (.ref ar1), .val (.int (0 : Int32)), .val (.int (4 : Int32)), .val (.ref ob52), .val (.int (1 : Int32)), .val (.int ((p0).toInt8.toInt32 &&& (255 : Int32))), .val (.int ((((p0).toUInt32 >>> ((8 : Int32) &&& 31).toUInt32).toInt32).toInt8.toInt32 &&& (255 : Int32))), .val (.int ((((p0).toUInt32 >>> ((16 : Int32) &&& 31).toUInt32).toInt32).toInt8.toInt32 &&& (255 : Int32))), .unset, .unset, .unset]) rfl kk) ?_
    show Goes _ _ _ _ _ _ _ (T11.setTop (mkF m 104 #[.val (.int p0), .val (.int p1), .val (.int p2), .val (.ref ar1), .val (.int (0 : Int32)), .val (.int (4 : Int32)), .val (.ref ob52), .val (.int (1 : Int32)), .val (.int ((p0).toInt8.toInt32 &&& (255 : Int32))), .val (.int ((((p0).toUInt32 >>> ((8 : Int32) &&& 31).toUInt32).toInt32).toInt8.toInt32 &&& (255 : Int32))), .val (.int ((((p0).toUInt32 >>> ((16 : Int32) &&& 31).toUInt32).toInt32).toInt8.toInt32 &&& (255 : Int32))), .unset, .unset, .unset] []))
    refine Goes.go (fun _ kk => XS.aload X11.here hx rfl (hb hby at_104) rfl rfl kk) ?_
    show Goes _ _ _ _ _ _ _ (T11.setTop (mkF m 106 _ [(.ref ob52)]))
    obtain ⟨cq12, kq12, qa12, qb12, qc12⟩ := isOf hZ rfl Eq11
    obtain ⟨_, _, ⟨T12, L12, k12, n12⟩, -, X12, ⟨Lc12, hQ12, l12, y12, z12⟩, st12⟩ := X11.virtualBack hx (y := (⟨"com/example/wide_schema/wideschema/io/BytesInput", "read", "()I"⟩ : MethodName)) (z := (⟨"com/example/wide_schema/wideschema/io/BytesInput", "read", "()I"⟩ : MethodName)) hown (mvT hZ (hw _ (List.mem_of_getElem? (i := 27) rfl))) (mvT hZ (hw _ (List.mem_of_getElem? (i := 28) rfl))) (notFace_of_selects (args := #[]) (mvT hZ (hw _ (List.mem_of_getElem? (i := 30) rfl)))) (mvT hZ (hw _ (List.mem_of_getElem? (i := 30) rfl))) (mvT hZ (hw _ (List.mem_of_getElem? (i := 29) rfl))) (by decide) (backOf (W := 0) (rmY l Z a0 hw [] ob52 ar1 _ (3 : Int32) (4 : Int32) (((p0).toUInt32 >>> ((24 : Int32) &&& 31).toUInt32).toInt32).toInt8.toInt32 T11.heap n0 Z11 Eq11 Fq11_0 Fq11_1 Fq11_2 ge_ob52 f_12 (by decide) (by decide) rfl) hZ (hw _ (List.mem_of_getElem? (i := 31) rfl)) (hw _ (List.mem_of_getElem? (i := 4) rfl)) (by decide) (by decide)) qa12 qc12 (g := (mkF m 106 #[.val (.int p0), .val (.int p1), .val (.int p2), .val (.ref ar1), .val (.int (0 : Int32)), .val (.int (4 : Int32)), .val (.ref ob52), .val (.int (1 : Int32)), .val (.int ((p0).toInt8.toInt32 &&& (255 : Int32))), .val (.int ((((p0).toUInt32 >>> ((8 : Int32) &&& 31).toUInt32).toInt32).toInt8.toInt32 &&& (255 : Int32))), .val (.int ((((p0).toUInt32 >>> ((16 : Int32) &&& 31).toUInt32).toInt32).toInt8.toInt32 &&& (255 : Int32))), .unset, .unset, .unset] [(.ref ob52)])) rfl (by rw [hml]; rfl) (Steps.refl _) (argsL := []) (rest := []) (lenOf pd2 rfl) rfl (by show 2 * 0 + _ ≤ _; exact Nat.le_of_eq rfl) (hb hby at_106) (fun _ _ => ⟨rfl, rfl, (by decide : 2 + 0 ≤ _), (by decide : 7 + 0 ≤ _)⟩)
    dsimp only [Pt.U, Pt.locs, Pt.cells, Pt.slots] at X12 l12 y12 z12 st12 hQ12
    subst l12 y12 z12
    obtain ⟨rfl, Nq12, Kq12, Eq12, Fq12_0, Fq12_1, Fq12_2⟩ := hQ12
    have N12 := Fr.app N11 Nq12
    have Z12 : n0 ≤ T12.heap.size := Nat.le_trans Z11 Kq12.1
    have f_13 := Arl.keep f_12 Kq12 (ninS ne_ar1_ob52 nin0)
    refine Goes.go (fun _ kk => st12.trans kk) ?_
    show Goes _ _ _ _ _ _ _ (T12.setTop (mkF m 109 _ [(.int ((((p0).toUInt32 >>> ((24 : Int32) &&& 31).toUInt32).toInt32).toInt8.toInt32 &&& (255 : Int32)))]))
    refine Goes.go (fun _ kk => XS.istore X12.here hx rfl (hb hby at_109) rfl (l' := #[.val (.int p0), .val (.int p1), .val (.int p2), .val (.ref ar1), .val (.int (0 : Int32)), .val (.int (4 : Int32)), .val (.ref ob52), .val (.int (1 : Int32)), .val (.int ((p0).toInt8.toInt32 &&& (255 : Int32))), .val (.int ((((p0).toUInt32 >>> ((8 : Int32) &&& 31).toUInt32).toInt32).toInt8.toInt32 &&& (255 : Int32))), .val (.int ((((p0).toUInt32 >>> ((16 : Int32) &&& 31).toUInt32).toInt32).toInt8.toInt32 &&& (255 : Int32))), .val (.int ((((p0).toUInt32 >>> ((24 : Int32) &&& 31).toUInt32).toInt32).toInt8.toInt32 &&& (255 : Int32))), .unset, .unset]) rfl kk) ?_
    show Goes _ _ _ _ _ _ _ (T12.setTop (mkF m 111 #[.val (.int p0), .val (.int p1), .val (.int p2), .val (.ref ar1), .val (.int (0 : Int32)), .val (.int (4 : Int32)), .val (.ref ob52), .val (.int (1 : Int32)), .val (.int ((p0).toInt8.toInt32 &&& (255 : Int32))), .val (.int ((((p0).toUInt32 >>> ((8 : Int32) &&& 31).toUInt32).toInt32).toInt8.toInt32 &&& (255 : Int32))), .val (.int ((((p0).toUInt32 >>> ((16 : Int32) &&& 31).toUInt32).toInt32).toInt8.toInt32 &&& (255 : Int32))), .val (.int ((((p0).toUInt32 >>> ((24 : Int32) &&& 31).toUInt32).toInt32).toInt8.toInt32 &&& (255 : Int32))), .unset, .unset] []))
    refine Goes.go (fun _ kk => XS.aload X12.here hx rfl (hb hby at_111) rfl rfl kk) ?_
    show Goes _ _ _ _ _ _ _ (T12.setTop (mkF m 113 _ [(.ref ob52)]))
    obtain ⟨cq13, kq13, qa13, qb13, qc13⟩ := isOf hZ rfl Eq12
    obtain ⟨_, _, ⟨T13, L13, k13, n13⟩, -, X13, ⟨Lc13, hQ13, l13, y13, z13⟩, st13⟩ := X12.virtualBack hx (y := (⟨"com/example/wide_schema/wideschema/io/BytesInput", "read", "()I"⟩ : MethodName)) (z := (⟨"com/example/wide_schema/wideschema/io/BytesInput", "read", "()I"⟩ : MethodName)) hown (mvT hZ (hw _ (List.mem_of_getElem? (i := 27) rfl))) (mvT hZ (hw _ (List.mem_of_getElem? (i := 28) rfl))) (notFace_of_selects (args := #[]) (mvT hZ (hw _ (List.mem_of_getElem? (i := 30) rfl)))) (mvT hZ (hw _ (List.mem_of_getElem? (i := 30) rfl))) (mvT hZ (hw _ (List.mem_of_getElem? (i := 29) rfl))) (by decide) (backOf (W := 0) (rmN l Z a0 hw [] ob52 (4 : Int32) (4 : Int32) T12.heap n0 Z12 Fq12_1 Fq12_2 (by decide)) hZ (hw _ (List.mem_of_getElem? (i := 31) rfl)) (hw _ (List.mem_of_getElem? (i := 4) rfl)) (by decide) (by decide)) qa13 qc13 (g := (mkF m 113 #[.val (.int p0), .val (.int p1), .val (.int p2), .val (.ref ar1), .val (.int (0 : Int32)), .val (.int (4 : Int32)), .val (.ref ob52), .val (.int (1 : Int32)), .val (.int ((p0).toInt8.toInt32 &&& (255 : Int32))), .val (.int ((((p0).toUInt32 >>> ((8 : Int32) &&& 31).toUInt32).toInt32).toInt8.toInt32 &&& (255 : Int32))), .val (.int ((((p0).toUInt32 >>> ((16 : Int32) &&& 31).toUInt32).toInt32).toInt8.toInt32 &&& (255 : Int32))), .val (.int ((((p0).toUInt32 >>> ((24 : Int32) &&& 31).toUInt32).toInt32).toInt8.toInt32 &&& (255 : Int32))), .unset, .unset] [(.ref ob52)])) rfl (by rw [hml]; rfl) (Steps.refl _) (argsL := []) (rest := []) (lenOf pd2 rfl) rfl (by show 2 * 0 + _ ≤ _; exact Nat.le_of_eq rfl) (hb hby at_113) (fun _ _ => ⟨rfl, rfl, (by decide : 2 + 0 ≤ _), (by decide : 7 + 0 ≤ _)⟩)
    dsimp only [Pt.U, Pt.locs, Pt.cells, Pt.slots] at X13 l13 y13 z13 st13 hQ13
    subst l13 y13 z13
    obtain ⟨rfl, Nq13, hh13⟩ := hQ13
    have N13 := Fr.app N12 Nq13
    refine Goes.go (fun _ kk => st13.trans kk) ?_
    show Goes _ _ _ _ _ _ _ (T13.setTop (mkF m 116 _ [(.int (-1 : Int32))]))
    refine Goes.go (fun _ kk => XS.istore X13.here hx rfl (hb hby at_116) rfl (l' := #[.val (.int p0), .val (.int p1), .val (.int p2), .val (.ref ar1), .val (.int (0 : Int32)), .val (.int (4 : Int32)), .val (.ref ob52), .val (.int (1 : Int32)), .val (.int ((p0).toInt8.toInt32 &&& (255 : Int32))), .val (.int ((((p0).toUInt32 >>> ((8 : Int32) &&& 31).toUInt32).toInt32).toInt8.toInt32 &&& (255 : Int32))), .val (.int ((((p0).toUInt32 >>> ((16 : Int32) &&& 31).toUInt32).toInt32).toInt8.toInt32 &&& (255 : Int32))), .val (.int ((((p0).toUInt32 >>> ((24 : Int32) &&& 31).toUInt32).toInt32).toInt8.toInt32 &&& (255 : Int32))), .val (.int (-1 : Int32)), .unset]) rfl kk) ?_
    show Goes _ _ _ _ _ _ _ (T13.setTop (mkF m 118 #[.val (.int p0), .val (.int p1), .val (.int p2), .val (.ref ar1), .val (.int (0 : Int32)), .val (.int (4 : Int32)), .val (.ref ob52), .val (.int (1 : Int32)), .val (.int ((p0).toInt8.toInt32 &&& (255 : Int32))), .val (.int ((((p0).toUInt32 >>> ((8 : Int32) &&& 31).toUInt32).toInt32).toInt8.toInt32 &&& (255 : Int32))), .val (.int ((((p0).toUInt32 >>> ((16 : Int32) &&& 31).toUInt32).toInt32).toInt8.toInt32 &&& (255 : Int32))), .val (.int ((((p0).toUInt32 >>> ((24 : Int32) &&& 31).toUInt32).toInt32).toInt8.toInt32 &&& (255 : Int32))), .val (.int (-1 : Int32)), .unset] []))
    refine Goes.go (fun _ kk => XS.aload X13.here hx rfl (hb hby at_118) rfl rfl kk) ?_
    show Goes _ _ _ _ _ _ _ (T13.setTop (mkF m 120 _ [(.ref ob52)]))
    obtain ⟨cq14, kq14, qa14, qb14, qc14⟩ := isOf hZ hh13 Eq12
    obtain ⟨_, _, ⟨T14, L14, k14, n14⟩, -, X14, ⟨Lc14, hQ14, l14, y14, z14⟩, st14⟩ := X13.virtualBack hx (y := (⟨"com/example/wide_schema/wideschema/io/BytesInput", "read", "()I"⟩ : MethodName)) (z := (⟨"com/example/wide_schema/wideschema/io/BytesInput", "read", "()I"⟩ : MethodName)) hown (mvT hZ (hw _ (List.mem_of_getElem? (i := 27) rfl))) (mvT hZ (hw _ (List.mem_of_getElem? (i := 28) rfl))) (notFace_of_selects (args := #[]) (mvT hZ (hw _ (List.mem_of_getElem? (i := 30) rfl)))) (mvT hZ (hw _ (List.mem_of_getElem? (i := 30) rfl))) (mvT hZ (hw _ (List.mem_of_getElem? (i := 29) rfl))) (by decide) (backOf (W := 0) (rmN l Z a0 hw [] ob52 (4 : Int32) (4 : Int32) T12.heap n0 Z12 Fq12_1 Fq12_2 (by decide)) hZ (hw _ (List.mem_of_getElem? (i := 31) rfl)) (hw _ (List.mem_of_getElem? (i := 4) rfl)) (by decide) (by decide)) qa14 qc14 (g := (mkF m 120 #[.val (.int p0), .val (.int p1), .val (.int p2), .val (.ref ar1), .val (.int (0 : Int32)), .val (.int (4 : Int32)), .val (.ref ob52), .val (.int (1 : Int32)), .val (.int ((p0).toInt8.toInt32 &&& (255 : Int32))), .val (.int ((((p0).toUInt32 >>> ((8 : Int32) &&& 31).toUInt32).toInt32).toInt8.toInt32 &&& (255 : Int32))), .val (.int ((((p0).toUInt32 >>> ((16 : Int32) &&& 31).toUInt32).toInt32).toInt8.toInt32 &&& (255 : Int32))), .val (.int ((((p0).toUInt32 >>> ((24 : Int32) &&& 31).toUInt32).toInt32).toInt8.toInt32 &&& (255 : Int32))), .val (.int (-1 : Int32)), .unset] [(.ref ob52)])) rfl (by rw [hml]; rfl) (Steps.refl _) (argsL := []) (rest := []) (lenOf pd2 rfl) rfl (by show 2 * 0 + _ ≤ _; exact Nat.le_of_eq rfl) (hb hby at_120) (fun _ _ => ⟨rfl, hh13, (by decide : 2 + 0 ≤ _), (by decide : 7 + 0 ≤ _)⟩)
    dsimp only [Pt.U, Pt.locs, Pt.cells, Pt.slots] at X14 l14 y14 z14 st14 hQ14
    subst l14 y14 z14
    obtain ⟨rfl, Nq14, hh14⟩ := hQ14
    have N14 := Fr.app N13 Nq14
    refine Goes.go (fun _ kk => st14.trans kk) ?_
    show Goes _ _ _ _ _ _ _ (T14.setTop (mkF m 123 _ [(.int (-1 : Int32))]))
    refine Goes.go (fun _ kk => XS.istore X14.here hx rfl (hb hby at_123) rfl (l' := #[.val (.int p0), .val (.int p1), .val (.int p2), .val (.ref ar1), .val (.int (0 : Int32)), .val (.int (4 : Int32)), .val (.ref ob52), .val (.int (1 : Int32)), .val (.int ((p0).toInt8.toInt32 &&& (255 : Int32))), .val (.int ((((p0).toUInt32 >>> ((8 : Int32) &&& 31).toUInt32).toInt32).toInt8.toInt32 &&& (255 : Int32))), .val (.int ((((p0).toUInt32 >>> ((16 : Int32) &&& 31).toUInt32).toInt32).toInt8.toInt32 &&& (255 : Int32))), .val (.int ((((p0).toUInt32 >>> ((24 : Int32) &&& 31).toUInt32).toInt32).toInt8.toInt32 &&& (255 : Int32))), .val (.int (-1 : Int32)), .val (.int (-1 : Int32))]) rfl kk) ?_
    show Goes _ _ _ _ _ _ _ (T14.setTop (mkF m 125 #[.val (.int p0), .val (.int p1), .val (.int p2), .val (.ref ar1), .val (.int (0 : Int32)), .val (.int (4 : Int32)), .val (.ref ob52), .val (.int (1 : Int32)), .val (.int ((p0).toInt8.toInt32 &&& (255 : Int32))), .val (.int ((((p0).toUInt32 >>> ((8 : Int32) &&& 31).toUInt32).toInt32).toInt8.toInt32 &&& (255 : Int32))), .val (.int ((((p0).toUInt32 >>> ((16 : Int32) &&& 31).toUInt32).toInt32).toInt8.toInt32 &&& (255 : Int32))), .val (.int ((((p0).toUInt32 >>> ((24 : Int32) &&& 31).toUInt32).toInt32).toInt8.toInt32 &&& (255 : Int32))), .val (.int (-1 : Int32)), .val (.int (-1 : Int32))] []))
    refine Goes.go (fun _ kk => XS.iload X14.here hx rfl (hb hby at_125) rfl kk) ?_
    show Goes _ _ _ _ _ _ _ (T14.setTop (mkF m 127 _ [(.int (1 : Int32))]))
    refine Goes.go (fun _ kk => XS.ifNo X14.here hx rfl (hb hby at_127) rfl (XT.i0_eq_f (by decide)) kk) ?_
    show Goes _ _ _ _ _ _ _ (T14.setTop (mkF m 130 _ []))
    refine Goes.go (fun _ kk => XS.iload X14.here hx rfl (hb hby at_130) rfl kk) ?_
    show Goes _ _ _ _ _ _ _ (T14.setTop (mkF m 132 _ [(.int ((p0).toInt8.toInt32 &&& (255 : Int32)))]))
    refine Goes.go (fun _ kk => XS.iloadN X14.here hx rfl (hb hby at_132) rfl kk) ?_
    show Goes _ _ _ _ _ _ _ (T14.setTop (mkF m 133 _ [(.int p0), (.int ((p0).toInt8.toInt32 &&& (255 : Int32)))]))
    refine Goes.go (fun _ kk => XS.iload X14.here hx rfl (hb hby at_133) rfl kk) ?_
    show Goes _ _ _ _ _ _ _ (T14.setTop (mkF m 135 _ [(.int (0 : Int32)), (.int p0), (.int ((p0).toInt8.toInt32 &&& (255 : Int32)))]))
    refine Goes.go (fun _ kk => XS.iload X14.here hx rfl (hb hby at_135) rfl kk) ?_
    show Goes _ _ _ _ _ _ _ (T14.setTop (mkF m 137 _ [(.int (4 : Int32)), (.int (0 : Int32)), (.int p0), (.int ((p0).toInt8.toInt32 &&& (255 : Int32)))]))
    refine Goes.go (fun _ kk => XS.iconst X14.here hx rfl (hb hby at_137) kk) ?_
    show Goes _ _ _ _ _ _ _ (T14.setTop (mkF m 138 _ [(.int (0 : Int32)), (.int (4 : Int32)), (.int (0 : Int32)), (.int p0), (.int ((p0).toInt8.toInt32 &&& (255 : Int32)))]))
    obtain ⟨_, _, ⟨T15, L15, k15, n15⟩, -, X15, ⟨Lc15, hQ15, l15, y15, z15⟩, st15⟩ := Jvm.LawKit.callS X14 hx (y := (⟨"com/example/wide_schema/wideschema/io/BytesInputReadPinLaw", "exp", "(IIII)I"⟩ : MethodName)) hown (mvT hZ (hw _ (List.mem_of_getElem? (i := 32) rfl))) (mvT hZ (hw _ (List.mem_of_getElem? (i := 33) rfl))) (mvT hZ (hw _ (List.mem_of_getElem? (i := 34) rfl))) (mvT hZ (hw _ (List.mem_of_getElem? (i := 35) rfl))) (by decide) (backOf (W := 1) (rm5 l Z a0 hw [] p0 (0 : Int32) (4 : Int32) (0 : Int32) T12.heap n0 Z12) hZ (hw _ (List.mem_of_getElem? (i := 35) rfl)) (hw _ (List.mem_of_getElem? (i := 34) rfl)) (by decide) (by decide)) (g := (mkF m 138 #[.val (.int p0), .val (.int p1), .val (.int p2), .val (.ref ar1), .val (.int (0 : Int32)), .val (.int (4 : Int32)), .val (.ref ob52), .val (.int (1 : Int32)), .val (.int ((p0).toInt8.toInt32 &&& (255 : Int32))), .val (.int ((((p0).toUInt32 >>> ((8 : Int32) &&& 31).toUInt32).toInt32).toInt8.toInt32 &&& (255 : Int32))), .val (.int ((((p0).toUInt32 >>> ((16 : Int32) &&& 31).toUInt32).toInt32).toInt8.toInt32 &&& (255 : Int32))), .val (.int ((((p0).toUInt32 >>> ((24 : Int32) &&& 31).toUInt32).toInt32).toInt8.toInt32 &&& (255 : Int32))), .val (.int (-1 : Int32)), .val (.int (-1 : Int32))] [(.int (0 : Int32)), (.int (4 : Int32)), (.int (0 : Int32)), (.int p0), (.int ((p0).toInt8.toInt32 &&& (255 : Int32)))])) rfl (by rw [hml]; rfl) (argsL := [(.int p0), (.int (0 : Int32)), (.int (4 : Int32)), (.int (0 : Int32))]) (rest := [(.int ((p0).toInt8.toInt32 &&& (255 : Int32)))]) (lenOf pd3 rfl) rfl (by show 2 * 0 + _ ≤ _; exact Nat.le_of_eq rfl) (hb hby at_138) (fun _ _ => ⟨rfl, hh14, (by decide : 2 + 0 ≤ _), (by decide : 7 + 0 ≤ _)⟩)
    dsimp only [Pt.U, Pt.locs, Pt.cells, Pt.slots] at X15 l15 y15 z15 st15 hQ15
    subst l15 y15 z15
    obtain ⟨rfl, Nq15, hh15⟩ := hQ15
    have N15 := Fr.app N14 Nq15
    refine Goes.go (st15) ?_
    show Goes _ _ _ _ _ _ _ (T15.setTop (mkF m 141 _ [(.int (exF p0 (0 : Int32) (4 : Int32) (0 : Int32))), (.int ((p0).toInt8.toInt32 &&& (255 : Int32)))]))
    refine Goes.go (fun _ kk => XS.icmpNo X15.here hx rfl (hb hby at_141) rfl (XT.ii_ne_f (own_0 (by decide) (by decide))) kk) ?_
    show Goes _ _ _ _ _ _ _ (T15.setTop (mkF m 144 _ []))
    refine Goes.go (fun _ kk => XS.iconst X15.here hx rfl (hb hby at_144) kk) ?_
    show Goes _ _ _ _ _ _ _ (T15.setTop (mkF m 145 _ [(.int (1 : Int32))]))
    refine Goes.go (fun _ kk => XS.goto X15.here hx rfl (pc0 := 145) (pc' := 149) rfl (hb hby at_145) (by decide) (by decide) kk) ?_
    show Goes _ _ _ _ _ _ _ (T15.setTop (mkF m 149 _ [(.int (1 : Int32))]))
    refine Goes.go (fun _ kk => XS.istore X15.here hx rfl (hb hby at_149) rfl (l' := #[.val (.int p0), .val (.int p1), .val (.int p2), .val (.ref ar1), .val (.int (0 : Int32)), .val (.int (4 : Int32)), .val (.ref ob52), .val (.int (1 : Int32)), .val (.int ((p0).toInt8.toInt32 &&& (255 : Int32))), .val (.int ((((p0).toUInt32 >>> ((8 : Int32) &&& 31).toUInt32).toInt32).toInt8.toInt32 &&& (255 : Int32))), .val (.int ((((p0).toUInt32 >>> ((16 : Int32) &&& 31).toUInt32).toInt32).toInt8.toInt32 &&& (255 : Int32))), .val (.int ((((p0).toUInt32 >>> ((24 : Int32) &&& 31).toUInt32).toInt32).toInt8.toInt32 &&& (255 : Int32))), .val (.int (-1 : Int32)), .val (.int (-1 : Int32))]) rfl kk) ?_
    show Goes _ _ _ _ _ _ _ (T15.setTop (mkF m 151 _ []))
    refine Goes.go (fun _ kk => XS.iload X15.here hx rfl (hb hby at_151) rfl kk) ?_
    show Goes _ _ _ _ _ _ _ (T15.setTop (mkF m 153 _ [(.int (1 : Int32))]))
    refine Goes.go (fun _ kk => XS.ifNo X15.here hx rfl (hb hby at_153) rfl (XT.i0_eq_f (by decide)) kk) ?_
    show Goes _ _ _ _ _ _ _ (T15.setTop (mkF m 156 _ []))
    refine Goes.go (fun _ kk => XS.iload X15.here hx rfl (hb hby at_156) rfl kk) ?_
    show Goes _ _ _ _ _ _ _ (T15.setTop (mkF m 158 _ [(.int ((((p0).toUInt32 >>> ((8 : Int32) &&& 31).toUInt32).toInt32).toInt8.toInt32 &&& (255 : Int32)))]))
    refine Goes.go (fun _ kk => XS.iloadN X15.here hx rfl (hb hby at_158) rfl kk) ?_
    show Goes _ _ _ _ _ _ _ (T15.setTop (mkF m 159 _ [(.int p0), (.int ((((p0).toUInt32 >>> ((8 : Int32) &&& 31).toUInt32).toInt32).toInt8.toInt32 &&& (255 : Int32)))]))
    refine Goes.go (fun _ kk => XS.iload X15.here hx rfl (hb hby at_159) rfl kk) ?_
    show Goes _ _ _ _ _ _ _ (T15.setTop (mkF m 161 _ [(.int (0 : Int32)), (.int p0), (.int ((((p0).toUInt32 >>> ((8 : Int32) &&& 31).toUInt32).toInt32).toInt8.toInt32 &&& (255 : Int32)))]))
    refine Goes.go (fun _ kk => XS.iload X15.here hx rfl (hb hby at_161) rfl kk) ?_
    show Goes _ _ _ _ _ _ _ (T15.setTop (mkF m 163 _ [(.int (4 : Int32)), (.int (0 : Int32)), (.int p0), (.int ((((p0).toUInt32 >>> ((8 : Int32) &&& 31).toUInt32).toInt32).toInt8.toInt32 &&& (255 : Int32)))]))
    refine Goes.go (fun _ kk => XS.iconst X15.here hx rfl (hb hby at_163) kk) ?_
    show Goes _ _ _ _ _ _ _ (T15.setTop (mkF m 164 _ [(.int (1 : Int32)), (.int (4 : Int32)), (.int (0 : Int32)), (.int p0), (.int ((((p0).toUInt32 >>> ((8 : Int32) &&& 31).toUInt32).toInt32).toInt8.toInt32 &&& (255 : Int32)))]))
    obtain ⟨_, _, ⟨T16, L16, k16, n16⟩, -, X16, ⟨Lc16, hQ16, l16, y16, z16⟩, st16⟩ := Jvm.LawKit.callS X15 hx (y := (⟨"com/example/wide_schema/wideschema/io/BytesInputReadPinLaw", "exp", "(IIII)I"⟩ : MethodName)) hown (mvT hZ (hw _ (List.mem_of_getElem? (i := 32) rfl))) (mvT hZ (hw _ (List.mem_of_getElem? (i := 33) rfl))) (mvT hZ (hw _ (List.mem_of_getElem? (i := 34) rfl))) (mvT hZ (hw _ (List.mem_of_getElem? (i := 35) rfl))) (by decide) (backOf (W := 1) (rm5 l Z a0 hw [] p0 (0 : Int32) (4 : Int32) (1 : Int32) T12.heap n0 Z12) hZ (hw _ (List.mem_of_getElem? (i := 35) rfl)) (hw _ (List.mem_of_getElem? (i := 34) rfl)) (by decide) (by decide)) (g := (mkF m 164 #[.val (.int p0), .val (.int p1), .val (.int p2), .val (.ref ar1), .val (.int (0 : Int32)), .val (.int (4 : Int32)), .val (.ref ob52), .val (.int (1 : Int32)), .val (.int ((p0).toInt8.toInt32 &&& (255 : Int32))), .val (.int ((((p0).toUInt32 >>> ((8 : Int32) &&& 31).toUInt32).toInt32).toInt8.toInt32 &&& (255 : Int32))), .val (.int ((((p0).toUInt32 >>> ((16 : Int32) &&& 31).toUInt32).toInt32).toInt8.toInt32 &&& (255 : Int32))), .val (.int ((((p0).toUInt32 >>> ((24 : Int32) &&& 31).toUInt32).toInt32).toInt8.toInt32 &&& (255 : Int32))), .val (.int (-1 : Int32)), .val (.int (-1 : Int32))] [(.int (1 : Int32)), (.int (4 : Int32)), (.int (0 : Int32)), (.int p0), (.int ((((p0).toUInt32 >>> ((8 : Int32) &&& 31).toUInt32).toInt32).toInt8.toInt32 &&& (255 : Int32)))])) rfl (by rw [hml]; rfl) (argsL := [(.int p0), (.int (0 : Int32)), (.int (4 : Int32)), (.int (1 : Int32))]) (rest := [(.int ((((p0).toUInt32 >>> ((8 : Int32) &&& 31).toUInt32).toInt32).toInt8.toInt32 &&& (255 : Int32)))]) (lenOf pd3 rfl) rfl (by show 2 * 0 + _ ≤ _; exact Nat.le_of_eq rfl) (hb hby at_164) (fun _ _ => ⟨rfl, hh15, (by decide : 2 + 0 ≤ _), (by decide : 7 + 0 ≤ _)⟩)
    dsimp only [Pt.U, Pt.locs, Pt.cells, Pt.slots] at X16 l16 y16 z16 st16 hQ16
    subst l16 y16 z16
    obtain ⟨rfl, Nq16, hh16⟩ := hQ16
    have N16 := Fr.app N15 Nq16
    refine Goes.go (st16) ?_
    show Goes _ _ _ _ _ _ _ (T16.setTop (mkF m 167 _ [(.int (exF p0 (0 : Int32) (4 : Int32) (1 : Int32))), (.int ((((p0).toUInt32 >>> ((8 : Int32) &&& 31).toUInt32).toInt32).toInt8.toInt32 &&& (255 : Int32)))]))
    refine Goes.go (fun _ kk => XS.icmpNo X16.here hx rfl (hb hby at_167) rfl (XT.ii_ne_f (own_n (8 : Int32) (by decide) (by decide))) kk) ?_
    show Goes _ _ _ _ _ _ _ (T16.setTop (mkF m 170 _ []))
    refine Goes.go (fun _ kk => XS.iconst X16.here hx rfl (hb hby at_170) kk) ?_
    show Goes _ _ _ _ _ _ _ (T16.setTop (mkF m 171 _ [(.int (1 : Int32))]))
    refine Goes.go (fun _ kk => XS.goto X16.here hx rfl (pc0 := 171) (pc' := 175) rfl (hb hby at_171) (by decide) (by decide) kk) ?_
    show Goes _ _ _ _ _ _ _ (T16.setTop (mkF m 175 _ [(.int (1 : Int32))]))
    refine Goes.go (fun _ kk => XS.istore X16.here hx rfl (hb hby at_175) rfl (l' := #[.val (.int p0), .val (.int p1), .val (.int p2), .val (.ref ar1), .val (.int (0 : Int32)), .val (.int (4 : Int32)), .val (.ref ob52), .val (.int (1 : Int32)), .val (.int ((p0).toInt8.toInt32 &&& (255 : Int32))), .val (.int ((((p0).toUInt32 >>> ((8 : Int32) &&& 31).toUInt32).toInt32).toInt8.toInt32 &&& (255 : Int32))), .val (.int ((((p0).toUInt32 >>> ((16 : Int32) &&& 31).toUInt32).toInt32).toInt8.toInt32 &&& (255 : Int32))), .val (.int ((((p0).toUInt32 >>> ((24 : Int32) &&& 31).toUInt32).toInt32).toInt8.toInt32 &&& (255 : Int32))), .val (.int (-1 : Int32)), .val (.int (-1 : Int32))]) rfl kk) ?_
    show Goes _ _ _ _ _ _ _ (T16.setTop (mkF m 177 _ []))
    refine Goes.go (fun _ kk => XS.iload X16.here hx rfl (hb hby at_177) rfl kk) ?_
    show Goes _ _ _ _ _ _ _ (T16.setTop (mkF m 179 _ [(.int (1 : Int32))]))
    refine Goes.go (fun _ kk => XS.ifNo X16.here hx rfl (hb hby at_179) rfl (XT.i0_eq_f (by decide)) kk) ?_
    show Goes _ _ _ _ _ _ _ (T16.setTop (mkF m 182 _ []))
    refine Goes.go (fun _ kk => XS.iload X16.here hx rfl (hb hby at_182) rfl kk) ?_
    show Goes _ _ _ _ _ _ _ (T16.setTop (mkF m 184 _ [(.int ((((p0).toUInt32 >>> ((16 : Int32) &&& 31).toUInt32).toInt32).toInt8.toInt32 &&& (255 : Int32)))]))
    refine Goes.go (fun _ kk => XS.iloadN X16.here hx rfl (hb hby at_184) rfl kk) ?_
    show Goes _ _ _ _ _ _ _ (T16.setTop (mkF m 185 _ [(.int p0), (.int ((((p0).toUInt32 >>> ((16 : Int32) &&& 31).toUInt32).toInt32).toInt8.toInt32 &&& (255 : Int32)))]))
    refine Goes.go (fun _ kk => XS.iload X16.here hx rfl (hb hby at_185) rfl kk) ?_
    show Goes _ _ _ _ _ _ _ (T16.setTop (mkF m 187 _ [(.int (0 : Int32)), (.int p0), (.int ((((p0).toUInt32 >>> ((16 : Int32) &&& 31).toUInt32).toInt32).toInt8.toInt32 &&& (255 : Int32)))]))
    refine Goes.go (fun _ kk => XS.iload X16.here hx rfl (hb hby at_187) rfl kk) ?_
    show Goes _ _ _ _ _ _ _ (T16.setTop (mkF m 189 _ [(.int (4 : Int32)), (.int (0 : Int32)), (.int p0), (.int ((((p0).toUInt32 >>> ((16 : Int32) &&& 31).toUInt32).toInt32).toInt8.toInt32 &&& (255 : Int32)))]))
    refine Goes.go (fun _ kk => XS.iconst X16.here hx rfl (hb hby at_189) kk) ?_
    show Goes _ _ _ _ _ _ _ (T16.setTop (mkF m 190 _ [(.int (2 : Int32)), (.int (4 : Int32)), (.int (0 : Int32)), (.int p0), (.int ((((p0).toUInt32 >>> ((16 : Int32) &&& 31).toUInt32).toInt32).toInt8.toInt32 &&& (255 : Int32)))]))
    obtain ⟨_, _, ⟨T17, L17, k17, n17⟩, -, X17, ⟨Lc17, hQ17, l17, y17, z17⟩, st17⟩ := Jvm.LawKit.callS X16 hx (y := (⟨"com/example/wide_schema/wideschema/io/BytesInputReadPinLaw", "exp", "(IIII)I"⟩ : MethodName)) hown (mvT hZ (hw _ (List.mem_of_getElem? (i := 32) rfl))) (mvT hZ (hw _ (List.mem_of_getElem? (i := 33) rfl))) (mvT hZ (hw _ (List.mem_of_getElem? (i := 34) rfl))) (mvT hZ (hw _ (List.mem_of_getElem? (i := 35) rfl))) (by decide) (backOf (W := 1) (rm5 l Z a0 hw [] p0 (0 : Int32) (4 : Int32) (2 : Int32) T12.heap n0 Z12) hZ (hw _ (List.mem_of_getElem? (i := 35) rfl)) (hw _ (List.mem_of_getElem? (i := 34) rfl)) (by decide) (by decide)) (g := (mkF m 190 #[.val (.int p0), .val (.int p1), .val (.int p2), .val (.ref ar1), .val (.int (0 : Int32)), .val (.int (4 : Int32)), .val (.ref ob52), .val (.int (1 : Int32)), .val (.int ((p0).toInt8.toInt32 &&& (255 : Int32))), .val (.int ((((p0).toUInt32 >>> ((8 : Int32) &&& 31).toUInt32).toInt32).toInt8.toInt32 &&& (255 : Int32))), .val (.int ((((p0).toUInt32 >>> ((16 : Int32) &&& 31).toUInt32).toInt32).toInt8.toInt32 &&& (255 : Int32))), .val (.int ((((p0).toUInt32 >>> ((24 : Int32) &&& 31).toUInt32).toInt32).toInt8.toInt32 &&& (255 : Int32))), .val (.int (-1 : Int32)), .val (.int (-1 : Int32))] [(.int (2 : Int32)), (.int (4 : Int32)), (.int (0 : Int32)), (.int p0), (.int ((((p0).toUInt32 >>> ((16 : Int32) &&& 31).toUInt32).toInt32).toInt8.toInt32 &&& (255 : Int32)))])) rfl (by rw [hml]; rfl) (argsL := [(.int p0), (.int (0 : Int32)), (.int (4 : Int32)), (.int (2 : Int32))]) (rest := [(.int ((((p0).toUInt32 >>> ((16 : Int32) &&& 31).toUInt32).toInt32).toInt8.toInt32 &&& (255 : Int32)))]) (lenOf pd3 rfl) rfl (by show 2 * 0 + _ ≤ _; exact Nat.le_of_eq rfl) (hb hby at_190) (fun _ _ => ⟨rfl, hh16, (by decide : 2 + 0 ≤ _), (by decide : 7 + 0 ≤ _)⟩)
    dsimp only [Pt.U, Pt.locs, Pt.cells, Pt.slots] at X17 l17 y17 z17 st17 hQ17
    subst l17 y17 z17
    obtain ⟨rfl, Nq17, hh17⟩ := hQ17
    have N17 := Fr.app N16 Nq17
    refine Goes.go (st17) ?_
    show Goes _ _ _ _ _ _ _ (T17.setTop (mkF m 193 _ [(.int (exF p0 (0 : Int32) (4 : Int32) (2 : Int32))), (.int ((((p0).toUInt32 >>> ((16 : Int32) &&& 31).toUInt32).toInt32).toInt8.toInt32 &&& (255 : Int32)))]))
    refine Goes.go (fun _ kk => XS.icmpNo X17.here hx rfl (hb hby at_193) rfl (XT.ii_ne_f (own_n (16 : Int32) (by decide) (by decide))) kk) ?_
    show Goes _ _ _ _ _ _ _ (T17.setTop (mkF m 196 _ []))
    refine Goes.go (fun _ kk => XS.iconst X17.here hx rfl (hb hby at_196) kk) ?_
    show Goes _ _ _ _ _ _ _ (T17.setTop (mkF m 197 _ [(.int (1 : Int32))]))
    refine Goes.go (fun _ kk => XS.goto X17.here hx rfl (pc0 := 197) (pc' := 201) rfl (hb hby at_197) (by decide) (by decide) kk) ?_
    show Goes _ _ _ _ _ _ _ (T17.setTop (mkF m 201 _ [(.int (1 : Int32))]))
    refine Goes.go (fun _ kk => XS.istore X17.here hx rfl (hb hby at_201) rfl (l' := #[.val (.int p0), .val (.int p1), .val (.int p2), .val (.ref ar1), .val (.int (0 : Int32)), .val (.int (4 : Int32)), .val (.ref ob52), .val (.int (1 : Int32)), .val (.int ((p0).toInt8.toInt32 &&& (255 : Int32))), .val (.int ((((p0).toUInt32 >>> ((8 : Int32) &&& 31).toUInt32).toInt32).toInt8.toInt32 &&& (255 : Int32))), .val (.int ((((p0).toUInt32 >>> ((16 : Int32) &&& 31).toUInt32).toInt32).toInt8.toInt32 &&& (255 : Int32))), .val (.int ((((p0).toUInt32 >>> ((24 : Int32) &&& 31).toUInt32).toInt32).toInt8.toInt32 &&& (255 : Int32))), .val (.int (-1 : Int32)), .val (.int (-1 : Int32))]) rfl kk) ?_
    show Goes _ _ _ _ _ _ _ (T17.setTop (mkF m 203 _ []))
    refine Goes.go (fun _ kk => XS.iload X17.here hx rfl (hb hby at_203) rfl kk) ?_
    show Goes _ _ _ _ _ _ _ (T17.setTop (mkF m 205 _ [(.int (1 : Int32))]))
    refine Goes.go (fun _ kk => XS.ifNo X17.here hx rfl (hb hby at_205) rfl (XT.i0_eq_f (by decide)) kk) ?_
    show Goes _ _ _ _ _ _ _ (T17.setTop (mkF m 208 _ []))
    refine Goes.go (fun _ kk => XS.iload X17.here hx rfl (hb hby at_208) rfl kk) ?_
    show Goes _ _ _ _ _ _ _ (T17.setTop (mkF m 210 _ [(.int ((((p0).toUInt32 >>> ((24 : Int32) &&& 31).toUInt32).toInt32).toInt8.toInt32 &&& (255 : Int32)))]))
    refine Goes.go (fun _ kk => XS.iloadN X17.here hx rfl (hb hby at_210) rfl kk) ?_
    show Goes _ _ _ _ _ _ _ (T17.setTop (mkF m 211 _ [(.int p0), (.int ((((p0).toUInt32 >>> ((24 : Int32) &&& 31).toUInt32).toInt32).toInt8.toInt32 &&& (255 : Int32)))]))
    refine Goes.go (fun _ kk => XS.iload X17.here hx rfl (hb hby at_211) rfl kk) ?_
    show Goes _ _ _ _ _ _ _ (T17.setTop (mkF m 213 _ [(.int (0 : Int32)), (.int p0), (.int ((((p0).toUInt32 >>> ((24 : Int32) &&& 31).toUInt32).toInt32).toInt8.toInt32 &&& (255 : Int32)))]))
    refine Goes.go (fun _ kk => XS.iload X17.here hx rfl (hb hby at_213) rfl kk) ?_
    show Goes _ _ _ _ _ _ _ (T17.setTop (mkF m 215 _ [(.int (4 : Int32)), (.int (0 : Int32)), (.int p0), (.int ((((p0).toUInt32 >>> ((24 : Int32) &&& 31).toUInt32).toInt32).toInt8.toInt32 &&& (255 : Int32)))]))
    refine Goes.go (fun _ kk => XS.iconst X17.here hx rfl (hb hby at_215) kk) ?_
    show Goes _ _ _ _ _ _ _ (T17.setTop (mkF m 216 _ [(.int (3 : Int32)), (.int (4 : Int32)), (.int (0 : Int32)), (.int p0), (.int ((((p0).toUInt32 >>> ((24 : Int32) &&& 31).toUInt32).toInt32).toInt8.toInt32 &&& (255 : Int32)))]))
    obtain ⟨_, _, ⟨T18, L18, k18, n18⟩, -, X18, ⟨Lc18, hQ18, l18, y18, z18⟩, st18⟩ := Jvm.LawKit.callS X17 hx (y := (⟨"com/example/wide_schema/wideschema/io/BytesInputReadPinLaw", "exp", "(IIII)I"⟩ : MethodName)) hown (mvT hZ (hw _ (List.mem_of_getElem? (i := 32) rfl))) (mvT hZ (hw _ (List.mem_of_getElem? (i := 33) rfl))) (mvT hZ (hw _ (List.mem_of_getElem? (i := 34) rfl))) (mvT hZ (hw _ (List.mem_of_getElem? (i := 35) rfl))) (by decide) (backOf (W := 1) (rm5 l Z a0 hw [] p0 (0 : Int32) (4 : Int32) (3 : Int32) T12.heap n0 Z12) hZ (hw _ (List.mem_of_getElem? (i := 35) rfl)) (hw _ (List.mem_of_getElem? (i := 34) rfl)) (by decide) (by decide)) (g := (mkF m 216 #[.val (.int p0), .val (.int p1), .val (.int p2), .val (.ref ar1), .val (.int (0 : Int32)), .val (.int (4 : Int32)), .val (.ref ob52), .val (.int (1 : Int32)), .val (.int ((p0).toInt8.toInt32 &&& (255 : Int32))), .val (.int ((((p0).toUInt32 >>> ((8 : Int32) &&& 31).toUInt32).toInt32).toInt8.toInt32 &&& (255 : Int32))), .val (.int ((((p0).toUInt32 >>> ((16 : Int32) &&& 31).toUInt32).toInt32).toInt8.toInt32 &&& (255 : Int32))), .val (.int ((((p0).toUInt32 >>> ((24 : Int32) &&& 31).toUInt32).toInt32).toInt8.toInt32 &&& (255 : Int32))), .val (.int (-1 : Int32)), .val (.int (-1 : Int32))] [(.int (3 : Int32)), (.int (4 : Int32)), (.int (0 : Int32)), (.int p0), (.int ((((p0).toUInt32 >>> ((24 : Int32) &&& 31).toUInt32).toInt32).toInt8.toInt32 &&& (255 : Int32)))])) rfl (by rw [hml]; rfl) (argsL := [(.int p0), (.int (0 : Int32)), (.int (4 : Int32)), (.int (3 : Int32))]) (rest := [(.int ((((p0).toUInt32 >>> ((24 : Int32) &&& 31).toUInt32).toInt32).toInt8.toInt32 &&& (255 : Int32)))]) (lenOf pd3 rfl) rfl (by show 2 * 0 + _ ≤ _; exact Nat.le_of_eq rfl) (hb hby at_216) (fun _ _ => ⟨rfl, hh17, (by decide : 2 + 0 ≤ _), (by decide : 7 + 0 ≤ _)⟩)
    dsimp only [Pt.U, Pt.locs, Pt.cells, Pt.slots] at X18 l18 y18 z18 st18 hQ18
    subst l18 y18 z18
    obtain ⟨rfl, Nq18, hh18⟩ := hQ18
    have N18 := Fr.app N17 Nq18
    refine Goes.go (st18) ?_
    show Goes _ _ _ _ _ _ _ (T18.setTop (mkF m 219 _ [(.int (exF p0 (0 : Int32) (4 : Int32) (3 : Int32))), (.int ((((p0).toUInt32 >>> ((24 : Int32) &&& 31).toUInt32).toInt32).toInt8.toInt32 &&& (255 : Int32)))]))
    refine Goes.go (fun _ kk => XS.icmpNo X18.here hx rfl (hb hby at_219) rfl (XT.ii_ne_f (own_n (24 : Int32) (by decide) (by decide))) kk) ?_
    show Goes _ _ _ _ _ _ _ (T18.setTop (mkF m 222 _ []))
    refine Goes.go (fun _ kk => XS.iconst X18.here hx rfl (hb hby at_222) kk) ?_
    show Goes _ _ _ _ _ _ _ (T18.setTop (mkF m 223 _ [(.int (1 : Int32))]))
    refine Goes.go (fun _ kk => XS.goto X18.here hx rfl (pc0 := 223) (pc' := 227) rfl (hb hby at_223) (by decide) (by decide) kk) ?_
    show Goes _ _ _ _ _ _ _ (T18.setTop (mkF m 227 _ [(.int (1 : Int32))]))
    refine Goes.go (fun _ kk => XS.istore X18.here hx rfl (hb hby at_227) rfl (l' := #[.val (.int p0), .val (.int p1), .val (.int p2), .val (.ref ar1), .val (.int (0 : Int32)), .val (.int (4 : Int32)), .val (.ref ob52), .val (.int (1 : Int32)), .val (.int ((p0).toInt8.toInt32 &&& (255 : Int32))), .val (.int ((((p0).toUInt32 >>> ((8 : Int32) &&& 31).toUInt32).toInt32).toInt8.toInt32 &&& (255 : Int32))), .val (.int ((((p0).toUInt32 >>> ((16 : Int32) &&& 31).toUInt32).toInt32).toInt8.toInt32 &&& (255 : Int32))), .val (.int ((((p0).toUInt32 >>> ((24 : Int32) &&& 31).toUInt32).toInt32).toInt8.toInt32 &&& (255 : Int32))), .val (.int (-1 : Int32)), .val (.int (-1 : Int32))]) rfl kk) ?_
    show Goes _ _ _ _ _ _ _ (T18.setTop (mkF m 229 _ []))
    refine Goes.go (fun _ kk => XS.iload X18.here hx rfl (hb hby at_229) rfl kk) ?_
    show Goes _ _ _ _ _ _ _ (T18.setTop (mkF m 231 _ [(.int (1 : Int32))]))
    refine Goes.go (fun _ kk => XS.ifNo X18.here hx rfl (hb hby at_231) rfl (XT.i0_eq_f (by decide)) kk) ?_
    show Goes _ _ _ _ _ _ _ (T18.setTop (mkF m 234 _ []))
    refine Goes.go (fun _ kk => XS.iload X18.here hx rfl (hb hby at_234) rfl kk) ?_
    show Goes _ _ _ _ _ _ _ (T18.setTop (mkF m 236 _ [(.int (-1 : Int32))]))
    refine Goes.go (fun _ kk => XS.iloadN X18.here hx rfl (hb hby at_236) rfl kk) ?_
    show Goes _ _ _ _ _ _ _ (T18.setTop (mkF m 237 _ [(.int p0), (.int (-1 : Int32))]))
    refine Goes.go (fun _ kk => XS.iload X18.here hx rfl (hb hby at_237) rfl kk) ?_
    show Goes _ _ _ _ _ _ _ (T18.setTop (mkF m 239 _ [(.int (0 : Int32)), (.int p0), (.int (-1 : Int32))]))
    refine Goes.go (fun _ kk => XS.iload X18.here hx rfl (hb hby at_239) rfl kk) ?_
    show Goes _ _ _ _ _ _ _ (T18.setTop (mkF m 241 _ [(.int (4 : Int32)), (.int (0 : Int32)), (.int p0), (.int (-1 : Int32))]))
    refine Goes.go (fun _ kk => XS.iconst X18.here hx rfl (hb hby at_241) kk) ?_
    show Goes _ _ _ _ _ _ _ (T18.setTop (mkF m 242 _ [(.int (4 : Int32)), (.int (4 : Int32)), (.int (0 : Int32)), (.int p0), (.int (-1 : Int32))]))
    obtain ⟨_, _, ⟨T19, L19, k19, n19⟩, -, X19, ⟨Lc19, hQ19, l19, y19, z19⟩, st19⟩ := Jvm.LawKit.callS X18 hx (y := (⟨"com/example/wide_schema/wideschema/io/BytesInputReadPinLaw", "exp", "(IIII)I"⟩ : MethodName)) hown (mvT hZ (hw _ (List.mem_of_getElem? (i := 32) rfl))) (mvT hZ (hw _ (List.mem_of_getElem? (i := 33) rfl))) (mvT hZ (hw _ (List.mem_of_getElem? (i := 34) rfl))) (mvT hZ (hw _ (List.mem_of_getElem? (i := 35) rfl))) (by decide) (backOf (W := 1) (rm5 l Z a0 hw [] p0 (0 : Int32) (4 : Int32) (4 : Int32) T12.heap n0 Z12) hZ (hw _ (List.mem_of_getElem? (i := 35) rfl)) (hw _ (List.mem_of_getElem? (i := 34) rfl)) (by decide) (by decide)) (g := (mkF m 242 #[.val (.int p0), .val (.int p1), .val (.int p2), .val (.ref ar1), .val (.int (0 : Int32)), .val (.int (4 : Int32)), .val (.ref ob52), .val (.int (1 : Int32)), .val (.int ((p0).toInt8.toInt32 &&& (255 : Int32))), .val (.int ((((p0).toUInt32 >>> ((8 : Int32) &&& 31).toUInt32).toInt32).toInt8.toInt32 &&& (255 : Int32))), .val (.int ((((p0).toUInt32 >>> ((16 : Int32) &&& 31).toUInt32).toInt32).toInt8.toInt32 &&& (255 : Int32))), .val (.int ((((p0).toUInt32 >>> ((24 : Int32) &&& 31).toUInt32).toInt32).toInt8.toInt32 &&& (255 : Int32))), .val (.int (-1 : Int32)), .val (.int (-1 : Int32))] [(.int (4 : Int32)), (.int (4 : Int32)), (.int (0 : Int32)), (.int p0), (.int (-1 : Int32))])) rfl (by rw [hml]; rfl) (argsL := [(.int p0), (.int (0 : Int32)), (.int (4 : Int32)), (.int (4 : Int32))]) (rest := [(.int (-1 : Int32))]) (lenOf pd3 rfl) rfl (by show 2 * 0 + _ ≤ _; exact Nat.le_of_eq rfl) (hb hby at_242) (fun _ _ => ⟨rfl, hh18, (by decide : 2 + 0 ≤ _), (by decide : 7 + 0 ≤ _)⟩)
    dsimp only [Pt.U, Pt.locs, Pt.cells, Pt.slots] at X19 l19 y19 z19 st19 hQ19
    subst l19 y19 z19
    obtain ⟨rfl, Nq19, hh19⟩ := hQ19
    have N19 := Fr.app N18 Nq19
    refine Goes.go (st19) ?_
    show Goes _ _ _ _ _ _ _ (T19.setTop (mkF m 245 _ [(.int (exF p0 (0 : Int32) (4 : Int32) (4 : Int32))), (.int (-1 : Int32))]))
    refine Goes.go (fun _ kk => XS.icmpNo X19.here hx rfl (hb hby at_245) rfl (XT.ii_ne_f (own_m (by decide))) kk) ?_
    show Goes _ _ _ _ _ _ _ (T19.setTop (mkF m 248 _ []))
    refine Goes.go (fun _ kk => XS.iconst X19.here hx rfl (hb hby at_248) kk) ?_
    show Goes _ _ _ _ _ _ _ (T19.setTop (mkF m 249 _ [(.int (1 : Int32))]))
    refine Goes.go (fun _ kk => XS.goto X19.here hx rfl (pc0 := 249) (pc' := 253) rfl (hb hby at_249) (by decide) (by decide) kk) ?_
    show Goes _ _ _ _ _ _ _ (T19.setTop (mkF m 253 _ [(.int (1 : Int32))]))
    refine Goes.go (fun _ kk => XS.istore X19.here hx rfl (hb hby at_253) rfl (l' := #[.val (.int p0), .val (.int p1), .val (.int p2), .val (.ref ar1), .val (.int (0 : Int32)), .val (.int (4 : Int32)), .val (.ref ob52), .val (.int (1 : Int32)), .val (.int ((p0).toInt8.toInt32 &&& (255 : Int32))), .val (.int ((((p0).toUInt32 >>> ((8 : Int32) &&& 31).toUInt32).toInt32).toInt8.toInt32 &&& (255 : Int32))), .val (.int ((((p0).toUInt32 >>> ((16 : Int32) &&& 31).toUInt32).toInt32).toInt8.toInt32 &&& (255 : Int32))), .val (.int ((((p0).toUInt32 >>> ((24 : Int32) &&& 31).toUInt32).toInt32).toInt8.toInt32 &&& (255 : Int32))), .val (.int (-1 : Int32)), .val (.int (-1 : Int32))]) rfl kk) ?_
    show Goes _ _ _ _ _ _ _ (T19.setTop (mkF m 255 _ []))
    refine Goes.go (fun _ kk => XS.iload X19.here hx rfl (hb hby at_255) rfl kk) ?_
    show Goes _ _ _ _ _ _ _ (T19.setTop (mkF m 257 _ [(.int (1 : Int32))]))
    refine Goes.go (fun _ kk => XS.ifNo X19.here hx rfl (hb hby at_257) rfl (XT.i0_eq_f (by decide)) kk) ?_
    show Goes _ _ _ _ _ _ _ (T19.setTop (mkF m 260 _ []))
    refine Goes.go (fun _ kk => XS.iload X19.here hx rfl (hb hby at_260) rfl kk) ?_
    show Goes _ _ _ _ _ _ _ (T19.setTop (mkF m 262 _ [(.int (-1 : Int32))]))
    refine Goes.go (fun _ kk => XS.iloadN X19.here hx rfl (hb hby at_262) rfl kk) ?_
    show Goes _ _ _ _ _ _ _ (T19.setTop (mkF m 263 _ [(.int p0), (.int (-1 : Int32))]))
    refine Goes.go (fun _ kk => XS.iload X19.here hx rfl (hb hby at_263) rfl kk) ?_
    show Goes _ _ _ _ _ _ _ (T19.setTop (mkF m 265 _ [(.int (0 : Int32)), (.int p0), (.int (-1 : Int32))]))
    refine Goes.go (fun _ kk => XS.iload X19.here hx rfl (hb hby at_265) rfl kk) ?_
    show Goes _ _ _ _ _ _ _ (T19.setTop (mkF m 267 _ [(.int (4 : Int32)), (.int (0 : Int32)), (.int p0), (.int (-1 : Int32))]))
    refine Goes.go (fun _ kk => XS.iconst X19.here hx rfl (hb hby at_267) kk) ?_
    show Goes _ _ _ _ _ _ _ (T19.setTop (mkF m 268 _ [(.int (5 : Int32)), (.int (4 : Int32)), (.int (0 : Int32)), (.int p0), (.int (-1 : Int32))]))
    obtain ⟨_, _, ⟨T20, L20, k20, n20⟩, -, X20, ⟨Lc20, hQ20, l20, y20, z20⟩, st20⟩ := Jvm.LawKit.callS X19 hx (y := (⟨"com/example/wide_schema/wideschema/io/BytesInputReadPinLaw", "exp", "(IIII)I"⟩ : MethodName)) hown (mvT hZ (hw _ (List.mem_of_getElem? (i := 32) rfl))) (mvT hZ (hw _ (List.mem_of_getElem? (i := 33) rfl))) (mvT hZ (hw _ (List.mem_of_getElem? (i := 34) rfl))) (mvT hZ (hw _ (List.mem_of_getElem? (i := 35) rfl))) (by decide) (backOf (W := 1) (rm5 l Z a0 hw [] p0 (0 : Int32) (4 : Int32) (5 : Int32) T12.heap n0 Z12) hZ (hw _ (List.mem_of_getElem? (i := 35) rfl)) (hw _ (List.mem_of_getElem? (i := 34) rfl)) (by decide) (by decide)) (g := (mkF m 268 #[.val (.int p0), .val (.int p1), .val (.int p2), .val (.ref ar1), .val (.int (0 : Int32)), .val (.int (4 : Int32)), .val (.ref ob52), .val (.int (1 : Int32)), .val (.int ((p0).toInt8.toInt32 &&& (255 : Int32))), .val (.int ((((p0).toUInt32 >>> ((8 : Int32) &&& 31).toUInt32).toInt32).toInt8.toInt32 &&& (255 : Int32))), .val (.int ((((p0).toUInt32 >>> ((16 : Int32) &&& 31).toUInt32).toInt32).toInt8.toInt32 &&& (255 : Int32))), .val (.int ((((p0).toUInt32 >>> ((24 : Int32) &&& 31).toUInt32).toInt32).toInt8.toInt32 &&& (255 : Int32))), .val (.int (-1 : Int32)), .val (.int (-1 : Int32))] [(.int (5 : Int32)), (.int (4 : Int32)), (.int (0 : Int32)), (.int p0), (.int (-1 : Int32))])) rfl (by rw [hml]; rfl) (argsL := [(.int p0), (.int (0 : Int32)), (.int (4 : Int32)), (.int (5 : Int32))]) (rest := [(.int (-1 : Int32))]) (lenOf pd3 rfl) rfl (by show 2 * 0 + _ ≤ _; exact Nat.le_of_eq rfl) (hb hby at_268) (fun _ _ => ⟨rfl, hh19, (by decide : 2 + 0 ≤ _), (by decide : 7 + 0 ≤ _)⟩)
    dsimp only [Pt.U, Pt.locs, Pt.cells, Pt.slots] at X20 l20 y20 z20 st20 hQ20
    subst l20 y20 z20
    obtain ⟨rfl, Nq20, hh20⟩ := hQ20
    have N20 := Fr.app N19 Nq20
    refine Goes.go (st20) ?_
    show Goes _ _ _ _ _ _ _ (T20.setTop (mkF m 271 _ [(.int (exF p0 (0 : Int32) (4 : Int32) (5 : Int32))), (.int (-1 : Int32))]))
    refine Goes.go (fun _ kk => XS.icmpNo X20.here hx rfl (hb hby at_271) rfl (XT.ii_ne_f (own_m (by decide))) kk) ?_
    show Goes _ _ _ _ _ _ _ (T20.setTop (mkF m 274 _ []))
    refine Goes.go (fun _ kk => XS.iconst X20.here hx rfl (hb hby at_274) kk) ?_
    show Goes _ _ _ _ _ _ _ (T20.setTop (mkF m 275 _ [(.int (1 : Int32))]))
    refine Goes.go (fun _ kk => XS.goto X20.here hx rfl (pc0 := 275) (pc' := 279) rfl (hb hby at_275) (by decide) (by decide) kk) ?_
    show Goes _ _ _ _ _ _ _ (T20.setTop (mkF m 279 _ [(.int (1 : Int32))]))
    refine Goes.go (fun _ kk => XS.istore X20.here hx rfl (hb hby at_279) rfl (l' := #[.val (.int p0), .val (.int p1), .val (.int p2), .val (.ref ar1), .val (.int (0 : Int32)), .val (.int (4 : Int32)), .val (.ref ob52), .val (.int (1 : Int32)), .val (.int ((p0).toInt8.toInt32 &&& (255 : Int32))), .val (.int ((((p0).toUInt32 >>> ((8 : Int32) &&& 31).toUInt32).toInt32).toInt8.toInt32 &&& (255 : Int32))), .val (.int ((((p0).toUInt32 >>> ((16 : Int32) &&& 31).toUInt32).toInt32).toInt8.toInt32 &&& (255 : Int32))), .val (.int ((((p0).toUInt32 >>> ((24 : Int32) &&& 31).toUInt32).toInt32).toInt8.toInt32 &&& (255 : Int32))), .val (.int (-1 : Int32)), .val (.int (-1 : Int32))]) rfl kk) ?_
    show Goes _ _ _ _ _ _ _ (T20.setTop (mkF m 281 _ []))
    refine Goes.go (fun _ kk => XS.iload X20.here hx rfl (hb hby at_281) rfl kk) ?_
    show Goes _ _ _ _ _ _ _ (T20.setTop (mkF m 283 _ [(.int (1 : Int32))]))
    refine Goes.go (fun _ kk => XS.ifNo X20.here hx rfl (hb hby at_283) rfl (XT.i0_eq_f (by decide)) kk) ?_
    show Goes _ _ _ _ _ _ _ (T20.setTop (mkF m 286 _ []))
    refine Goes.go (fun _ kk => XS.aload X20.here hx rfl (hb hby at_286) rfl rfl kk) ?_
    show Goes _ _ _ _ _ _ _ (T20.setTop (mkF m 288 _ [(.ref ob52)]))
    obtain ⟨cq21, kq21, qa21, qb21, qc21⟩ := isOf hZ hh20 Eq12
    obtain ⟨_, _, ⟨T21, L21, k21, n21⟩, -, X21, ⟨Lc21, hQ21, l21, y21, z21⟩, st21⟩ := X20.virtualBack hx (y := (⟨"com/example/wide_schema/wideschema/io/BytesInput", "available", "()I"⟩ : MethodName)) (z := (⟨"com/example/wide_schema/wideschema/io/BytesInput", "available", "()I"⟩ : MethodName)) hown (mvT hZ (hw _ (List.mem_of_getElem? (i := 22) rfl))) (mvT hZ (hw _ (List.mem_of_getElem? (i := 23) rfl))) (notFace_of_selects (args := #[]) (mvT hZ (hw _ (List.mem_of_getElem? (i := 25) rfl)))) (mvT hZ (hw _ (List.mem_of_getElem? (i := 25) rfl))) (mvT hZ (hw _ (List.mem_of_getElem? (i := 24) rfl))) (by decide) (backOf (W := 0) (rm3 l Z a0 hw [] ob52 (4 : Int32) (4 : Int32) T12.heap n0 Z12 Fq12_1 Fq12_2) hZ (hw _ (List.mem_of_getElem? (i := 26) rfl)) (hw _ (List.mem_of_getElem? (i := 4) rfl)) (by decide) (by decide)) qa21 qc21 (g := (mkF m 288 #[.val (.int p0), .val (.int p1), .val (.int p2), .val (.ref ar1), .val (.int (0 : Int32)), .val (.int (4 : Int32)), .val (.ref ob52), .val (.int (1 : Int32)), .val (.int ((p0).toInt8.toInt32 &&& (255 : Int32))), .val (.int ((((p0).toUInt32 >>> ((8 : Int32) &&& 31).toUInt32).toInt32).toInt8.toInt32 &&& (255 : Int32))), .val (.int ((((p0).toUInt32 >>> ((16 : Int32) &&& 31).toUInt32).toInt32).toInt8.toInt32 &&& (255 : Int32))), .val (.int ((((p0).toUInt32 >>> ((24 : Int32) &&& 31).toUInt32).toInt32).toInt8.toInt32 &&& (255 : Int32))), .val (.int (-1 : Int32)), .val (.int (-1 : Int32))] [(.ref ob52)])) rfl (by rw [hml]; rfl) (Steps.refl _) (argsL := []) (rest := []) (lenOf pd2 rfl) rfl (by show 2 * 0 + _ ≤ _; exact Nat.le_of_eq rfl) (hb hby at_288) (fun _ _ => ⟨rfl, hh20, (by decide : 2 + 0 ≤ _), (by decide : 7 + 0 ≤ _)⟩)
    dsimp only [Pt.U, Pt.locs, Pt.cells, Pt.slots] at X21 l21 y21 z21 st21 hQ21
    subst l21 y21 z21
    obtain ⟨rfl, Nq21, hh21⟩ := hQ21
    have N21 := Fr.app N20 Nq21
    refine Goes.go (fun _ kk => st21.trans kk) ?_
    show Goes _ _ _ _ _ _ _ (T21.setTop (mkF m 291 _ [(.int (0 : Int32))]))
    refine Goes.go (fun _ kk => XS.ifNo X21.here hx rfl (hb hby at_291) rfl (XT.i0_ne_f (by decide)) kk) ?_
    show Goes _ _ _ _ _ _ _ (T21.setTop (mkF m 294 _ []))
    refine Goes.go (fun _ kk => XS.iconst X21.here hx rfl (hb hby at_294) kk) ?_
    show Goes _ _ _ _ _ _ _ (T21.setTop (mkF m 295 _ [(.int (1 : Int32))]))
    refine Goes.go (fun _ kk => XS.goto X21.here hx rfl (pc0 := 295) (pc' := 299) rfl (hb hby at_295) (by decide) (by decide) kk) ?_
    show Goes _ _ _ _ _ _ _ (T21.setTop (mkF m 299 _ [(.int (1 : Int32))]))
    refine Goes.go (fun _ kk => XS.istore X21.here hx rfl (hb hby at_299) rfl (l' := #[.val (.int p0), .val (.int p1), .val (.int p2), .val (.ref ar1), .val (.int (0 : Int32)), .val (.int (4 : Int32)), .val (.ref ob52), .val (.int (1 : Int32)), .val (.int ((p0).toInt8.toInt32 &&& (255 : Int32))), .val (.int ((((p0).toUInt32 >>> ((8 : Int32) &&& 31).toUInt32).toInt32).toInt8.toInt32 &&& (255 : Int32))), .val (.int ((((p0).toUInt32 >>> ((16 : Int32) &&& 31).toUInt32).toInt32).toInt8.toInt32 &&& (255 : Int32))), .val (.int ((((p0).toUInt32 >>> ((24 : Int32) &&& 31).toUInt32).toInt32).toInt8.toInt32 &&& (255 : Int32))), .val (.int (-1 : Int32)), .val (.int (-1 : Int32))]) rfl kk) ?_
    show Goes _ _ _ _ _ _ _ (T21.setTop (mkF m 301 _ []))
    refine Goes.go (fun _ kk => XS.iload X21.here hx rfl (hb hby at_301) rfl kk) ?_
    show Goes _ _ _ _ _ _ _ (T21.setTop (mkF m 303 _ [(.int (1 : Int32))]))
    exact Goes.outZ X21 hx hlk hret rfl (hb hby at_303) hh21 ⟨rfl, N21⟩ (by decide) (by decide)
  · skip
    show Goes _ _ _ _ _ _ _ (T5.setTop (mkF m 52 #[.val (.int p0), .val (.int p1), .val (.int p2), .val (.ref ar1), .val (.int (1 : Int32)), .val (.int (0 : Int32)), .unset, .unset, .unset, .unset, .unset, .unset, .unset, .unset] []))
    obtain ⟨T6, h6, X6, e6, E6, A6, D6, -, st6⟩ := newO X5 hx hZ hown (hw _ (List.mem_of_getElem? (i := 2) rfl)) (hw _ (List.mem_of_getElem? (i := 3) rfl)) (hw _ (List.mem_of_getElem? (i := 4) rfl)) e5 (g := (mkF m 52 #[.val (.int p0), .val (.int p1), .val (.int p2), .val (.ref ar1), .val (.int (1 : Int32)), .val (.int (0 : Int32)), .unset, .unset, .unset, .unset, .unset, .unset, .unset, .unset] [])) rfl (hb hby at_52) (by decide) (by decide)
    obtain ⟨ob52, gob52⟩ : ∃ z, z = h5.size := ⟨_, rfl⟩
    rw [← gob52] at A6 D6 st6
    have ne_ar1_ob52 : ar1 ≠ ob52 := by rw [gob52]; exact Nat.ne_of_lt f_4.lt
    have f_5 := f_4.ext E6
    have Z6 : n0 ≤ h6.size := Nat.le_trans Z5 E6.1
    have ge_ob52 : n0 ≤ ob52 := Nat.le_trans Z5 (Nat.le_of_eq gob52.symm)
    have f_6 : Fld Z h6 ob52 "com/example/wide_schema/wideschema/io/BytesInput" "_bytes" "[B" .null := D6 (Or.inr (hw _ (List.mem_of_getElem? (i := 17) rfl))) (ty := (.array .byte)) (by decide)
    have f_7 : Fld Z h6 ob52 "com/example/wide_schema/wideschema/io/BytesInput" "_next" "I" (.int (0 : Int32)) := D6 (Or.inl (hw _ (List.mem_of_getElem? (i := 19) rfl))) (ty := .int) (by decide)
    have f_8 : Fld Z h6 ob52 "com/example/wide_schema/wideschema/io/BytesInput" "_end" "I" (.int (0 : Int32)) := D6 (Or.inr (hw _ (List.mem_of_getElem? (i := 21) rfl))) (ty := .int) (by decide)
    refine Goes.go (st6) ?_
    show Goes _ _ _ _ _ _ _ (T6.setTop (mkF m 55 _ [(.ref ob52)]))
    refine Goes.go (fun _ kk => XS.dup X6.here hx rfl (hb hby at_55) rfl rfl kk) ?_
    show Goes _ _ _ _ _ _ _ (T6.setTop (mkF m 56 _ [(.ref ob52), (.ref ob52)]))
    refine Goes.go (fun _ kk => XS.aloadN X6.here hx rfl (hb hby at_56) rfl rfl kk) ?_
    show Goes _ _ _ _ _ _ _ (T6.setTop (mkF m 57 _ [(.ref ar1), (.ref ob52), (.ref ob52)]))
    refine Goes.go (fun _ kk => XS.iload X6.here hx rfl (hb hby at_57) rfl kk) ?_
    show Goes _ _ _ _ _ _ _ (T6.setTop (mkF m 59 _ [(.int (1 : Int32)), (.ref ar1), (.ref ob52), (.ref ob52)]))
    refine Goes.go (fun _ kk => XS.iload X6.here hx rfl (hb hby at_59) rfl kk) ?_
    show Goes _ _ _ _ _ _ _ (T6.setTop (mkF m 61 _ [(.int (0 : Int32)), (.int (1 : Int32)), (.ref ar1), (.ref ob52), (.ref ob52)]))
    obtain ⟨_, _, ⟨T7, L7, k7, n7⟩, -, X7, ⟨Lc7, hQ7, l7, y7, z7⟩, st7⟩ := X6.specialBack hx (y := (⟨"com/example/wide_schema/wideschema/io/BytesInput", "<init>", "([BII)V"⟩ : MethodName)) rfl hown (mvT hZ (hw _ (List.mem_of_getElem? (i := 5) rfl))) (mvT hZ (hw _ (List.mem_of_getElem? (i := 6) rfl))) (mvT hZ (hw _ (List.mem_of_getElem? (i := 7) rfl))) (by decide) (backOf (W := 1) (rm1 l Z a0 hw [] ob52 ar1 (1 : Int32) (0 : Int32) h6 n0 Z6 A6 f_6 f_7 f_8 ge_ob52) hZ (hw _ (List.mem_of_getElem? (i := 7) rfl)) (hw _ (List.mem_of_getElem? (i := 4) rfl)) (by decide) (by decide)) (g := (mkF m 61 #[.val (.int p0), .val (.int p1), .val (.int p2), .val (.ref ar1), .val (.int (1 : Int32)), .val (.int (0 : Int32)), .unset, .unset, .unset, .unset, .unset, .unset, .unset, .unset] [(.int (0 : Int32)), (.int (1 : Int32)), (.ref ar1), (.ref ob52), (.ref ob52)])) rfl (by rw [hml]; rfl) (Steps.refl _) (a := ob52) (argsL := [(.ref ar1), (.int (1 : Int32)), (.int (0 : Int32))]) (rest := [(.ref ob52)]) (lenOf pd0 rfl) rfl (by show 2 * 0 + _ ≤ _; exact Nat.le_of_eq rfl) (hb hby at_61) (fun _ _ => ⟨rfl, e6, (by decide : 2 + 0 ≤ _), (by decide : 7 + 0 ≤ _)⟩)
    dsimp only [Pt.U, Pt.locs, Pt.cells, Pt.slots] at X7 l7 y7 z7 st7 hQ7
    subst l7 y7 z7
    obtain ⟨rfl, Nq7, Kq7, Eq7, Fq7_0, Fq7_1, Fq7_2⟩ := hQ7
    have N7 := Fr.app N5 Nq7
    have Z7 : n0 ≤ T7.heap.size := Nat.le_trans Z6 Kq7.1
    have f_9 := Arl.keep f_5 Kq7 (ninS ne_ar1_ob52 nin0)
    refine Goes.go (fun _ kk => st7.trans kk) ?_
    show Goes _ _ _ _ _ _ _ (T7.setTop (mkF m 64 _ [(.ref ob52)]))
    refine Goes.go (fun _ kk => XS.astore X7.here hx rfl (hb hby at_64) rfl rfl (l' := #[.val (.int p0), .val (.int p1), .val (.int p2), .val (.ref ar1), .val (.int (1 : Int32)), .val (.int (0 : Int32)), .val (.ref ob52), .unset, .unset, .unset, .unset, .unset, .unset, .unset]) rfl kk) ?_
    show Goes _ _ _ _ _ _ _ (T7.setTop (mkF m 66 #[.val (.int p0), .val (.int p1), .val (.int p2), .val (.ref ar1), .val (.int (1 : Int32)), .val (.int (0 : Int32)), .val (.ref ob52), .unset, .unset, .unset, .unset, .unset, .unset, .unset] []))
    refine Goes.go (fun _ kk => XS.aload X7.here hx rfl (hb hby at_66) rfl rfl kk) ?_
    show Goes _ _ _ _ _ _ _ (T7.setTop (mkF m 68 _ [(.ref ob52)]))
    obtain ⟨cq8, kq8, qa8, qb8, qc8⟩ := isOf hZ rfl Eq7
    obtain ⟨_, _, ⟨T8, L8, k8, n8⟩, -, X8, ⟨Lc8, hQ8, l8, y8, z8⟩, st8⟩ := X7.virtualBack hx (y := (⟨"com/example/wide_schema/wideschema/io/BytesInput", "available", "()I"⟩ : MethodName)) (z := (⟨"com/example/wide_schema/wideschema/io/BytesInput", "available", "()I"⟩ : MethodName)) hown (mvT hZ (hw _ (List.mem_of_getElem? (i := 22) rfl))) (mvT hZ (hw _ (List.mem_of_getElem? (i := 23) rfl))) (notFace_of_selects (args := #[]) (mvT hZ (hw _ (List.mem_of_getElem? (i := 25) rfl)))) (mvT hZ (hw _ (List.mem_of_getElem? (i := 25) rfl))) (mvT hZ (hw _ (List.mem_of_getElem? (i := 24) rfl))) (by decide) (backOf (W := 0) (rm3 l Z a0 hw [] ob52 (1 : Int32) (1 : Int32) T7.heap n0 Z7 Fq7_1 Fq7_2) hZ (hw _ (List.mem_of_getElem? (i := 26) rfl)) (hw _ (List.mem_of_getElem? (i := 4) rfl)) (by decide) (by decide)) qa8 qc8 (g := (mkF m 68 #[.val (.int p0), .val (.int p1), .val (.int p2), .val (.ref ar1), .val (.int (1 : Int32)), .val (.int (0 : Int32)), .val (.ref ob52), .unset, .unset, .unset, .unset, .unset, .unset, .unset] [(.ref ob52)])) rfl (by rw [hml]; rfl) (Steps.refl _) (argsL := []) (rest := []) (lenOf pd2 rfl) rfl (by show 2 * 0 + _ ≤ _; exact Nat.le_of_eq rfl) (hb hby at_68) (fun _ _ => ⟨rfl, rfl, (by decide : 2 + 0 ≤ _), (by decide : 7 + 0 ≤ _)⟩)
    dsimp only [Pt.U, Pt.locs, Pt.cells, Pt.slots] at X8 l8 y8 z8 st8 hQ8
    subst l8 y8 z8
    obtain ⟨rfl, Nq8, hh8⟩ := hQ8
    have N8 := Fr.app N7 Nq8
    refine Goes.go (fun _ kk => st8.trans kk) ?_
    show Goes _ _ _ _ _ _ _ (T8.setTop (mkF m 71 _ [(.int (0 : Int32))]))
    refine Goes.go (fun _ kk => XS.iload X8.here hx rfl (hb hby at_71) rfl kk) ?_
    show Goes _ _ _ _ _ _ _ (T8.setTop (mkF m 73 _ [(.int (0 : Int32)), (.int (0 : Int32))]))
    refine Goes.go (fun _ kk => XS.icmpNo X8.here hx rfl (hb hby at_73) rfl (XT.ii_ne_f (by decide)) kk) ?_
    show Goes _ _ _ _ _ _ _ (T8.setTop (mkF m 76 _ []))
    refine Goes.go (fun _ kk => XS.iconst X8.here hx rfl (hb hby at_76) kk) ?_
    show Goes _ _ _ _ _ _ _ (T8.setTop (mkF m 77 _ [(.int (1 : Int32))]))
    refine Goes.go (fun _ kk => XS.goto X8.here hx rfl (pc0 := 77) (pc' := 81) rfl (hb hby at_77) (by decide) (by decide) kk) ?_
    show Goes _ _ _ _ _ _ _ (T8.setTop (mkF m 81 _ [(.int (1 : Int32))]))
    refine Goes.go (fun _ kk => XS.istore X8.here hx rfl (hb hby at_81) rfl (l' := #[.val (.int p0), .val (.int p1), .val (.int p2), .val (.ref ar1), .val (.int (1 : Int32)), .val (.int (0 : Int32)), .val (.ref ob52), .val (.int (1 : Int32)), .unset, .unset, .unset, .unset, .unset, .unset]) rfl kk) ?_
    show Goes _ _ _ _ _ _ _ (T8.setTop (mkF m 83 #[.val (.int p0), .val (.int p1), .val (.int p2), .val (.ref ar1), .val (.int (1 : Int32)), .val (.int (0 : Int32)), .val (.ref ob52), .val (.int (1 : Int32)), .unset, .unset, .unset, .unset, .unset, .unset] []))
    refine Goes.go (fun _ kk => XS.aload X8.here hx rfl (hb hby at_83) rfl rfl kk) ?_
    show Goes _ _ _ _ _ _ _ (T8.setTop (mkF m 85 _ [(.ref ob52)]))
    obtain ⟨cq9, kq9, qa9, qb9, qc9⟩ := isOf hZ hh8 Eq7
    obtain ⟨_, _, ⟨T9, L9, k9, n9⟩, -, X9, ⟨Lc9, hQ9, l9, y9, z9⟩, st9⟩ := X8.virtualBack hx (y := (⟨"com/example/wide_schema/wideschema/io/BytesInput", "read", "()I"⟩ : MethodName)) (z := (⟨"com/example/wide_schema/wideschema/io/BytesInput", "read", "()I"⟩ : MethodName)) hown (mvT hZ (hw _ (List.mem_of_getElem? (i := 27) rfl))) (mvT hZ (hw _ (List.mem_of_getElem? (i := 28) rfl))) (notFace_of_selects (args := #[]) (mvT hZ (hw _ (List.mem_of_getElem? (i := 30) rfl)))) (mvT hZ (hw _ (List.mem_of_getElem? (i := 30) rfl))) (mvT hZ (hw _ (List.mem_of_getElem? (i := 29) rfl))) (by decide) (backOf (W := 0) (rmN l Z a0 hw [] ob52 (1 : Int32) (1 : Int32) T7.heap n0 Z7 Fq7_1 Fq7_2 (by decide)) hZ (hw _ (List.mem_of_getElem? (i := 31) rfl)) (hw _ (List.mem_of_getElem? (i := 4) rfl)) (by decide) (by decide)) qa9 qc9 (g := (mkF m 85 #[.val (.int p0), .val (.int p1), .val (.int p2), .val (.ref ar1), .val (.int (1 : Int32)), .val (.int (0 : Int32)), .val (.ref ob52), .val (.int (1 : Int32)), .unset, .unset, .unset, .unset, .unset, .unset] [(.ref ob52)])) rfl (by rw [hml]; rfl) (Steps.refl _) (argsL := []) (rest := []) (lenOf pd2 rfl) rfl (by show 2 * 0 + _ ≤ _; exact Nat.le_of_eq rfl) (hb hby at_85) (fun _ _ => ⟨rfl, hh8, (by decide : 2 + 0 ≤ _), (by decide : 7 + 0 ≤ _)⟩)
    dsimp only [Pt.U, Pt.locs, Pt.cells, Pt.slots] at X9 l9 y9 z9 st9 hQ9
    subst l9 y9 z9
    obtain ⟨rfl, Nq9, hh9⟩ := hQ9
    have N9 := Fr.app N8 Nq9
    refine Goes.go (fun _ kk => st9.trans kk) ?_
    show Goes _ _ _ _ _ _ _ (T9.setTop (mkF m 88 _ [(.int (-1 : Int32))]))
    refine Goes.go (fun _ kk => XS.istore X9.here hx rfl (hb hby at_88) rfl (l' := #[.val (.int p0), .val (.int p1), .val (.int p2), .val (.ref ar1), .val (.int (1 : Int32)), .val (.int (0 : Int32)), .val (.ref ob52), .val (.int (1 : Int32)), .val (.int (-1 : Int32)), .unset, .unset, .unset, .unset, .unset]) rfl kk) ?_
    show Goes _ _ _ _ _ _ _ (T9.setTop (mkF m 90 #[.val (.int p0), .val (.int p1), .val (.int p2), .val (.ref ar1), .val (.int (1 : Int32)), .val (.int (0 : Int32)), .val (.ref ob52), .val (.int (1 : Int32)), .val (.int (-1 : Int32)), .unset, .unset, .unset, .unset, .unset] []))
    refine Goes.go (fun _ kk => XS.aload X9.here hx rfl (hb hby at_90) rfl rfl kk) ?_
    show Goes _ _ _ _ _ _ _ (T9.setTop (mkF m 92 _ [(.ref ob52)]))
    obtain ⟨cq10, kq10, qa10, qb10, qc10⟩ := isOf hZ hh9 Eq7
    obtain ⟨_, _, ⟨T10, L10, k10, n10⟩, -, X10, ⟨Lc10, hQ10, l10, y10, z10⟩, st10⟩ := X9.virtualBack hx (y := (⟨"com/example/wide_schema/wideschema/io/BytesInput", "read", "()I"⟩ : MethodName)) (z := (⟨"com/example/wide_schema/wideschema/io/BytesInput", "read", "()I"⟩ : MethodName)) hown (mvT hZ (hw _ (List.mem_of_getElem? (i := 27) rfl))) (mvT hZ (hw _ (List.mem_of_getElem? (i := 28) rfl))) (notFace_of_selects (args := #[]) (mvT hZ (hw _ (List.mem_of_getElem? (i := 30) rfl)))) (mvT hZ (hw _ (List.mem_of_getElem? (i := 30) rfl))) (mvT hZ (hw _ (List.mem_of_getElem? (i := 29) rfl))) (by decide) (backOf (W := 0) (rmN l Z a0 hw [] ob52 (1 : Int32) (1 : Int32) T7.heap n0 Z7 Fq7_1 Fq7_2 (by decide)) hZ (hw _ (List.mem_of_getElem? (i := 31) rfl)) (hw _ (List.mem_of_getElem? (i := 4) rfl)) (by decide) (by decide)) qa10 qc10 (g := (mkF m 92 #[.val (.int p0), .val (.int p1), .val (.int p2), .val (.ref ar1), .val (.int (1 : Int32)), .val (.int (0 : Int32)), .val (.ref ob52), .val (.int (1 : Int32)), .val (.int (-1 : Int32)), .unset, .unset, .unset, .unset, .unset] [(.ref ob52)])) rfl (by rw [hml]; rfl) (Steps.refl _) (argsL := []) (rest := []) (lenOf pd2 rfl) rfl (by show 2 * 0 + _ ≤ _; exact Nat.le_of_eq rfl) (hb hby at_92) (fun _ _ => ⟨rfl, hh9, (by decide : 2 + 0 ≤ _), (by decide : 7 + 0 ≤ _)⟩)
    dsimp only [Pt.U, Pt.locs, Pt.cells, Pt.slots] at X10 l10 y10 z10 st10 hQ10
    subst l10 y10 z10
    obtain ⟨rfl, Nq10, hh10⟩ := hQ10
    have N10 := Fr.app N9 Nq10
    refine Goes.go (fun _ kk => st10.trans kk) ?_
    show Goes _ _ _ _ _ _ _ (T10.setTop (mkF m 95 _ [(.int (-1 : Int32))]))
    refine Goes.go (fun _ kk => XS.istore X10.here hx rfl (hb hby at_95) rfl (l' := #[.val (.int p0), .val (.int p1), .val (.int p2), .val (.ref ar1), .val (.int (1 : Int32)), .val (.int (0 : Int32)), .val (.ref ob52), .val (.int (1 : Int32)), .val (.int (-1 : Int32)), .val (.int (-1 : Int32)), .unset, .unset, .unset, .unset]) rfl kk) ?_
    show Goes _ _ _ _ _ _ _ (T10.setTop (mkF m 97 #[.val (.int p0), .val (.int p1), .val (.int p2), .val (.ref ar1), .val (.int (1 : Int32)), .val (.int (0 : Int32)), .val (.ref ob52), .val (.int (1 : Int32)), .val (.int (-1 : Int32)), .val (.int (-1 : Int32)), .unset, .unset, .unset, .unset] []))
    refine Goes.go (fun _ kk => XS.aload X10.here hx rfl (hb hby at_97) rfl rfl kk) ?_
    show Goes _ _ _ _ _ _ _ (T10.setTop (mkF m 99 _ [(.ref ob52)]))
    obtain ⟨cq11, kq11, qa11, qb11, qc11⟩ := isOf hZ hh10 Eq7
    obtain ⟨_, _, ⟨T11, L11, k11, n11⟩, -, X11, ⟨Lc11, hQ11, l11, y11, z11⟩, st11⟩ := X10.virtualBack hx (y := (⟨"com/example/wide_schema/wideschema/io/BytesInput", "read", "()I"⟩ : MethodName)) (z := (⟨"com/example/wide_schema/wideschema/io/BytesInput", "read", "()I"⟩ : MethodName)) hown (mvT hZ (hw _ (List.mem_of_getElem? (i := 27) rfl))) (mvT hZ (hw _ (List.mem_of_getElem? (i := 28) rfl))) (notFace_of_selects (args := #[]) (mvT hZ (hw _ (List.mem_of_getElem? (i := 30) rfl)))) (mvT hZ (hw _ (List.mem_of_getElem? (i := 30) rfl))) (mvT hZ (hw _ (List.mem_of_getElem? (i := 29) rfl))) (by decide) (backOf (W := 0) (rmN l Z a0 hw [] ob52 (1 : Int32) (1 : Int32) T7.heap n0 Z7 Fq7_1 Fq7_2 (by decide)) hZ (hw _ (List.mem_of_getElem? (i := 31) rfl)) (hw _ (List.mem_of_getElem? (i := 4) rfl)) (by decide) (by decide)) qa11 qc11 (g := (mkF m 99 #[.val (.int p0), .val (.int p1), .val (.int p2), .val (.ref ar1), .val (.int (1 : Int32)), .val (.int (0 : Int32)), .val (.ref ob52), .val (.int (1 : Int32)), .val (.int (-1 : Int32)), .val (.int (-1 : Int32)), .unset, .unset, .unset, .unset] [(.ref ob52)])) rfl (by rw [hml]; rfl) (Steps.refl _) (argsL := []) (rest := []) (lenOf pd2 rfl) rfl (by show 2 * 0 + _ ≤ _; exact Nat.le_of_eq rfl) (hb hby at_99) (fun _ _ => ⟨rfl, hh10, (by decide : 2 + 0 ≤ _), (by decide : 7 + 0 ≤ _)⟩)
    dsimp only [Pt.U, Pt.locs, Pt.cells, Pt.slots] at X11 l11 y11 z11 st11 hQ11
    subst l11 y11 z11
    obtain ⟨rfl, Nq11, hh11⟩ := hQ11
    have N11 := Fr.app N10 Nq11
    refine Goes.go (fun _ kk => st11.trans kk) ?_
    show Goes _ _ _ _ _ _ _ (T11.setTop (mkF m 102 _ [(.int (-1 : Int32))]))
    refine Goes.go (fun _ kk => XS.istore X11.here hx rfl (hb hby at_102) rfl (l' := #[.val (.int p0), .val (.int p1), .val (.int p2), .val (.ref ar1), .val (.int (1 : Int32)), .val (.int (0 : Int32)), .val (.ref ob52), .val (.int (1 : Int32)), .val (.int (-1 : Int32)), .val (.int (-1 : Int32)), .val (.int (-1 : Int32)), .unset, .unset, .unset]) rfl kk) ?_
    show Goes _ _ _ _ _ _ _ (T11.setTop (mkF m 104 #[.val (.int p0), .val (.int p1), .val (.int p2), .val (.ref ar1), .val (.int (1 : Int32)), .val (.int (0 : Int32)), .val (.ref ob52), .val (.int (1 : Int32)), .val (.int (-1 : Int32)), .val (.int (-1 : Int32)), .val (.int (-1 : Int32)), .unset, .unset, .unset] []))
    refine Goes.go (fun _ kk => XS.aload X11.here hx rfl (hb hby at_104) rfl rfl kk) ?_
    show Goes _ _ _ _ _ _ _ (T11.setTop (mkF m 106 _ [(.ref ob52)]))
    obtain ⟨cq12, kq12, qa12, qb12, qc12⟩ := isOf hZ hh11 Eq7
    obtain ⟨_, _, ⟨T12, L12, k12, n12⟩, -, X12, ⟨Lc12, hQ12, l12, y12, z12⟩, st12⟩ := X11.virtualBack hx (y := (⟨"com/example/wide_schema/wideschema/io/BytesInput", "read", "()I"⟩ : MethodName)) (z := (⟨"com/example/wide_schema/wideschema/io/BytesInput", "read", "()I"⟩ : MethodName)) hown (mvT hZ (hw _ (List.mem_of_getElem? (i := 27) rfl))) (mvT hZ (hw _ (List.mem_of_getElem? (i := 28) rfl))) (notFace_of_selects (args := #[]) (mvT hZ (hw _ (List.mem_of_getElem? (i := 30) rfl)))) (mvT hZ (hw _ (List.mem_of_getElem? (i := 30) rfl))) (mvT hZ (hw _ (List.mem_of_getElem? (i := 29) rfl))) (by decide) (backOf (W := 0) (rmN l Z a0 hw [] ob52 (1 : Int32) (1 : Int32) T7.heap n0 Z7 Fq7_1 Fq7_2 (by decide)) hZ (hw _ (List.mem_of_getElem? (i := 31) rfl)) (hw _ (List.mem_of_getElem? (i := 4) rfl)) (by decide) (by decide)) qa12 qc12 (g := (mkF m 106 #[.val (.int p0), .val (.int p1), .val (.int p2), .val (.ref ar1), .val (.int (1 : Int32)), .val (.int (0 : Int32)), .val (.ref ob52), .val (.int (1 : Int32)), .val (.int (-1 : Int32)), .val (.int (-1 : Int32)), .val (.int (-1 : Int32)), .unset, .unset, .unset] [(.ref ob52)])) rfl (by rw [hml]; rfl) (Steps.refl _) (argsL := []) (rest := []) (lenOf pd2 rfl) rfl (by show 2 * 0 + _ ≤ _; exact Nat.le_of_eq rfl) (hb hby at_106) (fun _ _ => ⟨rfl, hh11, (by decide : 2 + 0 ≤ _), (by decide : 7 + 0 ≤ _)⟩)
    dsimp only [Pt.U, Pt.locs, Pt.cells, Pt.slots] at X12 l12 y12 z12 st12 hQ12
    subst l12 y12 z12
    obtain ⟨rfl, Nq12, hh12⟩ := hQ12
    have N12 := Fr.app N11 Nq12
    refine Goes.go (fun _ kk => st12.trans kk) ?_
    show Goes _ _ _ _ _ _ _ (T12.setTop (mkF m 109 _ [(.int (-1 : Int32))]))
    refine Goes.go (fun _ kk => XS.istore X12.here hx rfl (hb hby at_109) rfl (l' := #[.val (.int p0), .val (.int p1), .val (.int p2), .val (.ref ar1), .val (.int (1 : Int32)), .val (.int (0 : Int32)), .val (.ref ob52), .val (.int (1 : Int32)), .val (.int (-1 : Int32)), .val (.int (-1 : Int32)), .val (.int (-1 : Int32)), .val (.int (-1 : Int32)), .unset, .unset]) rfl kk) ?_
    show Goes _ _ _ _ _ _ _ (T12.setTop (mkF m 111 #[.val (.int p0), .val (.int p1), .val (.int p2), .val (.ref ar1), .val (.int (1 : Int32)), .val (.int (0 : Int32)), .val (.ref ob52), .val (.int (1 : Int32)), .val (.int (-1 : Int32)), .val (.int (-1 : Int32)), .val (.int (-1 : Int32)), .val (.int (-1 : Int32)), .unset, .unset] []))
    refine Goes.go (fun _ kk => XS.aload X12.here hx rfl (hb hby at_111) rfl rfl kk) ?_
    show Goes _ _ _ _ _ _ _ (T12.setTop (mkF m 113 _ [(.ref ob52)]))
    obtain ⟨cq13, kq13, qa13, qb13, qc13⟩ := isOf hZ hh12 Eq7
    obtain ⟨_, _, ⟨T13, L13, k13, n13⟩, -, X13, ⟨Lc13, hQ13, l13, y13, z13⟩, st13⟩ := X12.virtualBack hx (y := (⟨"com/example/wide_schema/wideschema/io/BytesInput", "read", "()I"⟩ : MethodName)) (z := (⟨"com/example/wide_schema/wideschema/io/BytesInput", "read", "()I"⟩ : MethodName)) hown (mvT hZ (hw _ (List.mem_of_getElem? (i := 27) rfl))) (mvT hZ (hw _ (List.mem_of_getElem? (i := 28) rfl))) (notFace_of_selects (args := #[]) (mvT hZ (hw _ (List.mem_of_getElem? (i := 30) rfl)))) (mvT hZ (hw _ (List.mem_of_getElem? (i := 30) rfl))) (mvT hZ (hw _ (List.mem_of_getElem? (i := 29) rfl))) (by decide) (backOf (W := 0) (rmN l Z a0 hw [] ob52 (1 : Int32) (1 : Int32) T7.heap n0 Z7 Fq7_1 Fq7_2 (by decide)) hZ (hw _ (List.mem_of_getElem? (i := 31) rfl)) (hw _ (List.mem_of_getElem? (i := 4) rfl)) (by decide) (by decide)) qa13 qc13 (g := (mkF m 113 #[.val (.int p0), .val (.int p1), .val (.int p2), .val (.ref ar1), .val (.int (1 : Int32)), .val (.int (0 : Int32)), .val (.ref ob52), .val (.int (1 : Int32)), .val (.int (-1 : Int32)), .val (.int (-1 : Int32)), .val (.int (-1 : Int32)), .val (.int (-1 : Int32)), .unset, .unset] [(.ref ob52)])) rfl (by rw [hml]; rfl) (Steps.refl _) (argsL := []) (rest := []) (lenOf pd2 rfl) rfl (by show 2 * 0 + _ ≤ _; exact Nat.le_of_eq rfl) (hb hby at_113) (fun _ _ => ⟨rfl, hh12, (by decide : 2 + 0 ≤ _), (by decide : 7 + 0 ≤ _)⟩)
    dsimp only [Pt.U, Pt.locs, Pt.cells, Pt.slots] at X13 l13 y13 z13 st13 hQ13
    subst l13 y13 z13
    obtain ⟨rfl, Nq13, hh13⟩ := hQ13
    have N13 := Fr.app N12 Nq13
    refine Goes.go (fun _ kk => st13.trans kk) ?_
    show Goes _ _ _ _ _ _ _ (T13.setTop (mkF m 116 _ [(.int (-1 : Int32))]))
    refine Goes.go (fun _ kk => XS.istore X13.here hx rfl (hb hby at_116) rfl (l' := #[.val (.int p0), .val (.int p1), .val (.int p2), .val (.ref ar1), .val (.int (1 : Int32)), .val (.int (0 : Int32)), .val (.ref ob52), .val (.int (1 : Int32)), .val (.int (-1 : Int32)), .val (.int (-1 : Int32)), .val (.int (-1 : Int32)), .val (.int (-1 : Int32)), .val (.int (-1 : Int32)), .unset]) rfl kk) ?_
    show Goes _ _ _ _ _ _ _ (T13.setTop (mkF m 118 #[.val (.int p0), .val (.int p1), .val (.int p2), .val (.ref ar1), .val (.int (1 : Int32)), .val (.int (0 : Int32)), .val (.ref ob52), .val (.int (1 : Int32)), .val (.int (-1 : Int32)), .val (.int (-1 : Int32)), .val (.int (-1 : Int32)), .val (.int (-1 : Int32)), .val (.int (-1 : Int32)), .unset] []))
    refine Goes.go (fun _ kk => XS.aload X13.here hx rfl (hb hby at_118) rfl rfl kk) ?_
    show Goes _ _ _ _ _ _ _ (T13.setTop (mkF m 120 _ [(.ref ob52)]))
    obtain ⟨cq14, kq14, qa14, qb14, qc14⟩ := isOf hZ hh13 Eq7
    obtain ⟨_, _, ⟨T14, L14, k14, n14⟩, -, X14, ⟨Lc14, hQ14, l14, y14, z14⟩, st14⟩ := X13.virtualBack hx (y := (⟨"com/example/wide_schema/wideschema/io/BytesInput", "read", "()I"⟩ : MethodName)) (z := (⟨"com/example/wide_schema/wideschema/io/BytesInput", "read", "()I"⟩ : MethodName)) hown (mvT hZ (hw _ (List.mem_of_getElem? (i := 27) rfl))) (mvT hZ (hw _ (List.mem_of_getElem? (i := 28) rfl))) (notFace_of_selects (args := #[]) (mvT hZ (hw _ (List.mem_of_getElem? (i := 30) rfl)))) (mvT hZ (hw _ (List.mem_of_getElem? (i := 30) rfl))) (mvT hZ (hw _ (List.mem_of_getElem? (i := 29) rfl))) (by decide) (backOf (W := 0) (rmN l Z a0 hw [] ob52 (1 : Int32) (1 : Int32) T7.heap n0 Z7 Fq7_1 Fq7_2 (by decide)) hZ (hw _ (List.mem_of_getElem? (i := 31) rfl)) (hw _ (List.mem_of_getElem? (i := 4) rfl)) (by decide) (by decide)) qa14 qc14 (g := (mkF m 120 #[.val (.int p0), .val (.int p1), .val (.int p2), .val (.ref ar1), .val (.int (1 : Int32)), .val (.int (0 : Int32)), .val (.ref ob52), .val (.int (1 : Int32)), .val (.int (-1 : Int32)), .val (.int (-1 : Int32)), .val (.int (-1 : Int32)), .val (.int (-1 : Int32)), .val (.int (-1 : Int32)), .unset] [(.ref ob52)])) rfl (by rw [hml]; rfl) (Steps.refl _) (argsL := []) (rest := []) (lenOf pd2 rfl) rfl (by show 2 * 0 + _ ≤ _; exact Nat.le_of_eq rfl) (hb hby at_120) (fun _ _ => ⟨rfl, hh13, (by decide : 2 + 0 ≤ _), (by decide : 7 + 0 ≤ _)⟩)
    dsimp only [Pt.U, Pt.locs, Pt.cells, Pt.slots] at X14 l14 y14 z14 st14 hQ14
    subst l14 y14 z14
    obtain ⟨rfl, Nq14, hh14⟩ := hQ14
    have N14 := Fr.app N13 Nq14
    refine Goes.go (fun _ kk => st14.trans kk) ?_
    show Goes _ _ _ _ _ _ _ (T14.setTop (mkF m 123 _ [(.int (-1 : Int32))]))
    refine Goes.go (fun _ kk => XS.istore X14.here hx rfl (hb hby at_123) rfl (l' := #[.val (.int p0), .val (.int p1), .val (.int p2), .val (.ref ar1), .val (.int (1 : Int32)), .val (.int (0 : Int32)), .val (.ref ob52), .val (.int (1 : Int32)), .val (.int (-1 : Int32)), .val (.int (-1 : Int32)), .val (.int (-1 : Int32)), .val (.int (-1 : Int32)), .val (.int (-1 : Int32)), .val (.int (-1 : Int32))]) rfl kk) ?_
    show Goes _ _ _ _ _ _ _ (T14.setTop (mkF m 125 #[.val (.int p0), .val (.int p1), .val (.int p2), .val (.ref ar1), .val (.int (1 : Int32)), .val (.int (0 : Int32)), .val (.ref ob52), .val (.int (1 : Int32)), .val (.int (-1 : Int32)), .val (.int (-1 : Int32)), .val (.int (-1 : Int32)), .val (.int (-1 : Int32)), .val (.int (-1 : Int32)), .val (.int (-1 : Int32))] []))
    refine Goes.go (fun _ kk => XS.iload X14.here hx rfl (hb hby at_125) rfl kk) ?_
    show Goes _ _ _ _ _ _ _ (T14.setTop (mkF m 127 _ [(.int (1 : Int32))]))
    refine Goes.go (fun _ kk => XS.ifNo X14.here hx rfl (hb hby at_127) rfl (XT.i0_eq_f (by decide)) kk) ?_
    show Goes _ _ _ _ _ _ _ (T14.setTop (mkF m 130 _ []))
    refine Goes.go (fun _ kk => XS.iload X14.here hx rfl (hb hby at_130) rfl kk) ?_
    show Goes _ _ _ _ _ _ _ (T14.setTop (mkF m 132 _ [(.int (-1 : Int32))]))
    refine Goes.go (fun _ kk => XS.iloadN X14.here hx rfl (hb hby at_132) rfl kk) ?_
    show Goes _ _ _ _ _ _ _ (T14.setTop (mkF m 133 _ [(.int p0), (.int (-1 : Int32))]))
    refine Goes.go (fun _ kk => XS.iload X14.here hx rfl (hb hby at_133) rfl kk) ?_
    show Goes _ _ _ _ _ _ _ (T14.setTop (mkF m 135 _ [(.int (1 : Int32)), (.int p0), (.int (-1 : Int32))]))
    refine Goes.go (fun _ kk => XS.iload X14.here hx rfl (hb hby at_135) rfl kk) ?_
    show Goes _ _ _ _ _ _ _ (T14.setTop (mkF m 137 _ [(.int (0 : Int32)), (.int (1 : Int32)), (.int p0), (.int (-1 : Int32))]))
    refine Goes.go (fun _ kk => XS.iconst X14.here hx rfl (hb hby at_137) kk) ?_
    show Goes _ _ _ _ _ _ _ (T14.setTop (mkF m 138 _ [(.int (0 : Int32)), (.int (0 : Int32)), (.int (1 : Int32)), (.int p0), (.int (-1 : Int32))]))
    obtain ⟨_, _, ⟨T15, L15, k15, n15⟩, -, X15, ⟨Lc15, hQ15, l15, y15, z15⟩, st15⟩ := Jvm.LawKit.callS X14 hx (y := (⟨"com/example/wide_schema/wideschema/io/BytesInputReadPinLaw", "exp", "(IIII)I"⟩ : MethodName)) hown (mvT hZ (hw _ (List.mem_of_getElem? (i := 32) rfl))) (mvT hZ (hw _ (List.mem_of_getElem? (i := 33) rfl))) (mvT hZ (hw _ (List.mem_of_getElem? (i := 34) rfl))) (mvT hZ (hw _ (List.mem_of_getElem? (i := 35) rfl))) (by decide) (backOf (W := 1) (rm5 l Z a0 hw [] p0 (1 : Int32) (0 : Int32) (0 : Int32) T7.heap n0 Z7) hZ (hw _ (List.mem_of_getElem? (i := 35) rfl)) (hw _ (List.mem_of_getElem? (i := 34) rfl)) (by decide) (by decide)) (g := (mkF m 138 #[.val (.int p0), .val (.int p1), .val (.int p2), .val (.ref ar1), .val (.int (1 : Int32)), .val (.int (0 : Int32)), .val (.ref ob52), .val (.int (1 : Int32)), .val (.int (-1 : Int32)), .val (.int (-1 : Int32)), .val (.int (-1 : Int32)), .val (.int (-1 : Int32)), .val (.int (-1 : Int32)), .val (.int (-1 : Int32))] [(.int (0 : Int32)), (.int (0 : Int32)), (.int (1 : Int32)), (.int p0), (.int (-1 : Int32))])) rfl (by rw [hml]; rfl) (argsL := [(.int p0), (.int (1 : Int32)), (.int (0 : Int32)), (.int (0 : Int32))]) (rest := [(.int (-1 : Int32))]) (lenOf pd3 rfl) rfl (by show 2 * 0 + _ ≤ _; exact Nat.le_of_eq rfl) (hb hby at_138) (fun _ _ => ⟨rfl, hh14, (by decide : 2 + 0 ≤ _), (by decide : 7 + 0 ≤ _)⟩)
    dsimp only [Pt.U, Pt.locs, Pt.cells, Pt.slots] at X15 l15 y15 z15 st15 hQ15
    subst l15 y15 z15
    obtain ⟨rfl, Nq15, hh15⟩ := hQ15
    have N15 := Fr.app N14 Nq15
    refine Goes.go (st15) ?_
    show Goes _ _ _ _ _ _ _ (T15.setTop (mkF m 141 _ [(.int (exF p0 (1 : Int32) (0 : Int32) (0 : Int32))), (.int (-1 : Int32))]))
    refine Goes.go (fun _ kk => XS.icmpNo X15.here hx rfl (hb hby at_141) rfl (XT.ii_ne_f (own_m (by decide))) kk) ?_
    show Goes _ _ _ _ _ _ _ (T15.setTop (mkF m 144 _ []))
    refine Goes.go (fun _ kk => XS.iconst X15.here hx rfl (hb hby at_144) kk) ?_
    show Goes _ _ _ _ _ _ _ (T15.setTop (mkF m 145 _ [(.int (1 : Int32))]))
    refine Goes.go (fun _ kk => XS.goto X15.here hx rfl (pc0 := 145) (pc' := 149) rfl (hb hby at_145) (by decide) (by decide) kk) ?_
    show Goes _ _ _ _ _ _ _ (T15.setTop (mkF m 149 _ [(.int (1 : Int32))]))
    refine Goes.go (fun _ kk => XS.istore X15.here hx rfl (hb hby at_149) rfl (l' := #[.val (.int p0), .val (.int p1), .val (.int p2), .val (.ref ar1), .val (.int (1 : Int32)), .val (.int (0 : Int32)), .val (.ref ob52), .val (.int (1 : Int32)), .val (.int (-1 : Int32)), .val (.int (-1 : Int32)), .val (.int (-1 : Int32)), .val (.int (-1 : Int32)), .val (.int (-1 : Int32)), .val (.int (-1 : Int32))]) rfl kk) ?_
    show Goes _ _ _ _ _ _ _ (T15.setTop (mkF m 151 _ []))
    refine Goes.go (fun _ kk => XS.iload X15.here hx rfl (hb hby at_151) rfl kk) ?_
    show Goes _ _ _ _ _ _ _ (T15.setTop (mkF m 153 _ [(.int (1 : Int32))]))
    refine Goes.go (fun _ kk => XS.ifNo X15.here hx rfl (hb hby at_153) rfl (XT.i0_eq_f (by decide)) kk) ?_
    show Goes _ _ _ _ _ _ _ (T15.setTop (mkF m 156 _ []))
    refine Goes.go (fun _ kk => XS.iload X15.here hx rfl (hb hby at_156) rfl kk) ?_
    show Goes _ _ _ _ _ _ _ (T15.setTop (mkF m 158 _ [(.int (-1 : Int32))]))
    refine Goes.go (fun _ kk => XS.iloadN X15.here hx rfl (hb hby at_158) rfl kk) ?_
    show Goes _ _ _ _ _ _ _ (T15.setTop (mkF m 159 _ [(.int p0), (.int (-1 : Int32))]))
    refine Goes.go (fun _ kk => XS.iload X15.here hx rfl (hb hby at_159) rfl kk) ?_
    show Goes _ _ _ _ _ _ _ (T15.setTop (mkF m 161 _ [(.int (1 : Int32)), (.int p0), (.int (-1 : Int32))]))
    refine Goes.go (fun _ kk => XS.iload X15.here hx rfl (hb hby at_161) rfl kk) ?_
    show Goes _ _ _ _ _ _ _ (T15.setTop (mkF m 163 _ [(.int (0 : Int32)), (.int (1 : Int32)), (.int p0), (.int (-1 : Int32))]))
    refine Goes.go (fun _ kk => XS.iconst X15.here hx rfl (hb hby at_163) kk) ?_
    show Goes _ _ _ _ _ _ _ (T15.setTop (mkF m 164 _ [(.int (1 : Int32)), (.int (0 : Int32)), (.int (1 : Int32)), (.int p0), (.int (-1 : Int32))]))
    obtain ⟨_, _, ⟨T16, L16, k16, n16⟩, -, X16, ⟨Lc16, hQ16, l16, y16, z16⟩, st16⟩ := Jvm.LawKit.callS X15 hx (y := (⟨"com/example/wide_schema/wideschema/io/BytesInputReadPinLaw", "exp", "(IIII)I"⟩ : MethodName)) hown (mvT hZ (hw _ (List.mem_of_getElem? (i := 32) rfl))) (mvT hZ (hw _ (List.mem_of_getElem? (i := 33) rfl))) (mvT hZ (hw _ (List.mem_of_getElem? (i := 34) rfl))) (mvT hZ (hw _ (List.mem_of_getElem? (i := 35) rfl))) (by decide) (backOf (W := 1) (rm5 l Z a0 hw [] p0 (1 : Int32) (0 : Int32) (1 : Int32) T7.heap n0 Z7) hZ (hw _ (List.mem_of_getElem? (i := 35) rfl)) (hw _ (List.mem_of_getElem? (i := 34) rfl)) (by decide) (by decide)) (g := (mkF m 164 #[.val (.int p0), .val (.int p1), .val (.int p2), .val (.ref ar1), .val (.int (1 : Int32)), .val (.int (0 : Int32)), .val (.ref ob52), .val (.int (1 : Int32)), .val (.int (-1 : Int32)), .val (.int (-1 : Int32)), .val (.int (-1 : Int32)), .val (.int (-1 : Int32)), .val (.int (-1 : Int32)), .val (.int (-1 : Int32))] [(.int (1 : Int32)), (.int (0 : Int32)), (.int (1 : Int32)), (.int p0), (.int (-1 : Int32))])) rfl (by rw [hml]; rfl) (argsL := [(.int p0), (.int (1 : Int32)), (.int (0 : Int32)), (.int (1 : Int32))]) (rest := [(.int (-1 : Int32))]) (lenOf pd3 rfl) rfl (by show 2 * 0 + _ ≤ _; exact Nat.le_of_eq rfl) (hb hby at_164) (fun _ _ => ⟨rfl, hh15, (by decide : 2 + 0 ≤ _), (by decide : 7 + 0 ≤ _)⟩)
    dsimp only [Pt.U, Pt.locs, Pt.cells, Pt.slots] at X16 l16 y16 z16 st16 hQ16
    subst l16 y16 z16
    obtain ⟨rfl, Nq16, hh16⟩ := hQ16
    have N16 := Fr.app N15 Nq16
    refine Goes.go (st16) ?_
    show Goes _ _ _ _ _ _ _ (T16.setTop (mkF m 167 _ [(.int (exF p0 (1 : Int32) (0 : Int32) (1 : Int32))), (.int (-1 : Int32))]))
    refine Goes.go (fun _ kk => XS.icmpNo X16.here hx rfl (hb hby at_167) rfl (XT.ii_ne_f (own_m (by decide))) kk) ?_
    show Goes _ _ _ _ _ _ _ (T16.setTop (mkF m 170 _ []))
    refine Goes.go (fun _ kk => XS.iconst X16.here hx rfl (hb hby at_170) kk) ?_
    show Goes _ _ _ _ _ _ _ (T16.setTop (mkF m 171 _ [(.int (1 : Int32))]))
    refine Goes.go (fun _ kk => XS.goto X16.here hx rfl (pc0 := 171) (pc' := 175) rfl (hb hby at_171) (by decide) (by decide) kk) ?_
    show Goes _ _ _ _ _ _ _ (T16.setTop (mkF m 175 _ [(.int (1 : Int32))]))
    refine Goes.go (fun _ kk => XS.istore X16.here hx rfl (hb hby at_175) rfl (l' := #[.val (.int p0), .val (.int p1), .val (.int p2), .val (.ref ar1), .val (.int (1 : Int32)), .val (.int (0 : Int32)), .val (.ref ob52), .val (.int (1 : Int32)), .val (.int (-1 : Int32)), .val (.int (-1 : Int32)), .val (.int (-1 : Int32)), .val (.int (-1 : Int32)), .val (.int (-1 : Int32)), .val (.int (-1 : Int32))]) rfl kk) ?_
    show Goes _ _ _ _ _ _ _ (T16.setTop (mkF m 177 _ []))
    refine Goes.go (fun _ kk => XS.iload X16.here hx rfl (hb hby at_177) rfl kk) ?_
    show Goes _ _ _ _ _ _ _ (T16.setTop (mkF m 179 _ [(.int (1 : Int32))]))
    refine Goes.go (fun _ kk => XS.ifNo X16.here hx rfl (hb hby at_179) rfl (XT.i0_eq_f (by decide)) kk) ?_
    show Goes _ _ _ _ _ _ _ (T16.setTop (mkF m 182 _ []))
    refine Goes.go (fun _ kk => XS.iload X16.here hx rfl (hb hby at_182) rfl kk) ?_
    show Goes _ _ _ _ _ _ _ (T16.setTop (mkF m 184 _ [(.int (-1 : Int32))]))
    refine Goes.go (fun _ kk => XS.iloadN X16.here hx rfl (hb hby at_184) rfl kk) ?_
    show Goes _ _ _ _ _ _ _ (T16.setTop (mkF m 185 _ [(.int p0), (.int (-1 : Int32))]))
    refine Goes.go (fun _ kk => XS.iload X16.here hx rfl (hb hby at_185) rfl kk) ?_
    show Goes _ _ _ _ _ _ _ (T16.setTop (mkF m 187 _ [(.int (1 : Int32)), (.int p0), (.int (-1 : Int32))]))
    refine Goes.go (fun _ kk => XS.iload X16.here hx rfl (hb hby at_187) rfl kk) ?_
    show Goes _ _ _ _ _ _ _ (T16.setTop (mkF m 189 _ [(.int (0 : Int32)), (.int (1 : Int32)), (.int p0), (.int (-1 : Int32))]))
    refine Goes.go (fun _ kk => XS.iconst X16.here hx rfl (hb hby at_189) kk) ?_
    show Goes _ _ _ _ _ _ _ (T16.setTop (mkF m 190 _ [(.int (2 : Int32)), (.int (0 : Int32)), (.int (1 : Int32)), (.int p0), (.int (-1 : Int32))]))
    obtain ⟨_, _, ⟨T17, L17, k17, n17⟩, -, X17, ⟨Lc17, hQ17, l17, y17, z17⟩, st17⟩ := Jvm.LawKit.callS X16 hx (y := (⟨"com/example/wide_schema/wideschema/io/BytesInputReadPinLaw", "exp", "(IIII)I"⟩ : MethodName)) hown (mvT hZ (hw _ (List.mem_of_getElem? (i := 32) rfl))) (mvT hZ (hw _ (List.mem_of_getElem? (i := 33) rfl))) (mvT hZ (hw _ (List.mem_of_getElem? (i := 34) rfl))) (mvT hZ (hw _ (List.mem_of_getElem? (i := 35) rfl))) (by decide) (backOf (W := 1) (rm5 l Z a0 hw [] p0 (1 : Int32) (0 : Int32) (2 : Int32) T7.heap n0 Z7) hZ (hw _ (List.mem_of_getElem? (i := 35) rfl)) (hw _ (List.mem_of_getElem? (i := 34) rfl)) (by decide) (by decide)) (g := (mkF m 190 #[.val (.int p0), .val (.int p1), .val (.int p2), .val (.ref ar1), .val (.int (1 : Int32)), .val (.int (0 : Int32)), .val (.ref ob52), .val (.int (1 : Int32)), .val (.int (-1 : Int32)), .val (.int (-1 : Int32)), .val (.int (-1 : Int32)), .val (.int (-1 : Int32)), .val (.int (-1 : Int32)), .val (.int (-1 : Int32))] [(.int (2 : Int32)), (.int (0 : Int32)), (.int (1 : Int32)), (.int p0), (.int (-1 : Int32))])) rfl (by rw [hml]; rfl) (argsL := [(.int p0), (.int (1 : Int32)), (.int (0 : Int32)), (.int (2 : Int32))]) (rest := [(.int (-1 : Int32))]) (lenOf pd3 rfl) rfl (by show 2 * 0 + _ ≤ _; exact Nat.le_of_eq rfl) (hb hby at_190) (fun _ _ => ⟨rfl, hh16, (by decide : 2 + 0 ≤ _), (by decide : 7 + 0 ≤ _)⟩)
    dsimp only [Pt.U, Pt.locs, Pt.cells, Pt.slots] at X17 l17 y17 z17 st17 hQ17
    subst l17 y17 z17
    obtain ⟨rfl, Nq17, hh17⟩ := hQ17
    have N17 := Fr.app N16 Nq17
    refine Goes.go (st17) ?_
    show Goes _ _ _ _ _ _ _ (T17.setTop (mkF m 193 _ [(.int (exF p0 (1 : Int32) (0 : Int32) (2 : Int32))), (.int (-1 : Int32))]))
    refine Goes.go (fun _ kk => XS.icmpNo X17.here hx rfl (hb hby at_193) rfl (XT.ii_ne_f (own_m (by decide))) kk) ?_
    show Goes _ _ _ _ _ _ _ (T17.setTop (mkF m 196 _ []))
    refine Goes.go (fun _ kk => XS.iconst X17.here hx rfl (hb hby at_196) kk) ?_
    show Goes _ _ _ _ _ _ _ (T17.setTop (mkF m 197 _ [(.int (1 : Int32))]))
    refine Goes.go (fun _ kk => XS.goto X17.here hx rfl (pc0 := 197) (pc' := 201) rfl (hb hby at_197) (by decide) (by decide) kk) ?_
    show Goes _ _ _ _ _ _ _ (T17.setTop (mkF m 201 _ [(.int (1 : Int32))]))
    refine Goes.go (fun _ kk => XS.istore X17.here hx rfl (hb hby at_201) rfl (l' := #[.val (.int p0), .val (.int p1), .val (.int p2), .val (.ref ar1), .val (.int (1 : Int32)), .val (.int (0 : Int32)), .val (.ref ob52), .val (.int (1 : Int32)), .val (.int (-1 : Int32)), .val (.int (-1 : Int32)), .val (.int (-1 : Int32)), .val (.int (-1 : Int32)), .val (.int (-1 : Int32)), .val (.int (-1 : Int32))]) rfl kk) ?_
    show Goes _ _ _ _ _ _ _ (T17.setTop (mkF m 203 _ []))
    refine Goes.go (fun _ kk => XS.iload X17.here hx rfl (hb hby at_203) rfl kk) ?_
    show Goes _ _ _ _ _ _ _ (T17.setTop (mkF m 205 _ [(.int (1 : Int32))]))
    refine Goes.go (fun _ kk => XS.ifNo X17.here hx rfl (hb hby at_205) rfl (XT.i0_eq_f (by decide)) kk) ?_
    show Goes _ _ _ _ _ _ _ (T17.setTop (mkF m 208 _ []))
    refine Goes.go (fun _ kk => XS.iload X17.here hx rfl (hb hby at_208) rfl kk) ?_
    show Goes _ _ _ _ _ _ _ (T17.setTop (mkF m 210 _ [(.int (-1 : Int32))]))
    refine Goes.go (fun _ kk => XS.iloadN X17.here hx rfl (hb hby at_210) rfl kk) ?_
    show Goes _ _ _ _ _ _ _ (T17.setTop (mkF m 211 _ [(.int p0), (.int (-1 : Int32))]))
    refine Goes.go (fun _ kk => XS.iload X17.here hx rfl (hb hby at_211) rfl kk) ?_
    show Goes _ _ _ _ _ _ _ (T17.setTop (mkF m 213 _ [(.int (1 : Int32)), (.int p0), (.int (-1 : Int32))]))
    refine Goes.go (fun _ kk => XS.iload X17.here hx rfl (hb hby at_213) rfl kk) ?_
    show Goes _ _ _ _ _ _ _ (T17.setTop (mkF m 215 _ [(.int (0 : Int32)), (.int (1 : Int32)), (.int p0), (.int (-1 : Int32))]))
    refine Goes.go (fun _ kk => XS.iconst X17.here hx rfl (hb hby at_215) kk) ?_
    show Goes _ _ _ _ _ _ _ (T17.setTop (mkF m 216 _ [(.int (3 : Int32)), (.int (0 : Int32)), (.int (1 : Int32)), (.int p0), (.int (-1 : Int32))]))
    obtain ⟨_, _, ⟨T18, L18, k18, n18⟩, -, X18, ⟨Lc18, hQ18, l18, y18, z18⟩, st18⟩ := Jvm.LawKit.callS X17 hx (y := (⟨"com/example/wide_schema/wideschema/io/BytesInputReadPinLaw", "exp", "(IIII)I"⟩ : MethodName)) hown (mvT hZ (hw _ (List.mem_of_getElem? (i := 32) rfl))) (mvT hZ (hw _ (List.mem_of_getElem? (i := 33) rfl))) (mvT hZ (hw _ (List.mem_of_getElem? (i := 34) rfl))) (mvT hZ (hw _ (List.mem_of_getElem? (i := 35) rfl))) (by decide) (backOf (W := 1) (rm5 l Z a0 hw [] p0 (1 : Int32) (0 : Int32) (3 : Int32) T7.heap n0 Z7) hZ (hw _ (List.mem_of_getElem? (i := 35) rfl)) (hw _ (List.mem_of_getElem? (i := 34) rfl)) (by decide) (by decide)) (g := (mkF m 216 #[.val (.int p0), .val (.int p1), .val (.int p2), .val (.ref ar1), .val (.int (1 : Int32)), .val (.int (0 : Int32)), .val (.ref ob52), .val (.int (1 : Int32)), .val (.int (-1 : Int32)), .val (.int (-1 : Int32)), .val (.int (-1 : Int32)), .val (.int (-1 : Int32)), .val (.int (-1 : Int32)), .val (.int (-1 : Int32))] [(.int (3 : Int32)), (.int (0 : Int32)), (.int (1 : Int32)), (.int p0), (.int (-1 : Int32))])) rfl (by rw [hml]; rfl) (argsL := [(.int p0), (.int (1 : Int32)), (.int (0 : Int32)), (.int (3 : Int32))]) (rest := [(.int (-1 : Int32))]) (lenOf pd3 rfl) rfl (by show 2 * 0 + _ ≤ _; exact Nat.le_of_eq rfl) (hb hby at_216) (fun _ _ => ⟨rfl, hh17, (by decide : 2 + 0 ≤ _), (by decide : 7 + 0 ≤ _)⟩)
    dsimp only [Pt.U, Pt.locs, Pt.cells, Pt.slots] at X18 l18 y18 z18 st18 hQ18
    subst l18 y18 z18
    obtain ⟨rfl, Nq18, hh18⟩ := hQ18
    have N18 := Fr.app N17 Nq18
    refine Goes.go (st18) ?_
    show Goes _ _ _ _ _ _ _ (T18.setTop (mkF m 219 _ [(.int (exF p0 (1 : Int32) (0 : Int32) (3 : Int32))), (.int (-1 : Int32))]))
    refine Goes.go (fun _ kk => XS.icmpNo X18.here hx rfl (hb hby at_219) rfl (XT.ii_ne_f (own_m (by decide))) kk) ?_
    show Goes _ _ _ _ _ _ _ (T18.setTop (mkF m 222 _ []))
    refine Goes.go (fun _ kk => XS.iconst X18.here hx rfl (hb hby at_222) kk) ?_
    show Goes _ _ _ _ _ _ _ (T18.setTop (mkF m 223 _ [(.int (1 : Int32))]))
    refine Goes.go (fun _ kk => XS.goto X18.here hx rfl (pc0 := 223) (pc' := 227) rfl (hb hby at_223) (by decide) (by decide) kk) ?_
    show Goes _ _ _ _ _ _ _ (T18.setTop (mkF m 227 _ [(.int (1 : Int32))]))
    refine Goes.go (fun _ kk => XS.istore X18.here hx rfl (hb hby at_227) rfl (l' := #[.val (.int p0), .val (.int p1), .val (.int p2), .val (.ref ar1), .val (.int (1 : Int32)), .val (.int (0 : Int32)), .val (.ref ob52), .val (.int (1 : Int32)), .val (.int (-1 : Int32)), .val (.int (-1 : Int32)), .val (.int (-1 : Int32)), .val (.int (-1 : Int32)), .val (.int (-1 : Int32)), .val (.int (-1 : Int32))]) rfl kk) ?_
    show Goes _ _ _ _ _ _ _ (T18.setTop (mkF m 229 _ []))
    refine Goes.go (fun _ kk => XS.iload X18.here hx rfl (hb hby at_229) rfl kk) ?_
    show Goes _ _ _ _ _ _ _ (T18.setTop (mkF m 231 _ [(.int (1 : Int32))]))
    refine Goes.go (fun _ kk => XS.ifNo X18.here hx rfl (hb hby at_231) rfl (XT.i0_eq_f (by decide)) kk) ?_
    show Goes _ _ _ _ _ _ _ (T18.setTop (mkF m 234 _ []))
    refine Goes.go (fun _ kk => XS.iload X18.here hx rfl (hb hby at_234) rfl kk) ?_
    show Goes _ _ _ _ _ _ _ (T18.setTop (mkF m 236 _ [(.int (-1 : Int32))]))
    refine Goes.go (fun _ kk => XS.iloadN X18.here hx rfl (hb hby at_236) rfl kk) ?_
    show Goes _ _ _ _ _ _ _ (T18.setTop (mkF m 237 _ [(.int p0), (.int (-1 : Int32))]))
    refine Goes.go (fun _ kk => XS.iload X18.here hx rfl (hb hby at_237) rfl kk) ?_
    show Goes _ _ _ _ _ _ _ (T18.setTop (mkF m 239 _ [(.int (1 : Int32)), (.int p0), (.int (-1 : Int32))]))
    refine Goes.go (fun _ kk => XS.iload X18.here hx rfl (hb hby at_239) rfl kk) ?_
    show Goes _ _ _ _ _ _ _ (T18.setTop (mkF m 241 _ [(.int (0 : Int32)), (.int (1 : Int32)), (.int p0), (.int (-1 : Int32))]))
    refine Goes.go (fun _ kk => XS.iconst X18.here hx rfl (hb hby at_241) kk) ?_
    show Goes _ _ _ _ _ _ _ (T18.setTop (mkF m 242 _ [(.int (4 : Int32)), (.int (0 : Int32)), (.int (1 : Int32)), (.int p0), (.int (-1 : Int32))]))
    obtain ⟨_, _, ⟨T19, L19, k19, n19⟩, -, X19, ⟨Lc19, hQ19, l19, y19, z19⟩, st19⟩ := Jvm.LawKit.callS X18 hx (y := (⟨"com/example/wide_schema/wideschema/io/BytesInputReadPinLaw", "exp", "(IIII)I"⟩ : MethodName)) hown (mvT hZ (hw _ (List.mem_of_getElem? (i := 32) rfl))) (mvT hZ (hw _ (List.mem_of_getElem? (i := 33) rfl))) (mvT hZ (hw _ (List.mem_of_getElem? (i := 34) rfl))) (mvT hZ (hw _ (List.mem_of_getElem? (i := 35) rfl))) (by decide) (backOf (W := 1) (rm5 l Z a0 hw [] p0 (1 : Int32) (0 : Int32) (4 : Int32) T7.heap n0 Z7) hZ (hw _ (List.mem_of_getElem? (i := 35) rfl)) (hw _ (List.mem_of_getElem? (i := 34) rfl)) (by decide) (by decide)) (g := (mkF m 242 #[.val (.int p0), .val (.int p1), .val (.int p2), .val (.ref ar1), .val (.int (1 : Int32)), .val (.int (0 : Int32)), .val (.ref ob52), .val (.int (1 : Int32)), .val (.int (-1 : Int32)), .val (.int (-1 : Int32)), .val (.int (-1 : Int32)), .val (.int (-1 : Int32)), .val (.int (-1 : Int32)), .val (.int (-1 : Int32))] [(.int (4 : Int32)), (.int (0 : Int32)), (.int (1 : Int32)), (.int p0), (.int (-1 : Int32))])) rfl (by rw [hml]; rfl) (argsL := [(.int p0), (.int (1 : Int32)), (.int (0 : Int32)), (.int (4 : Int32))]) (rest := [(.int (-1 : Int32))]) (lenOf pd3 rfl) rfl (by show 2 * 0 + _ ≤ _; exact Nat.le_of_eq rfl) (hb hby at_242) (fun _ _ => ⟨rfl, hh18, (by decide : 2 + 0 ≤ _), (by decide : 7 + 0 ≤ _)⟩)
    dsimp only [Pt.U, Pt.locs, Pt.cells, Pt.slots] at X19 l19 y19 z19 st19 hQ19
    subst l19 y19 z19
    obtain ⟨rfl, Nq19, hh19⟩ := hQ19
    have N19 := Fr.app N18 Nq19
    refine Goes.go (st19) ?_
    show Goes _ _ _ _ _ _ _ (T19.setTop (mkF m 245 _ [(.int (exF p0 (1 : Int32) (0 : Int32) (4 : Int32))), (.int (-1 : Int32))]))
    refine Goes.go (fun _ kk => XS.icmpNo X19.here hx rfl (hb hby at_245) rfl (XT.ii_ne_f (own_m (by decide))) kk) ?_
    show Goes _ _ _ _ _ _ _ (T19.setTop (mkF m 248 _ []))
    refine Goes.go (fun _ kk => XS.iconst X19.here hx rfl (hb hby at_248) kk) ?_
    show Goes _ _ _ _ _ _ _ (T19.setTop (mkF m 249 _ [(.int (1 : Int32))]))
    refine Goes.go (fun _ kk => XS.goto X19.here hx rfl (pc0 := 249) (pc' := 253) rfl (hb hby at_249) (by decide) (by decide) kk) ?_
    show Goes _ _ _ _ _ _ _ (T19.setTop (mkF m 253 _ [(.int (1 : Int32))]))
    refine Goes.go (fun _ kk => XS.istore X19.here hx rfl (hb hby at_253) rfl (l' := #[.val (.int p0), .val (.int p1), .val (.int p2), .val (.ref ar1), .val (.int (1 : Int32)), .val (.int (0 : Int32)), .val (.ref ob52), .val (.int (1 : Int32)), .val (.int (-1 : Int32)), .val (.int (-1 : Int32)), .val (.int (-1 : Int32)), .val (.int (-1 : Int32)), .val (.int (-1 : Int32)), .val (.int (-1 : Int32))]) rfl kk) ?_
    show Goes _ _ _ _ _ _ _ (T19.setTop (mkF m 255 _ []))
    refine Goes.go (fun _ kk => XS.iload X19.here hx rfl (hb hby at_255) rfl kk) ?_
    show Goes _ _ _ _ _ _ _ (T19.setTop (mkF m 257 _ [(.int (1 : Int32))]))
    refine Goes.go (fun _ kk => XS.ifNo X19.here hx rfl (hb hby at_257) rfl (XT.i0_eq_f (by decide)) kk) ?_
    show Goes _ _ _ _ _ _ _ (T19.setTop (mkF m 260 _ []))
    refine Goes.go (fun _ kk => XS.iload X19.here hx rfl (hb hby at_260) rfl kk) ?_
    show Goes _ _ _ _ _ _ _ (T19.setTop (mkF m 262 _ [(.int (-1 : Int32))]))
    refine Goes.go (fun _ kk => XS.iloadN X19.here hx rfl (hb hby at_262) rfl kk) ?_
    show Goes _ _ _ _ _ _ _ (T19.setTop (mkF m 263 _ [(.int p0), (.int (-1 : Int32))]))
    refine Goes.go (fun _ kk => XS.iload X19.here hx rfl (hb hby at_263) rfl kk) ?_
    show Goes _ _ _ _ _ _ _ (T19.setTop (mkF m 265 _ [(.int (1 : Int32)), (.int p0), (.int (-1 : Int32))]))
    refine Goes.go (fun _ kk => XS.iload X19.here hx rfl (hb hby at_265) rfl kk) ?_
    show Goes _ _ _ _ _ _ _ (T19.setTop (mkF m 267 _ [(.int (0 : Int32)), (.int (1 : Int32)), (.int p0), (.int (-1 : Int32))]))
    refine Goes.go (fun _ kk => XS.iconst X19.here hx rfl (hb hby at_267) kk) ?_
    show Goes _ _ _ _ _ _ _ (T19.setTop (mkF m 268 _ [(.int (5 : Int32)), (.int (0 : Int32)), (.int (1 : Int32)), (.int p0), (.int (-1 : Int32))]))
    obtain ⟨_, _, ⟨T20, L20, k20, n20⟩, -, X20, ⟨Lc20, hQ20, l20, y20, z20⟩, st20⟩ := Jvm.LawKit.callS X19 hx (y := (⟨"com/example/wide_schema/wideschema/io/BytesInputReadPinLaw", "exp", "(IIII)I"⟩ : MethodName)) hown (mvT hZ (hw _ (List.mem_of_getElem? (i := 32) rfl))) (mvT hZ (hw _ (List.mem_of_getElem? (i := 33) rfl))) (mvT hZ (hw _ (List.mem_of_getElem? (i := 34) rfl))) (mvT hZ (hw _ (List.mem_of_getElem? (i := 35) rfl))) (by decide) (backOf (W := 1) (rm5 l Z a0 hw [] p0 (1 : Int32) (0 : Int32) (5 : Int32) T7.heap n0 Z7) hZ (hw _ (List.mem_of_getElem? (i := 35) rfl)) (hw _ (List.mem_of_getElem? (i := 34) rfl)) (by decide) (by decide)) (g := (mkF m 268 #[.val (.int p0), .val (.int p1), .val (.int p2), .val (.ref ar1), .val (.int (1 : Int32)), .val (.int (0 : Int32)), .val (.ref ob52), .val (.int (1 : Int32)), .val (.int (-1 : Int32)), .val (.int (-1 : Int32)), .val (.int (-1 : Int32)), .val (.int (-1 : Int32)), .val (.int (-1 : Int32)), .val (.int (-1 : Int32))] [(.int (5 : Int32)), (.int (0 : Int32)), (.int (1 : Int32)), (.int p0), (.int (-1 : Int32))])) rfl (by rw [hml]; rfl) (argsL := [(.int p0), (.int (1 : Int32)), (.int (0 : Int32)), (.int (5 : Int32))]) (rest := [(.int (-1 : Int32))]) (lenOf pd3 rfl) rfl (by show 2 * 0 + _ ≤ _; exact Nat.le_of_eq rfl) (hb hby at_268) (fun _ _ => ⟨rfl, hh19, (by decide : 2 + 0 ≤ _), (by decide : 7 + 0 ≤ _)⟩)
    dsimp only [Pt.U, Pt.locs, Pt.cells, Pt.slots] at X20 l20 y20 z20 st20 hQ20
    subst l20 y20 z20
    obtain ⟨rfl, Nq20, hh20⟩ := hQ20
    have N20 := Fr.app N19 Nq20
    refine Goes.go (st20) ?_
    show Goes _ _ _ _ _ _ _ (T20.setTop (mkF m 271 _ [(.int (exF p0 (1 : Int32) (0 : Int32) (5 : Int32))), (.int (-1 : Int32))]))
    refine Goes.go (fun _ kk => XS.icmpNo X20.here hx rfl (hb hby at_271) rfl (XT.ii_ne_f (own_m (by decide))) kk) ?_
    show Goes _ _ _ _ _ _ _ (T20.setTop (mkF m 274 _ []))
    refine Goes.go (fun _ kk => XS.iconst X20.here hx rfl (hb hby at_274) kk) ?_
    show Goes _ _ _ _ _ _ _ (T20.setTop (mkF m 275 _ [(.int (1 : Int32))]))
    refine Goes.go (fun _ kk => XS.goto X20.here hx rfl (pc0 := 275) (pc' := 279) rfl (hb hby at_275) (by decide) (by decide) kk) ?_
    show Goes _ _ _ _ _ _ _ (T20.setTop (mkF m 279 _ [(.int (1 : Int32))]))
    refine Goes.go (fun _ kk => XS.istore X20.here hx rfl (hb hby at_279) rfl (l' := #[.val (.int p0), .val (.int p1), .val (.int p2), .val (.ref ar1), .val (.int (1 : Int32)), .val (.int (0 : Int32)), .val (.ref ob52), .val (.int (1 : Int32)), .val (.int (-1 : Int32)), .val (.int (-1 : Int32)), .val (.int (-1 : Int32)), .val (.int (-1 : Int32)), .val (.int (-1 : Int32)), .val (.int (-1 : Int32))]) rfl kk) ?_
    show Goes _ _ _ _ _ _ _ (T20.setTop (mkF m 281 _ []))
    refine Goes.go (fun _ kk => XS.iload X20.here hx rfl (hb hby at_281) rfl kk) ?_
    show Goes _ _ _ _ _ _ _ (T20.setTop (mkF m 283 _ [(.int (1 : Int32))]))
    refine Goes.go (fun _ kk => XS.ifNo X20.here hx rfl (hb hby at_283) rfl (XT.i0_eq_f (by decide)) kk) ?_
    show Goes _ _ _ _ _ _ _ (T20.setTop (mkF m 286 _ []))
    refine Goes.go (fun _ kk => XS.aload X20.here hx rfl (hb hby at_286) rfl rfl kk) ?_
    show Goes _ _ _ _ _ _ _ (T20.setTop (mkF m 288 _ [(.ref ob52)]))
    obtain ⟨cq21, kq21, qa21, qb21, qc21⟩ := isOf hZ hh20 Eq7
    obtain ⟨_, _, ⟨T21, L21, k21, n21⟩, -, X21, ⟨Lc21, hQ21, l21, y21, z21⟩, st21⟩ := X20.virtualBack hx (y := (⟨"com/example/wide_schema/wideschema/io/BytesInput", "available", "()I"⟩ : MethodName)) (z := (⟨"com/example/wide_schema/wideschema/io/BytesInput", "available", "()I"⟩ : MethodName)) hown (mvT hZ (hw _ (List.mem_of_getElem? (i := 22) rfl))) (mvT hZ (hw _ (List.mem_of_getElem? (i := 23) rfl))) (notFace_of_selects (args := #[]) (mvT hZ (hw _ (List.mem_of_getElem? (i := 25) rfl)))) (mvT hZ (hw _ (List.mem_of_getElem? (i := 25) rfl))) (mvT hZ (hw _ (List.mem_of_getElem? (i := 24) rfl))) (by decide) (backOf (W := 0) (rm3 l Z a0 hw [] ob52 (1 : Int32) (1 : Int32) T7.heap n0 Z7 Fq7_1 Fq7_2) hZ (hw _ (List.mem_of_getElem? (i := 26) rfl)) (hw _ (List.mem_of_getElem? (i := 4) rfl)) (by decide) (by decide)) qa21 qc21 (g := (mkF m 288 #[.val (.int p0), .val (.int p1), .val (.int p2), .val (.ref ar1), .val (.int (1 : Int32)), .val (.int (0 : Int32)), .val (.ref ob52), .val (.int (1 : Int32)), .val (.int (-1 : Int32)), .val (.int (-1 : Int32)), .val (.int (-1 : Int32)), .val (.int (-1 : Int32)), .val (.int (-1 : Int32)), .val (.int (-1 : Int32))] [(.ref ob52)])) rfl (by rw [hml]; rfl) (Steps.refl _) (argsL := []) (rest := []) (lenOf pd2 rfl) rfl (by show 2 * 0 + _ ≤ _; exact Nat.le_of_eq rfl) (hb hby at_288) (fun _ _ => ⟨rfl, hh20, (by decide : 2 + 0 ≤ _), (by decide : 7 + 0 ≤ _)⟩)
    dsimp only [Pt.U, Pt.locs, Pt.cells, Pt.slots] at X21 l21 y21 z21 st21 hQ21
    subst l21 y21 z21
    obtain ⟨rfl, Nq21, hh21⟩ := hQ21
    have N21 := Fr.app N20 Nq21
    refine Goes.go (fun _ kk => st21.trans kk) ?_
    show Goes _ _ _ _ _ _ _ (T21.setTop (mkF m 291 _ [(.int (0 : Int32))]))
    refine Goes.go (fun _ kk => XS.ifNo X21.here hx rfl (hb hby at_291) rfl (XT.i0_ne_f (by decide)) kk) ?_
    show Goes _ _ _ _ _ _ _ (T21.setTop (mkF m 294 _ []))
    refine Goes.go (fun _ kk => XS.iconst X21.here hx rfl (hb hby at_294) kk) ?_
    show Goes _ _ _ _ _ _ _ (T21.setTop (mkF m 295 _ [(.int (1 : Int32))]))
    refine Goes.go (fun _ kk => XS.goto X21.here hx rfl (pc0 := 295) (pc' := 299) rfl (hb hby at_295) (by decide) (by decide) kk) ?_
    show Goes _ _ _ _ _ _ _ (T21.setTop (mkF m 299 _ [(.int (1 : Int32))]))
    refine Goes.go (fun _ kk => XS.istore X21.here hx rfl (hb hby at_299) rfl (l' := #[.val (.int p0), .val (.int p1), .val (.int p2), .val (.ref ar1), .val (.int (1 : Int32)), .val (.int (0 : Int32)), .val (.ref ob52), .val (.int (1 : Int32)), .val (.int (-1 : Int32)), .val (.int (-1 : Int32)), .val (.int (-1 : Int32)), .val (.int (-1 : Int32)), .val (.int (-1 : Int32)), .val (.int (-1 : Int32))]) rfl kk) ?_
    show Goes _ _ _ _ _ _ _ (T21.setTop (mkF m 301 _ []))
    refine Goes.go (fun _ kk => XS.iload X21.here hx rfl (hb hby at_301) rfl kk) ?_
    show Goes _ _ _ _ _ _ _ (T21.setTop (mkF m 303 _ [(.int (1 : Int32))]))
    exact Goes.outZ X21 hx hlk hret rfl (hb hby at_303) hh21 ⟨rfl, N21⟩ (by decide) (by decide)
  · skip
    show Goes _ _ _ _ _ _ _ (T5.setTop (mkF m 52 #[.val (.int p0), .val (.int p1), .val (.int p2), .val (.ref ar1), .val (.int (1 : Int32)), .val (.int (1 : Int32)), .unset, .unset, .unset, .unset, .unset, .unset, .unset, .unset] []))
    obtain ⟨T6, h6, X6, e6, E6, A6, D6, -, st6⟩ := newO X5 hx hZ hown (hw _ (List.mem_of_getElem? (i := 2) rfl)) (hw _ (List.mem_of_getElem? (i := 3) rfl)) (hw _ (List.mem_of_getElem? (i := 4) rfl)) e5 (g := (mkF m 52 #[.val (.int p0), .val (.int p1), .val (.int p2), .val (.ref ar1), .val (.int (1 : Int32)), .val (.int (1 : Int32)), .unset, .unset, .unset, .unset, .unset, .unset, .unset, .unset] [])) rfl (hb hby at_52) (by decide) (by decide)
    obtain ⟨ob52, gob52⟩ : ∃ z, z = h5.size := ⟨_, rfl⟩
    rw [← gob52] at A6 D6 st6
    have ne_ar1_ob52 : ar1 ≠ ob52 := by rw [gob52]; exact Nat.ne_of_lt f_4.lt
    have f_5 := f_4.ext E6
    have Z6 : n0 ≤ h6.size := Nat.le_trans Z5 E6.1
    have ge_ob52 : n0 ≤ ob52 := Nat.le_trans Z5 (Nat.le_of_eq gob52.symm)
    have f_6 : Fld Z h6 ob52 "com/example/wide_schema/wideschema/io/BytesInput" "_bytes" "[B" .null := D6 (Or.inr (hw _ (List.mem_of_getElem? (i := 17) rfl))) (ty := (.array .byte)) (by decide)
    have f_7 : Fld Z h6 ob52 "com/example/wide_schema/wideschema/io/BytesInput" "_next" "I" (.int (0 : Int32)) := D6 (Or.inl (hw _ (List.mem_of_getElem? (i := 19) rfl))) (ty := .int) (by decide)
    have f_8 : Fld Z h6 ob52 "com/example/wide_schema/wideschema/io/BytesInput" "_end" "I" (.int (0 : Int32)) := D6 (Or.inr (hw _ (List.mem_of_getElem? (i := 21) rfl))) (ty := .int) (by decide)
    refine Goes.go (st6) ?_
    show Goes _ _ _ _ _ _ _ (T6.setTop (mkF m 55 _ [(.ref ob52)]))
    refine Goes.go (fun _ kk => XS.dup X6.here hx rfl (hb hby at_55) rfl rfl kk) ?_
    show Goes _ _ _ _ _ _ _ (T6.setTop (mkF m 56 _ [(.ref ob52), (.ref ob52)]))
    refine Goes.go (fun _ kk => XS.aloadN X6.here hx rfl (hb hby at_56) rfl rfl kk) ?_
    show Goes _ _ _ _ _ _ _ (T6.setTop (mkF m 57 _ [(.ref ar1), (.ref ob52), (.ref ob52)]))
    refine Goes.go (fun _ kk => XS.iload X6.here hx rfl (hb hby at_57) rfl kk) ?_
    show Goes _ _ _ _ _ _ _ (T6.setTop (mkF m 59 _ [(.int (1 : Int32)), (.ref ar1), (.ref ob52), (.ref ob52)]))
    refine Goes.go (fun _ kk => XS.iload X6.here hx rfl (hb hby at_59) rfl kk) ?_
    show Goes _ _ _ _ _ _ _ (T6.setTop (mkF m 61 _ [(.int (1 : Int32)), (.int (1 : Int32)), (.ref ar1), (.ref ob52), (.ref ob52)]))
    obtain ⟨_, _, ⟨T7, L7, k7, n7⟩, -, X7, ⟨Lc7, hQ7, l7, y7, z7⟩, st7⟩ := X6.specialBack hx (y := (⟨"com/example/wide_schema/wideschema/io/BytesInput", "<init>", "([BII)V"⟩ : MethodName)) rfl hown (mvT hZ (hw _ (List.mem_of_getElem? (i := 5) rfl))) (mvT hZ (hw _ (List.mem_of_getElem? (i := 6) rfl))) (mvT hZ (hw _ (List.mem_of_getElem? (i := 7) rfl))) (by decide) (backOf (W := 1) (rm1 l Z a0 hw [] ob52 ar1 (1 : Int32) (1 : Int32) h6 n0 Z6 A6 f_6 f_7 f_8 ge_ob52) hZ (hw _ (List.mem_of_getElem? (i := 7) rfl)) (hw _ (List.mem_of_getElem? (i := 4) rfl)) (by decide) (by decide)) (g := (mkF m 61 #[.val (.int p0), .val (.int p1), .val (.int p2), .val (.ref ar1), .val (.int (1 : Int32)), .val (.int (1 : Int32)), .unset, .unset, .unset, .unset, .unset, .unset, .unset, .unset] [(.int (1 : Int32)), (.int (1 : Int32)), (.ref ar1), (.ref ob52), (.ref ob52)])) rfl (by rw [hml]; rfl) (Steps.refl _) (a := ob52) (argsL := [(.ref ar1), (.int (1 : Int32)), (.int (1 : Int32))]) (rest := [(.ref ob52)]) (lenOf pd0 rfl) rfl (by show 2 * 0 + _ ≤ _; exact Nat.le_of_eq rfl) (hb hby at_61) (fun _ _ => ⟨rfl, e6, (by decide : 2 + 0 ≤ _), (by decide : 7 + 0 ≤ _)⟩)
    dsimp only [Pt.U, Pt.locs, Pt.cells, Pt.slots] at X7 l7 y7 z7 st7 hQ7
    subst l7 y7 z7
    obtain ⟨rfl, Nq7, Kq7, Eq7, Fq7_0, Fq7_1, Fq7_2⟩ := hQ7
    have N7 := Fr.app N5 Nq7
    have Z7 : n0 ≤ T7.heap.size := Nat.le_trans Z6 Kq7.1
    have f_9 := Arl.keep f_5 Kq7 (ninS ne_ar1_ob52 nin0)
    refine Goes.go (fun _ kk => st7.trans kk) ?_
    show Goes _ _ _ _ _ _ _ (T7.setTop (mkF m 64 _ [(.ref ob52)]))
    refine Goes.go (fun _ kk => XS.astore X7.here hx rfl (hb hby at_64) rfl rfl (l' := #[.val (.int p0), .val (.int p1), .val (.int p2), .val (.ref ar1), .val (.int (1 : Int32)), .val (.int (1 : Int32)), .val (.ref ob52), .unset, .unset, .unset, .unset, .unset, .unset, .unset]) rfl kk) ?_
    show Goes _ _ _ _ _ _ _ (T7.setTop (mkF m 66 #[.val (.int p0), .val (.int p1), .val (.int p2), .val (.ref ar1), .val (.int (1 : Int32)), .val (.int (1 : Int32)), .val (.ref ob52), .unset, .unset, .unset, .unset, .unset, .unset, .unset] []))
    refine Goes.go (fun _ kk => XS.aload X7.here hx rfl (hb hby at_66) rfl rfl kk) ?_
    show Goes _ _ _ _ _ _ _ (T7.setTop (mkF m 68 _ [(.ref ob52)]))
    obtain ⟨cq8, kq8, qa8, qb8, qc8⟩ := isOf hZ rfl Eq7
    obtain ⟨_, _, ⟨T8, L8, k8, n8⟩, -, X8, ⟨Lc8, hQ8, l8, y8, z8⟩, st8⟩ := X7.virtualBack hx (y := (⟨"com/example/wide_schema/wideschema/io/BytesInput", "available", "()I"⟩ : MethodName)) (z := (⟨"com/example/wide_schema/wideschema/io/BytesInput", "available", "()I"⟩ : MethodName)) hown (mvT hZ (hw _ (List.mem_of_getElem? (i := 22) rfl))) (mvT hZ (hw _ (List.mem_of_getElem? (i := 23) rfl))) (notFace_of_selects (args := #[]) (mvT hZ (hw _ (List.mem_of_getElem? (i := 25) rfl)))) (mvT hZ (hw _ (List.mem_of_getElem? (i := 25) rfl))) (mvT hZ (hw _ (List.mem_of_getElem? (i := 24) rfl))) (by decide) (backOf (W := 0) (rm3 l Z a0 hw [] ob52 (1 : Int32) (2 : Int32) T7.heap n0 Z7 Fq7_1 Fq7_2) hZ (hw _ (List.mem_of_getElem? (i := 26) rfl)) (hw _ (List.mem_of_getElem? (i := 4) rfl)) (by decide) (by decide)) qa8 qc8 (g := (mkF m 68 #[.val (.int p0), .val (.int p1), .val (.int p2), .val (.ref ar1), .val (.int (1 : Int32)), .val (.int (1 : Int32)), .val (.ref ob52), .unset, .unset, .unset, .unset, .unset, .unset, .unset] [(.ref ob52)])) rfl (by rw [hml]; rfl) (Steps.refl _) (argsL := []) (rest := []) (lenOf pd2 rfl) rfl (by show 2 * 0 + _ ≤ _; exact Nat.le_of_eq rfl) (hb hby at_68) (fun _ _ => ⟨rfl, rfl, (by decide : 2 + 0 ≤ _), (by decide : 7 + 0 ≤ _)⟩)
    dsimp only [Pt.U, Pt.locs, Pt.cells, Pt.slots] at X8 l8 y8 z8 st8 hQ8
    subst l8 y8 z8
    obtain ⟨rfl, Nq8, hh8⟩ := hQ8
    have N8 := Fr.app N7 Nq8
    refine Goes.go (fun _ kk => st8.trans kk) ?_
    show Goes _ _ _ _ _ _ _ (T8.setTop (mkF m 71 _ [(.int (1 : Int32))]))
    refine Goes.go (fun _ kk => XS.iload X8.here hx rfl (hb hby at_71) rfl kk) ?_
    show Goes _ _ _ _ _ _ _ (T8.setTop (mkF m 73 _ [(.int (1 : Int32)), (.int (1 : Int32))]))
    refine Goes.go (fun _ kk => XS.icmpNo X8.here hx rfl (hb hby at_73) rfl (XT.ii_ne_f (by decide)) kk) ?_
    show Goes _ _ _ _ _ _ _ (T8.setTop (mkF m 76 _ []))
    refine Goes.go (fun _ kk => XS.iconst X8.here hx rfl (hb hby at_76) kk) ?_
    show Goes _ _ _ _ _ _ _ (T8.setTop (mkF m 77 _ [(.int (1 : Int32))]))
    refine Goes.go (fun _ kk => XS.goto X8.here hx rfl (pc0 := 77) (pc' := 81) rfl (hb hby at_77) (by decide) (by decide) kk) ?_
    show Goes _ _ _ _ _ _ _ (T8.setTop (mkF m 81 _ [(.int (1 : Int32))]))
    refine Goes.go (fun _ kk => XS.istore X8.here hx rfl (hb hby at_81) rfl (l' := #[.val (.int p0), .val (.int p1), .val (.int p2), .val (.ref ar1), .val (.int (1 : Int32)), .val (.int (1 : Int32)), .val (.ref ob52), .val (.int (1 : Int32)), .unset, .unset, .unset, .unset, .unset, .unset]) rfl kk) ?_
    show Goes _ _ _ _ _ _ _ (T8.setTop (mkF m 83 #[.val (.int p0), .val (.int p1), .val (.int p2), .val (.ref ar1), .val (.int (1 : Int32)), .val (.int (1 : Int32)), .val (.ref ob52), .val (.int (1 : Int32)), .unset, .unset, .unset, .unset, .unset, .unset] []))
    refine Goes.go (fun _ kk => XS.aload X8.here hx rfl (hb hby at_83) rfl rfl kk) ?_
    show Goes _ _ _ _ _ _ _ (T8.setTop (mkF m 85 _ [(.ref ob52)]))
    obtain ⟨cq9, kq9, qa9, qb9, qc9⟩ := isOf hZ hh8 Eq7
    obtain ⟨_, _, ⟨T9, L9, k9, n9⟩, -, X9, ⟨Lc9, hQ9, l9, y9, z9⟩, st9⟩ := X8.virtualBack hx (y := (⟨"com/example/wide_schema/wideschema/io/BytesInput", "read", "()I"⟩ : MethodName)) (z := (⟨"com/example/wide_schema/wideschema/io/BytesInput", "read", "()I"⟩ : MethodName)) hown (mvT hZ (hw _ (List.mem_of_getElem? (i := 27) rfl))) (mvT hZ (hw _ (List.mem_of_getElem? (i := 28) rfl))) (notFace_of_selects (args := #[]) (mvT hZ (hw _ (List.mem_of_getElem? (i := 30) rfl)))) (mvT hZ (hw _ (List.mem_of_getElem? (i := 30) rfl))) (mvT hZ (hw _ (List.mem_of_getElem? (i := 29) rfl))) (by decide) (backOf (W := 0) (rmY l Z a0 hw [] ob52 ar1 _ (1 : Int32) (2 : Int32) (((p0).toUInt32 >>> ((8 : Int32) &&& 31).toUInt32).toInt32).toInt8.toInt32 T7.heap n0 Z7 Eq7 Fq7_0 Fq7_1 Fq7_2 ge_ob52 f_9 (by decide) (by decide) rfl) hZ (hw _ (List.mem_of_getElem? (i := 31) rfl)) (hw _ (List.mem_of_getElem? (i := 4) rfl)) (by decide) (by decide)) qa9 qc9 (g := (mkF m 85 #[.val (.int p0), .val (.int p1), .val (.int p2), .val (.ref ar1), .val (.int (1 : Int32)), .val (.int (1 : Int32)), .val (.ref ob52), .val (.int (1 : Int32)), .unset, .unset, .unset, .unset, .unset, .unset] [(.ref ob52)])) rfl (by rw [hml]; rfl) (Steps.refl _) (argsL := []) (rest := []) (lenOf pd2 rfl) rfl (by show 2 * 0 + _ ≤ _; exact Nat.le_of_eq rfl) (hb hby at_85) (fun _ _ => ⟨rfl, hh8, (by decide : 2 + 0 ≤ _), (by decide : 7 + 0 ≤ _)⟩)
    dsimp only [Pt.U, Pt.locs, Pt.cells, Pt.slots] at X9 l9 y9 z9 st9 hQ9
    subst l9 y9 z9
    obtain ⟨rfl, Nq9, Kq9, Eq9, Fq9_0, Fq9_1, Fq9_2⟩ := hQ9
    have N9 := Fr.app N8 Nq9
    have Z9 : n0 ≤ T9.heap.size := Nat.le_trans Z7 Kq9.1
    have f_10 := Arl.keep f_9 Kq9 (ninS ne_ar1_ob52 nin0)
    refine Goes.go (fun _ kk => st9.trans kk) ?_
    show Goes _ _ _ _ _ _ _ (T9.setTop (mkF m 88 _ [(.int ((((p0).toUInt32 >>> ((8 : Int32) &&& 31).toUInt32).toInt32).toInt8.toInt32 &&& (255 : Int32)))]))
    refine Goes.go (fun _ kk => XS.istore X9.here hx rfl (hb hby at_88) rfl (l' := #[.val (.int p0), .val (.int p1), .val (.int p2), .val (.ref ar1), .val (.int (1 : Int32)), .val (.int (1 : Int32)), .val (.ref ob52), .val (.int (1 : Int32)), .val (.int ((((p0).toUInt32 >>> ((8 : Int32) &&& 31).toUInt32).toInt32).toInt8.toInt32 &&& (255 : Int32))), .unset, .unset, .unset, .unset, .unset]) rfl kk) ?_
    show Goes _ _ _ _ _ _ _ (T9.setTop (mkF m 90 #[.val (.int p0), .val (.int p1), .val (.int p2), .val (.ref ar1), .val (.int (1 : Int32)), .val (.int (1 : Int32)), .val (.ref ob52), .val (.int (1 : Int32)), .val (.int ((((p0).toUInt32 >>> ((8 : Int32) &&& 31).toUInt32).toInt32).toInt8.toInt32 &&& (255 : Int32))), .unset, .unset, .unset, .unset, .unset] []))
    refine Goes.go (fun _ kk => XS.aload X9.here hx rfl (hb hby at_90) rfl rfl kk) ?_
    show Goes _ _ _ _ _ _ _ (T9.setTop (mkF m 92 _ [(.ref ob52)]))
    obtain ⟨cq10, kq10, qa10, qb10, qc10⟩ := isOf hZ rfl Eq9
    obtain ⟨_, _, ⟨T10, L10, k10, n10⟩, -, X10, ⟨Lc10, hQ10, l10, y10, z10⟩, st10⟩ := X9.virtualBack hx (y := (⟨"com/example/wide_schema/wideschema/io/BytesInput", "read", "()I"⟩ : MethodName)) (z := (⟨"com/example/wide_schema/wideschema/io/BytesInput", "read", "()I"⟩ : MethodName)) hown (mvT hZ (hw _ (List.mem_of_getElem? (i := 27) rfl))) (mvT hZ (hw _ (List.mem_of_getElem? (i := 28) rfl))) (notFace_of_selects (args := #[]) (mvT hZ (hw _ (List.mem_of_getElem? (i := 30) rfl)))) (mvT hZ (hw _ (List.mem_of_getElem? (i := 30) rfl))) (mvT hZ (hw _ (List.mem_of_getElem? (i := 29) rfl))) (by decide) (backOf (W := 0) (rmN l Z a0 hw [] ob52 (2 : Int32) (2 : Int32) T9.heap n0 Z9 Fq9_1 Fq9_2 (by decide)) hZ (hw _ (List.mem_of_getElem? (i := 31) rfl)) (hw _ (List.mem_of_getElem? (i := 4) rfl)) (by decide) (by decide)) qa10 qc10 (g := (mkF m 92 #[.val (.int p0), .val (.int p1), .val (.int p2), .val (.ref ar1), .val (.int (1 : Int32)), .val (.int (1 : Int32)), .val (.ref ob52), .val (.int (1 : Int32)), .val (.int ((((p0).toUInt32 >>> ((8 : Int32) &&& 31).toUInt32).toInt32).toInt8.toInt32 &&& (255 : Int32))), .unset, .unset, .unset, .unset, .unset] [(.ref ob52)])) rfl (by rw [hml]; rfl) (Steps.refl _) (argsL := []) (rest := []) (lenOf pd2 rfl) rfl (by show 2 * 0 + _ ≤ _; exact Nat.le_of_eq rfl) (hb hby at_92) (fun _ _ => ⟨rfl, rfl, (by decide : 2 + 0 ≤ _), (by decide : 7 + 0 ≤ _)⟩)
    dsimp only [Pt.U, Pt.locs, Pt.cells, Pt.slots] at X10 l10 y10 z10 st10 hQ10
    subst l10 y10 z10
    obtain ⟨rfl, Nq10, hh10⟩ := hQ10
    have N10 := Fr.app N9 Nq10
    refine Goes.go (fun _ kk => st10.trans kk) ?_
    show Goes _ _ _ _ _ _ _ (T10.setTop (mkF m 95 _ [(.int (-1 : Int32))]))
    refine Goes.go (fun _ kk => XS.istore X10.here hx rfl (hb hby at_95) rfl (l' := #[.val (.int p0), .val (.int p1), .val (.int p2), .val (.ref ar1), .val (.int (1 : Int32)), .val (.int (1 : Int32)), .val (.ref ob52), .val (.int (1 : Int32)), .val (.int ((((p0).toUInt32 >>> ((8 : Int32) &&& 31).toUInt32).toInt32).toInt8.toInt32 &&& (255 : Int32))), .val (.int (-1 : Int32)), .unset, .unset, .unset, .unset]) rfl kk) ?_
    show Goes _ _ _ _ _ _ _ (T10.setTop (mkF m 97 #[.val (.int p0), .val (.int p1), .val (.int p2), .val (.ref ar1), .val (.int (1 : Int32)), .val (.int (1 : Int32)), .val (.ref ob52), .val (.int (1 : Int32)), .val (.int ((((p0).toUInt32 >>> ((8 : Int32) &&& 31).toUInt32).toInt32).toInt8.toInt32 &&& (255 : Int32))), .val (.int (-1 : Int32)), .unset, .unset, .unset, .unset] []))
    refine Goes.go (fun _ kk => XS.aload X10.here hx rfl (hb hby at_97) rfl rfl kk) ?_
    show Goes _ _ _ _ _ _ _ (T10.setTop (mkF m 99 _ [(.ref ob52)]))
    obtain ⟨cq11, kq11, qa11, qb11, qc11⟩ := isOf hZ hh10 Eq9
    obtain ⟨_, _, ⟨T11, L11, k11, n11⟩, -, X11, ⟨Lc11, hQ11, l11, y11, z11⟩, st11⟩ := X10.virtualBack hx (y := (⟨"com/example/wide_schema/wideschema/io/BytesInput", "read", "()I"⟩ : MethodName)) (z := (⟨"com/example/wide_schema/wideschema/io/BytesInput", "read", "()I"⟩ : MethodName)) hown (mvT hZ (hw _ (List.mem_of_getElem? (i := 27) rfl))) (mvT hZ (hw _ (List.mem_of_getElem? (i := 28) rfl))) (notFace_of_selects (args := #[]) (mvT hZ (hw _ (List.mem_of_getElem? (i := 30) rfl)))) (mvT hZ (hw _ (List.mem_of_getElem? (i := 30) rfl))) (mvT hZ (hw _ (List.mem_of_getElem? (i := 29) rfl))) (by decide) (backOf (W := 0) (rmN l Z a0 hw [] ob52 (2 : Int32) (2 : Int32) T9.heap n0 Z9 Fq9_1 Fq9_2 (by decide)) hZ (hw _ (List.mem_of_getElem? (i := 31) rfl)) (hw _ (List.mem_of_getElem? (i := 4) rfl)) (by decide) (by decide)) qa11 qc11 (g := (mkF m 99 #[.val (.int p0), .val (.int p1), .val (.int p2), .val (.ref ar1), .val (.int (1 : Int32)), .val (.int (1 : Int32)), .val (.ref ob52), .val (.int (1 : Int32)), .val (.int ((((p0).toUInt32 >>> ((8 : Int32) &&& 31).toUInt32).toInt32).toInt8.toInt32 &&& (255 : Int32))), .val (.int (-1 : Int32)), .unset, .unset, .unset, .unset] [(.ref ob52)])) rfl (by rw [hml]; rfl) (Steps.refl _) (argsL := []) (rest := []) (lenOf pd2 rfl) rfl (by show 2 * 0 + _ ≤ _; exact Nat.le_of_eq rfl) (hb hby at_99) (fun _ _ => ⟨rfl, hh10, (by decide : 2 + 0 ≤ _), (by decide : 7 + 0 ≤ _)⟩)
    dsimp only [Pt.U, Pt.locs, Pt.cells, Pt.slots] at X11 l11 y11 z11 st11 hQ11
    subst l11 y11 z11
    obtain ⟨rfl, Nq11, hh11⟩ := hQ11
    have N11 := Fr.app N10 Nq11
    refine Goes.go (fun _ kk => st11.trans kk) ?_
    show Goes _ _ _ _ _ _ _ (T11.setTop (mkF m 102 _ [(.int (-1 : Int32))]))
    refine Goes.go (fun _ kk => XS.istore X11.here hx rfl (hb hby at_102) rfl (l' := #[.val (.int p0), .val (.int p1), .val (.int p2), .val (.ref ar1), .val (.int (1 : Int32)), .val (.int (1 : Int32)), .val (.ref ob52), .val (.int (1 : Int32)), .val (.int ((((p0).toUInt32 >>> ((8 : Int32) &&& 31).toUInt32).toInt32).toInt8.toInt32 &&& (255 : Int32))), .val (.int (-1 : Int32)), .val (.int (-1 : Int32)), .unset, .unset, .unset]) rfl kk) ?_
    show Goes _ _ _ _ _ _ _ (T11.setTop (mkF m 104 #[.val (.int p0), .val (.int p1), .val (.int p2), .val (.ref ar1), .val (.int (1 : Int32)), .val (.int (1 : Int32)), .val (.ref ob52), .val (.int (1 : Int32)), .val (.int ((((p0).toUInt32 >>> ((8 : Int32) &&& 31).toUInt32).toInt32).toInt8.toInt32 &&& (255 : Int32))), .val (.int (-1 : Int32)), .val (.int (-1 : Int32)), .unset, .unset, .unset] []))
    refine Goes.go (fun _ kk => XS.aload X11.here hx rfl (hb hby at_104) rfl rfl kk) ?_
    show Goes _ _ _ _ _ _ _ (T11.setTop (mkF m 106 _ [(.ref ob52)]))
    obtain ⟨cq12, kq12, qa12, qb12, qc12⟩ := isOf hZ hh11 Eq9
    obtain ⟨_, _, ⟨T12, L12, k12, n12⟩, -, X12, ⟨Lc12, hQ12, l12, y12, z12⟩, st12⟩ := X11.virtualBack hx (y := (⟨"com/example/wide_schema/wideschema/io/BytesInput", "read", "()I"⟩ : MethodName)) (z := (⟨"com/example/wide_schema/wideschema/io/BytesInput", "read", "()I"⟩ : MethodName)) hown (mvT hZ (hw _ (List.mem_of_getElem? (i := 27) rfl))) (mvT hZ (hw _ (List.mem_of_getElem? (i := 28) rfl))) (notFace_of_selects (args := #[]) (mvT hZ (hw _ (List.mem_of_getElem? (i := 30) rfl)))) (mvT hZ (hw _ (List.mem_of_getElem? (i := 30) rfl))) (mvT hZ (hw _ (List.mem_of_getElem? (i := 29) rfl))) (by decide) (backOf (W := 0) (rmN l Z a0 hw [] ob52 (2 : Int32) (2 : Int32) T9.heap n0 Z9 Fq9_1 Fq9_2 (by decide)) hZ (hw _ (List.mem_of_getElem? (i := 31) rfl)) (hw _ (List.mem_of_getElem? (i := 4) rfl)) (by decide) (by decide)) qa12 qc12 (g := (mkF m 106 #[.val (.int p0), .val (.int p1), .val (.int p2), .val (.ref ar1), .val (.int (1 : Int32)), .val (.int (1 : Int32)), .val (.ref ob52), .val (.int (1 : Int32)), .val (.int ((((p0).toUInt32 >>> ((8 : Int32) &&& 31).toUInt32).toInt32).toInt8.toInt32 &&& (255 : Int32))), .val (.int (-1 : Int32)), .val (.int (-1 : Int32)), .unset, .unset, .unset] [(.ref ob52)])) rfl (by rw [hml]; rfl) (Steps.refl _) (argsL := []) (rest := []) (lenOf pd2 rfl) rfl (by show 2 * 0 + _ ≤ _; exact Nat.le_of_eq rfl) (hb hby at_106) (fun _ _ => ⟨rfl, hh11, (by decide : 2 + 0 ≤ _), (by decide : 7 + 0 ≤ _)⟩)
    dsimp only [Pt.U, Pt.locs, Pt.cells, Pt.slots] at X12 l12 y12 z12 st12 hQ12
    subst l12 y12 z12
    obtain ⟨rfl, Nq12, hh12⟩ := hQ12
    have N12 := Fr.app N11 Nq12
    refine Goes.go (fun _ kk => st12.trans kk) ?_
    show Goes _ _ _ _ _ _ _ (T12.setTop (mkF m 109 _ [(.int (-1 : Int32))]))
    refine Goes.go (fun _ kk => XS.istore X12.here hx rfl (hb hby at_109) rfl (l' := #[.val (.int p0), .val (.int p1), .val (.int p2), .val (.ref ar1), .val (.int (1 : Int32)), .val (.int (1 : Int32)), .val (.ref ob52), .val (.int (1 : Int32)), .val (.int ((((p0).toUInt32 >>> ((8 : Int32) &&& 31).toUInt32).toInt32).toInt8.toInt32 &&& (255 : Int32))), .val (.int (-1 : Int32)), .val (.int (-1 : Int32)), .val (.int (-1 : Int32)), .unset, .unset]) rfl kk) ?_
    show Goes _ _ _ _ _ _ _ (T12.setTop (mkF m 111 #[.val (.int p0), .val (.int p1), .val (.int p2), .val (.ref ar1), .val (.int (1 : Int32)), .val (.int (1 : Int32)), .val (.ref ob52), .val (.int (1 : Int32)), .val (.int ((((p0).toUInt32 >>> ((8 : Int32) &&& 31).toUInt32).toInt32).toInt8.toInt32 &&& (255 : Int32))), .val (.int (-1 : Int32)), .val (.int (-1 : Int32)), .val (.int (-1 : Int32)), .unset, .unset] []))
    refine Goes.go (fun _ kk => XS.aload X12.here hx rfl (hb hby at_111) rfl rfl kk) ?_
    show Goes _ _ _ _ _ _ _ (T12.setTop (mkF m 113 _ [(.ref ob52)]))
    obtain ⟨cq13, kq13, qa13, qb13, qc13⟩ := isOf hZ hh12 Eq9
    obtain ⟨_, _, ⟨T13, L13, k13, n13⟩, -, X13, ⟨Lc13, hQ13, l13, y13, z13⟩, st13⟩ := X12.virtualBack hx (y := (⟨"com/example/wide_schema/wideschema/io/BytesInput", "read", "()I"⟩ : MethodName)) (z := (⟨"com/example/wide_schema/wideschema/io/BytesInput", "read", "()I"⟩ : MethodName)) hown (mvT hZ (hw _ (List.mem_of_getElem? (i := 27) rfl))) (mvT hZ (hw _ (List.mem_of_getElem? (i := 28) rfl))) (notFace_of_selects (args := #[]) (mvT hZ (hw _ (List.mem_of_getElem? (i := 30) rfl)))) (mvT hZ (hw _ (List.mem_of_getElem? (i := 30) rfl))) (mvT hZ (hw _ (List.mem_of_getElem? (i := 29) rfl))) (by decide) (backOf (W := 0) (rmN l Z a0 hw [] ob52 (2 : Int32) (2 : Int32) T9.heap n0 Z9 Fq9_1 Fq9_2 (by decide)) hZ (hw _ (List.mem_of_getElem? (i := 31) rfl)) (hw _ (List.mem_of_getElem? (i := 4) rfl)) (by decide) (by decide)) qa13 qc13 (g := (mkF m 113 #[.val (.int p0), .val (.int p1), .val (.int p2), .val (.ref ar1), .val (.int (1 : Int32)), .val (.int (1 : Int32)), .val (.ref ob52), .val (.int (1 : Int32)), .val (.int ((((p0).toUInt32 >>> ((8 : Int32) &&& 31).toUInt32).toInt32).toInt8.toInt32 &&& (255 : Int32))), .val (.int (-1 : Int32)), .val (.int (-1 : Int32)), .val (.int (-1 : Int32)), .unset, .unset] [(.ref ob52)])) rfl (by rw [hml]; rfl) (Steps.refl _) (argsL := []) (rest := []) (lenOf pd2 rfl) rfl (by show 2 * 0 + _ ≤ _; exact Nat.le_of_eq rfl) (hb hby at_113) (fun _ _ => ⟨rfl, hh12, (by decide : 2 + 0 ≤ _), (by decide : 7 + 0 ≤ _)⟩)
    dsimp only [Pt.U, Pt.locs, Pt.cells, Pt.slots] at X13 l13 y13 z13 st13 hQ13
    subst l13 y13 z13
    obtain ⟨rfl, Nq13, hh13⟩ := hQ13
    have N13 := Fr.app N12 Nq13
    refine Goes.go (fun _ kk => st13.trans kk) ?_
    show Goes _ _ _ _ _ _ _ (T13.setTop (mkF m 116 _ [(.int (-1 : Int32))]))
    refine Goes.go (fun _ kk => XS.istore X13.here hx rfl (hb hby at_116) rfl (l' := #[.val (.int p0), .val (.int p1), .val (.int p2), .val (.ref ar1), .val (.int (1 : Int32)), .val (.int (1 : Int32)), .val (.ref ob52), .val (.int (1 : Int32)), .val (.int ((((p0).toUInt32 >>> ((8 : Int32) &&& 31).toUInt32).toInt32).toInt8.toInt32 &&& (255 : Int32))), .val (.int (-1 : Int32)), .val (.int (-1 : Int32)), .val (.int (-1 : Int32)), .val (.int (-1 : Int32)), .unset]) rfl kk) ?_
    show Goes _ _ _ _ _ _ _ (T13.setTop (mkF m 118 #[.val (.int p0), .val (.int p1), .val (.int p2), .val (.ref ar1), .val (.int (1 : Int32)), .val (.int (1 : Int32)), .val (.ref ob52), .val (.int (1 : Int32)), .val (.int ((((p0).toUInt32 >>> ((8 : Int32) &&& 31).toUInt32).toInt32).toInt8.toInt32 &&& (255 : Int32))), .val (.int (-1 : Int32)), .val (.int (-1 : Int32)), .val (.int (-1 : Int32)), .val (.int (-1 : Int32)), .unset] []))
    refine Goes.go (fun _ kk => XS.aload X13.here hx rfl (hb hby at_118) rfl rfl kk) ?_
    show Goes _ _ _ _ _ _ _ (T13.setTop (mkF m 120 _ [(.ref ob52)]))
    obtain ⟨cq14, kq14, qa14, qb14, qc14⟩ := isOf hZ hh13 Eq9
    obtain ⟨_, _, ⟨T14, L14, k14, n14⟩, -, X14, ⟨Lc14, hQ14, l14, y14, z14⟩, st14⟩ := X13.virtualBack hx (y := (⟨"com/example/wide_schema/wideschema/io/BytesInput", "read", "()I"⟩ : MethodName)) (z := (⟨"com/example/wide_schema/wideschema/io/BytesInput", "read", "()I"⟩ : MethodName)) hown (mvT hZ (hw _ (List.mem_of_getElem? (i := 27) rfl))) (mvT hZ (hw _ (List.mem_of_getElem? (i := 28) rfl))) (notFace_of_selects (args := #[]) (mvT hZ (hw _ (List.mem_of_getElem? (i := 30) rfl)))) (mvT hZ (hw _ (List.mem_of_getElem? (i := 30) rfl))) (mvT hZ (hw _ (List.mem_of_getElem? (i := 29) rfl))) (by decide) (backOf (W := 0) (rmN l Z a0 hw [] ob52 (2 : Int32) (2 : Int32) T9.heap n0 Z9 Fq9_1 Fq9_2 (by decide)) hZ (hw _ (List.mem_of_getElem? (i := 31) rfl)) (hw _ (List.mem_of_getElem? (i := 4) rfl)) (by decide) (by decide)) qa14 qc14 (g := (mkF m 120 #[.val (.int p0), .val (.int p1), .val (.int p2), .val (.ref ar1), .val (.int (1 : Int32)), .val (.int (1 : Int32)), .val (.ref ob52), .val (.int (1 : Int32)), .val (.int ((((p0).toUInt32 >>> ((8 : Int32) &&& 31).toUInt32).toInt32).toInt8.toInt32 &&& (255 : Int32))), .val (.int (-1 : Int32)), .val (.int (-1 : Int32)), .val (.int (-1 : Int32)), .val (.int (-1 : Int32)), .unset] [(.ref ob52)])) rfl (by rw [hml]; rfl) (Steps.refl _) (argsL := []) (rest := []) (lenOf pd2 rfl) rfl (by show 2 * 0 + _ ≤ _; exact Nat.le_of_eq rfl) (hb hby at_120) (fun _ _ => ⟨rfl, hh13, (by decide : 2 + 0 ≤ _), (by decide : 7 + 0 ≤ _)⟩)
    dsimp only [Pt.U, Pt.locs, Pt.cells, Pt.slots] at X14 l14 y14 z14 st14 hQ14
    subst l14 y14 z14
    obtain ⟨rfl, Nq14, hh14⟩ := hQ14
    have N14 := Fr.app N13 Nq14
    refine Goes.go (fun _ kk => st14.trans kk) ?_
    show Goes _ _ _ _ _ _ _ (T14.setTop (mkF m 123 _ [(.int (-1 : Int32))]))
    refine Goes.go (fun _ kk => XS.istore X14.here hx rfl (hb hby at_123) rfl (l' := #[.val (.int p0), .val (.int p1), .val (.int p2), .val (.ref ar1), .val (.int (1 : Int32)), .val (.int (1 : Int32)), .val (.ref ob52), .val (.int (1 : Int32)), .val (.int ((((p0).toUInt32 >>> ((8 : Int32) &&& 31).toUInt32).toInt32).toInt8.toInt32 &&& (255 : Int32))), .val (.int (-1 : Int32)), .val (.int (-1 : Int32)), .val (.int (-1 : Int32)), .val (.int (-1 : Int32)), .val (.int (-1 : Int32))]) rfl kk) ?_
    show Goes _ _ _ _ _ _ _ (T14.setTop (mkF m 125 #[.val (.int p0), .val (.int p1), .val (.int p2), .val (.ref ar1), .val (.int (1 : Int32)), .val (.int (1 : Int32)), .val (.ref ob52), .val (.int (1 : Int32)), .val (.int ((((p0).toUInt32 >>> ((8 : Int32) &&& 31).toUInt32).toInt32).toInt8.toInt32 &&& (255 : Int32))), .val (.int (-1 : Int32)), .val (.int (-1 : Int32)), .val (.int (-1 : Int32)), .val (.int (-1 : Int32)), .val (.int (-1 : Int32))] []))
    refine Goes.go (fun _ kk => XS.iload X14.here hx rfl (hb hby at_125) rfl kk) ?_
    show Goes _ _ _ _ _ _ _ (T14.setTop (mkF m 127 _ [(.int (1 : Int32))]))
    refine Goes.go (fun _ kk => XS.ifNo X14.here hx rfl (hb hby at_127) rfl (XT.i0_eq_f (by decide)) kk) ?_
    show Goes _ _ _ _ _ _ _ (T14.setTop (mkF m 130 _ []))
    refine Goes.go (fun _ kk => XS.iload X14.here hx rfl (hb hby at_130) rfl kk) ?_
    show Goes _ _ _ _ _ _ _ (T14.setTop (mkF m 132 _ [(.int ((((p0).toUInt32 >>> ((8 : Int32) &&& 31).toUInt32).toInt32).toInt8.toInt32 &&& (255 : Int32)))]))
    refine Goes.go (fun _ kk => XS.iloadN X14.here hx rfl (hb hby at_132) rfl kk) ?_
    show Goes _ _ _ _ _ _ _ (T14.setTop (mkF m 133 _ [(.int p0), (.int ((((p0).toUInt32 >>> ((8 : Int32) &&& 31).toUInt32).toInt32).toInt8.toInt32 &&& (255 : Int32)))]))
    refine Goes.go (fun _ kk => XS.iload X14.here hx rfl (hb hby at_133) rfl kk) ?_
    show Goes _ _ _ _ _ _ _ (T14.setTop (mkF m 135 _ [(.int (1 : Int32)), (.int p0), (.int ((((p0).toUInt32 >>> ((8 : Int32) &&& 31).toUInt32).toInt32).toInt8.toInt32 &&& (255 : Int32)))]))
    refine Goes.go (fun _ kk => XS.iload X14.here hx rfl (hb hby at_135) rfl kk) ?_
    show Goes _ _ _ _ _ _ _ (T14.setTop (mkF m 137 _ [(.int (1 : Int32)), (.int (1 : Int32)), (.int p0), (.int ((((p0).toUInt32 >>> ((8 : Int32) &&& 31).toUInt32).toInt32).toInt8.toInt32 &&& (255 : Int32)))]))
    refine Goes.go (fun _ kk => XS.iconst X14.here hx rfl (hb hby at_137) kk) ?_
    show Goes _ _ _ _ _ _ _ (T14.setTop (mkF m 138 _ [(.int (0 : Int32)), (.int (1 : Int32)), (.int (1 : Int32)), (.int p0), (.int ((((p0).toUInt32 >>> ((8 : Int32) &&& 31).toUInt32).toInt32).toInt8.toInt32 &&& (255 : Int32)))]))
    obtain ⟨_, _, ⟨T15, L15, k15, n15⟩, -, X15, ⟨Lc15, hQ15, l15, y15, z15⟩, st15⟩ := Jvm.LawKit.callS X14 hx (y := (⟨"com/example/wide_schema/wideschema/io/BytesInputReadPinLaw", "exp", "(IIII)I"⟩ : MethodName)) hown (mvT hZ (hw _ (List.mem_of_getElem? (i := 32) rfl))) (mvT hZ (hw _ (List.mem_of_getElem? (i := 33) rfl))) (mvT hZ (hw _ (List.mem_of_getElem? (i := 34) rfl))) (mvT hZ (hw _ (List.mem_of_getElem? (i := 35) rfl))) (by decide) (backOf (W := 1) (rm5 l Z a0 hw [] p0 (1 : Int32) (1 : Int32) (0 : Int32) T9.heap n0 Z9) hZ (hw _ (List.mem_of_getElem? (i := 35) rfl)) (hw _ (List.mem_of_getElem? (i := 34) rfl)) (by decide) (by decide)) (g := (mkF m 138 #[.val (.int p0), .val (.int p1), .val (.int p2), .val (.ref ar1), .val (.int (1 : Int32)), .val (.int (1 : Int32)), .val (.ref ob52), .val (.int (1 : Int32)), .val (.int ((((p0).toUInt32 >>> ((8 : Int32) &&& 31).toUInt32).toInt32).toInt8.toInt32 &&& (255 : Int32))), .val (.int (-1 : Int32)), .val (.int (-1 : Int32)), .val (.int (-1 : Int32)), .val (.int (-1 : Int32)), .val (.int (-1 : Int32))] [(.int (0 : Int32)), (.int (1 : Int32)), (.int (1 : Int32)), (.int p0), (.int ((((p0).toUInt32 >>> ((8 : Int32) &&& 31).toUInt32).toInt32).toInt8.toInt32 &&& (255 : Int32)))])) rfl (by rw [hml]; rfl) (argsL := [(.int p0), (.int (1 : Int32)), (.int (1 : Int32)), (.int (0 : Int32))]) (rest := [(.int ((((p0).toUInt32 >>> ((8 : Int32) &&& 31).toUInt32).toInt32).toInt8.toInt32 &&& (255 : Int32)))]) (lenOf pd3 rfl) rfl (by show 2 * 0 + _ ≤ _; exact Nat.le_of_eq rfl) (hb hby at_138) (fun _ _ => ⟨rfl, hh14, (by decide : 2 + 0 ≤ _), (by decide : 7 + 0 ≤ _)⟩)
    dsimp only [Pt.U, Pt.locs, Pt.cells, Pt.slots] at X15 l15 y15 z15 st15 hQ15
    subst l15 y15 z15
    obtain ⟨rfl, Nq15, hh15⟩ := hQ15
    have N15 := Fr.app N14 Nq15
    refine Goes.go (st15) ?_
    show Goes _ _ _ _ _ _ _ (T15.setTop (mkF m 141 _ [(.int (exF p0 (1 : Int32) (1 : Int32) (0 : Int32))), (.int ((((p0).toUInt32 >>> ((8 : Int32) &&& 31).toUInt32).toInt32).toInt8.toInt32 &&& (255 : Int32)))]))
    refine Goes.go (fun _ kk => XS.icmpNo X15.here hx rfl (hb hby at_141) rfl (XT.ii_ne_f (own_n (8 : Int32) (by decide) (by decide))) kk) ?_
    show Goes _ _ _ _ _ _ _ (T15.setTop (mkF m 144 _ []))
    refine Goes.go (fun _ kk => XS.iconst X15.here hx rfl (hb hby at_144) kk) ?_
    show Goes _ _ _ _ _ _ _ (T15.setTop (mkF m 145 _ [(.int (1 : Int32))]))
    refine Goes.go (fun _ kk => XS.goto X15.here hx rfl (pc0 := 145) (pc' := 149) rfl (hb hby at_145) (by decide) (by decide) kk) ?_
    show Goes _ _ _ _ _ _ _ (T15.setTop (mkF m 149 _ [(.int (1 : Int32))]))
    refine Goes.go (fun _ kk => XS.istore X15.here hx rfl (hb hby at_149) rfl (l' := #[.val (.int p0), .val (.int p1), .val (.int p2), .val (.ref ar1), .val (.int (1 : Int32)), .val (.int (1 : Int32)), .val (.ref ob52), .val (.int (1 : Int32)), .val (.int ((((p0).toUInt32 >>> ((8 : Int32) &&& 31).toUInt32).toInt32).toInt8.toInt32 &&& (255 : Int32))), .val (.int (-1 : Int32)), .val (.int (-1 : Int32)), .val (.int (-1 : Int32)), .val (.int (-1 : Int32)), .val (.int (-1 : Int32))]) rfl kk) ?_
    show Goes _ _ _ _ _ _ _ (T15.setTop (mkF m 151 _ []))
    refine Goes.go (fun _ kk => XS.iload X15.here hx rfl (hb hby at_151) rfl kk) ?_
    show Goes _ _ _ _ _ _ _ (T15.setTop (mkF m 153 _ [(.int (1 : Int32))]))
    refine Goes.go (fun _ kk => XS.ifNo X15.here hx rfl (hb hby at_153) rfl (XT.i0_eq_f (by decide)) kk) ?_
    show Goes _ _ _ _ _ _ _ (T15.setTop (mkF m 156 _ []))
    refine Goes.go (fun _ kk => XS.iload X15.here hx rfl (hb hby at_156) rfl kk) ?_
    show Goes _ _ _ _ _ _ _ (T15.setTop (mkF m 158 _ [(.int (-1 : Int32))]))
    refine Goes.go (fun _ kk => XS.iloadN X15.here hx rfl (hb hby at_158) rfl kk) ?_
    show Goes _ _ _ _ _ _ _ (T15.setTop (mkF m 159 _ [(.int p0), (.int (-1 : Int32))]))
    refine Goes.go (fun _ kk => XS.iload X15.here hx rfl (hb hby at_159) rfl kk) ?_
    show Goes _ _ _ _ _ _ _ (T15.setTop (mkF m 161 _ [(.int (1 : Int32)), (.int p0), (.int (-1 : Int32))]))
    refine Goes.go (fun _ kk => XS.iload X15.here hx rfl (hb hby at_161) rfl kk) ?_
    show Goes _ _ _ _ _ _ _ (T15.setTop (mkF m 163 _ [(.int (1 : Int32)), (.int (1 : Int32)), (.int p0), (.int (-1 : Int32))]))
    refine Goes.go (fun _ kk => XS.iconst X15.here hx rfl (hb hby at_163) kk) ?_
    show Goes _ _ _ _ _ _ _ (T15.setTop (mkF m 164 _ [(.int (1 : Int32)), (.int (1 : Int32)), (.int (1 : Int32)), (.int p0), (.int (-1 : Int32))]))
    obtain ⟨_, _, ⟨T16, L16, k16, n16⟩, -, X16, ⟨Lc16, hQ16, l16, y16, z16⟩, st16⟩ := Jvm.LawKit.callS X15 hx (y := (⟨"com/example/wide_schema/wideschema/io/BytesInputReadPinLaw", "exp", "(IIII)I"⟩ : MethodName)) hown (mvT hZ (hw _ (List.mem_of_getElem? (i := 32) rfl))) (mvT hZ (hw _ (List.mem_of_getElem? (i := 33) rfl))) (mvT hZ (hw _ (List.mem_of_getElem? (i := 34) rfl))) (mvT hZ (hw _ (List.mem_of_getElem? (i := 35) rfl))) (by decide) (backOf (W := 1) (rm5 l Z a0 hw [] p0 (1 : Int32) (1 : Int32) (1 : Int32) T9.heap n0 Z9) hZ (hw _ (List.mem_of_getElem? (i := 35) rfl)) (hw _ (List.mem_of_getElem? (i := 34) rfl)) (by decide) (by decide)) (g := (mkF m 164 #[.val (.int p0), .val (.int p1), .val (.int p2), .val (.ref ar1), .val (.int (1 : Int32)), .val (.int (1 : Int32)), .val (.ref ob52), .val (.int (1 : Int32)), .val (.int ((((p0).toUInt32 >>> ((8 : Int32) &&& 31).toUInt32).toInt32).toInt8.toInt32 &&& (255 : Int32))), .val (.int (-1 : Int32)), .val (.int (-1 : Int32)), .val (.int (-1 : Int32)), .val (.int (-1 : Int32)), .val (.int (-1 : Int32))] [(.int (1 : Int32)), (.int (1 : Int32)), (.int (1 : Int32)), (.int p0), (.int (-1 : Int32))])) rfl (by rw [hml]; rfl) (argsL := [(.int p0), (.int (1 : Int32)), (.int (1 : Int32)), (.int (1 : Int32))]) (rest := [(.int (-1 : Int32))]) (lenOf pd3 rfl) rfl (by show 2 * 0 + _ ≤ _; exact Nat.le_of_eq rfl) (hb hby at_164) (fun _ _ => ⟨rfl, hh15, (by decide : 2 + 0 ≤ _), (by decide : 7 + 0 ≤ _)⟩)
    dsimp only [Pt.U, Pt.locs, Pt.cells, Pt.slots] at X16 l16 y16 z16 st16 hQ16
    subst l16 y16 z16
    obtain ⟨rfl, Nq16, hh16⟩ := hQ16
    have N16 := Fr.app N15 Nq16
    refine Goes.go (st16) ?_
    show Goes _ _ _ _ _ _ _ (T16.setTop (mkF m 167 _ [(.int (exF p0 (1 : Int32) (1 : Int32) (1 : Int32))), (.int (-1 : Int32))]))
    refine Goes.go (fun _ kk => XS.icmpNo X16.here hx rfl (hb hby at_167) rfl (XT.ii_ne_f (own_m (by decide))) kk) ?_
    show Goes _ _ _ _ _ _ _ (T16.setTop (mkF m 170 _ []))
    refine Goes.go (fun _ kk => XS.iconst X16.here hx rfl (hb hby at_170) kk) ?_
    show Goes _ _ _ _ _ _ _ (T16.setTop (mkF m 171 _ [(.int (1 : Int32))]))
    refine Goes.go (fun _ kk => XS.goto X16.here hx rfl (pc0 := 171) (pc' := 175) rfl (hb hby at_171) (by decide) (by decide) kk) ?_
    show Goes _ _ _ _ _ _ _ (T16.setTop (mkF m 175 _ [(.int (1 : Int32))]))
    refine Goes.go (fun _ kk => XS.istore X16.here hx rfl (hb hby at_175) rfl (l' := #[.val (.int p0), .val (.int p1), .val (.int p2), .val (.ref ar1), .val (.int (1 : Int32)), .val (.int (1 : Int32)), .val (.ref ob52), .val (.int (1 : Int32)), .val (.int ((((p0).toUInt32 >>> ((8 : Int32) &&& 31).toUInt32).toInt32).toInt8.toInt32 &&& (255 : Int32))), .val (.int (-1 : Int32)), .val (.int (-1 : Int32)), .val (.int (-1 : Int32)), .val (.int (-1 : Int32)), .val (.int (-1 : Int32))]) rfl kk) ?_
    show Goes _ _ _ _ _ _ _ (T16.setTop (mkF m 177 _ []))
    refine Goes.go (fun _ kk => XS.iload X16.here hx rfl (hb hby at_177) rfl kk) ?_
    show Goes _ _ _ _ _ _ _ (T16.setTop (mkF m 179 _ [(.int (1 : Int32))]))
    refine Goes.go (fun _ kk => XS.ifNo X16.here hx rfl (hb hby at_179) rfl (XT.i0_eq_f (by decide)) kk) ?_
    show Goes _ _ _ _ _ _ _ (T16.setTop (mkF m 182 _ []))
    refine Goes.go (fun _ kk => XS.iload X16.here hx rfl (hb hby at_182) rfl kk) ?_
    show Goes _ _ _ _ _ _ _ (T16.setTop (mkF m 184 _ [(.int (-1 : Int32))]))
    refine Goes.go (fun _ kk => XS.iloadN X16.here hx rfl (hb hby at_184) rfl kk) ?_
    show Goes _ _ _ _ _ _ _ (T16.setTop (mkF m 185 _ [(.int p0), (.int (-1 : Int32))]))
    refine Goes.go (fun _ kk => XS.iload X16.here hx rfl (hb hby at_185) rfl kk) ?_
    show Goes _ _ _ _ _ _ _ (T16.setTop (mkF m 187 _ [(.int (1 : Int32)), (.int p0), (.int (-1 : Int32))]))
    refine Goes.go (fun _ kk => XS.iload X16.here hx rfl (hb hby at_187) rfl kk) ?_
    show Goes _ _ _ _ _ _ _ (T16.setTop (mkF m 189 _ [(.int (1 : Int32)), (.int (1 : Int32)), (.int p0), (.int (-1 : Int32))]))
    refine Goes.go (fun _ kk => XS.iconst X16.here hx rfl (hb hby at_189) kk) ?_
    show Goes _ _ _ _ _ _ _ (T16.setTop (mkF m 190 _ [(.int (2 : Int32)), (.int (1 : Int32)), (.int (1 : Int32)), (.int p0), (.int (-1 : Int32))]))
    obtain ⟨_, _, ⟨T17, L17, k17, n17⟩, -, X17, ⟨Lc17, hQ17, l17, y17, z17⟩, st17⟩ := Jvm.LawKit.callS X16 hx (y := (⟨"com/example/wide_schema/wideschema/io/BytesInputReadPinLaw", "exp", "(IIII)I"⟩ : MethodName)) hown (mvT hZ (hw _ (List.mem_of_getElem? (i := 32) rfl))) (mvT hZ (hw _ (List.mem_of_getElem? (i := 33) rfl))) (mvT hZ (hw _ (List.mem_of_getElem? (i := 34) rfl))) (mvT hZ (hw _ (List.mem_of_getElem? (i := 35) rfl))) (by decide) (backOf (W := 1) (rm5 l Z a0 hw [] p0 (1 : Int32) (1 : Int32) (2 : Int32) T9.heap n0 Z9) hZ (hw _ (List.mem_of_getElem? (i := 35) rfl)) (hw _ (List.mem_of_getElem? (i := 34) rfl)) (by decide) (by decide)) (g := (mkF m 190 #[.val (.int p0), .val (.int p1), .val (.int p2), .val (.ref ar1), .val (.int (1 : Int32)), .val (.int (1 : Int32)), .val (.ref ob52), .val (.int (1 : Int32)), .val (.int ((((p0).toUInt32 >>> ((8 : Int32) &&& 31).toUInt32).toInt32).toInt8.toInt32 &&& (255 : Int32))), .val (.int (-1 : Int32)), .val (.int (-1 : Int32)), .val (.int (-1 : Int32)), .val (.int (-1 : Int32)), .val (.int (-1 : Int32))] [(.int (2 : Int32)), (.int (1 : Int32)), (.int (1 : Int32)), (.int p0), (.int (-1 : Int32))])) rfl (by rw [hml]; rfl) (argsL := [(.int p0), (.int (1 : Int32)), (.int (1 : Int32)), (.int (2 : Int32))]) (rest := [(.int (-1 : Int32))]) (lenOf pd3 rfl) rfl (by show 2 * 0 + _ ≤ _; exact Nat.le_of_eq rfl) (hb hby at_190) (fun _ _ => ⟨rfl, hh16, (by decide : 2 + 0 ≤ _), (by decide : 7 + 0 ≤ _)⟩)
    dsimp only [Pt.U, Pt.locs, Pt.cells, Pt.slots] at X17 l17 y17 z17 st17 hQ17
    subst l17 y17 z17
    obtain ⟨rfl, Nq17, hh17⟩ := hQ17
    have N17 := Fr.app N16 Nq17
    refine Goes.go (st17) ?_
    show Goes _ _ _ _ _ _ _ (T17.setTop (mkF m 193 _ [(.int (exF p0 (1 : Int32) (1 : Int32) (2 : Int32))), (.int (-1 : Int32))]))
    refine Goes.go (fun _ kk => XS.icmpNo X17.here hx rfl (hb hby at_193) rfl (XT.ii_ne_f (own_m (by decide))) kk) ?_
    show Goes _ _ _ _ _ _ _ (T17.setTop (mkF m 196 _ []))
    refine Goes.go (fun _ kk => XS.iconst X17.here hx rfl (hb hby at_196) kk) ?_
    show Goes _ _ _ _ _ _ _ (T17.setTop (mkF m 197 _ [(.int (1 : Int32))]))
    refine Goes.go (fun _ kk => XS.goto X17.here hx rfl (pc0 := 197) (pc' := 201) rfl (hb hby at_197) (by decide) (by decide) kk) ?_
    show Goes _ _ _ _ _ _ _ (T17.setTop (mkF m 201 _ [(.int (1 : Int32))]))
    refine Goes.go (fun _ kk => XS.istore X17.here hx rfl (hb hby at_201) rfl (l' := #[.val (.int p0), .val (.int p1), .val (.int p2), .val (.ref ar1), .val (.int (1 : Int32)), .val (.int (1 : Int32)), .val (.ref ob52), .val (.int (1 : Int32)), .val (.int ((((p0).toUInt32 >>> ((8 : Int32) &&& 31).toUInt32).toInt32).toInt8.toInt32 &&& (255 : Int32))), .val (.int (-1 : Int32)), .val (.int (-1 : Int32)), .val (.int (-1 : Int32)), .val (.int (-1 : Int32)), .val (.int (-1 : Int32))]) rfl kk) ?_
    show Goes _ _ _ _ _ _ _ (T17.setTop (mkF m 203 _ []))
    refine Goes.go (fun _ kk => XS.iload X17.here hx rfl (hb hby at_203) rfl kk) ?_
    show Goes _ _ _ _ _ _ _ (T17.setTop (mkF m 205 _ [(.int (1 : Int32))]))
    refine Goes.go (fun _ kk => XS.ifNo X17.here hx rfl (hb hby at_205) rfl (XT.i0_eq_f (by decide)) kk) ?_
    show Goes _ _ _ _ _ _ _ (T17.setTop (mkF m 208 _ []))
    refine Goes.go (fun _ kk => XS.iload X17.here hx rfl (hb hby at_208) rfl kk) ?_
    show Goes _ _ _ _ _ _ _ (T17.setTop (mkF m 210 _ [(.int (-1 : Int32))]))
    refine Goes.go (fun _ kk => XS.iloadN X17.here hx rfl (hb hby at_210) rfl kk) ?_
    show Goes _ _ _ _ _ _ _ (T17.setTop (mkF m 211 _ [(.int p0), (.int (-1 : Int32))]))
    refine Goes.go (fun _ kk => XS.iload X17.here hx rfl (hb hby at_211) rfl kk) ?_
    show Goes _ _ _ _ _ _ _ (T17.setTop (mkF m 213 _ [(.int (1 : Int32)), (.int p0), (.int (-1 : Int32))]))
    refine Goes.go (fun _ kk => XS.iload X17.here hx rfl (hb hby at_213) rfl kk) ?_
    show Goes _ _ _ _ _ _ _ (T17.setTop (mkF m 215 _ [(.int (1 : Int32)), (.int (1 : Int32)), (.int p0), (.int (-1 : Int32))]))
    refine Goes.go (fun _ kk => XS.iconst X17.here hx rfl (hb hby at_215) kk) ?_
    show Goes _ _ _ _ _ _ _ (T17.setTop (mkF m 216 _ [(.int (3 : Int32)), (.int (1 : Int32)), (.int (1 : Int32)), (.int p0), (.int (-1 : Int32))]))
    obtain ⟨_, _, ⟨T18, L18, k18, n18⟩, -, X18, ⟨Lc18, hQ18, l18, y18, z18⟩, st18⟩ := Jvm.LawKit.callS X17 hx (y := (⟨"com/example/wide_schema/wideschema/io/BytesInputReadPinLaw", "exp", "(IIII)I"⟩ : MethodName)) hown (mvT hZ (hw _ (List.mem_of_getElem? (i := 32) rfl))) (mvT hZ (hw _ (List.mem_of_getElem? (i := 33) rfl))) (mvT hZ (hw _ (List.mem_of_getElem? (i := 34) rfl))) (mvT hZ (hw _ (List.mem_of_getElem? (i := 35) rfl))) (by decide) (backOf (W := 1) (rm5 l Z a0 hw [] p0 (1 : Int32) (1 : Int32) (3 : Int32) T9.heap n0 Z9) hZ (hw _ (List.mem_of_getElem? (i := 35) rfl)) (hw _ (List.mem_of_getElem? (i := 34) rfl)) (by decide) (by decide)) (g := (mkF m 216 #[.val (.int p0), .val (.int p1), .val (.int p2), .val (.ref ar1), .val (.int (1 : Int32)), .val (.int (1 : Int32)), .val (.ref ob52), .val (.int (1 : Int32)), .val (.int ((((p0).toUInt32 >>> ((8 : Int32) &&& 31).toUInt32).toInt32).toInt8.toInt32 &&& (255 : Int32))), .val (.int (-1 : Int32)), .val (.int (-1 : Int32)), .val (.int (-1 : Int32)), .val (.int (-1 : Int32)), .val (.int (-1 : Int32))] [(.int (3 : Int32)), (.int (1 : Int32)), (.int (1 : Int32)), (.int p0), (.int (-1 : Int32))])) rfl (by rw [hml]; rfl) (argsL := [(.int p0), (.int (1 : Int32)), (.int (1 : Int32)), (.int (3 : Int32))]) (rest := [(.int (-1 : Int32))]) (lenOf pd3 rfl) rfl (by show 2 * 0 + _ ≤ _; exact Nat.le_of_eq rfl) (hb hby at_216) (fun _ _ => ⟨rfl, hh17, (by decide : 2 + 0 ≤ _), (by decide : 7 + 0 ≤ _)⟩)
    dsimp only [Pt.U, Pt.locs, Pt.cells, Pt.slots] at X18 l18 y18 z18 st18 hQ18
    subst l18 y18 z18
    obtain ⟨rfl, Nq18, hh18⟩ := hQ18
    have N18 := Fr.app N17 Nq18
    refine Goes.go (st18) ?_
    show Goes _ _ _ _ _ _ _ (T18.setTop (mkF m 219 _ [(.int (exF p0 (1 : Int32) (1 : Int32) (3 : Int32))), (.int (-1 : Int32))]))
    refine Goes.go (fun _ kk => XS.icmpNo X18.here hx rfl (hb hby at_219) rfl (XT.ii_ne_f (own_m (by decide))) kk) ?_
    show Goes _ _ _ _ _ _ _ (T18.setTop (mkF m 222 _ []))
    refine Goes.go (fun _ kk => XS.iconst X18.here hx rfl (hb hby at_222) kk) ?_
    show Goes _ _ _ _ _ _ _ (T18.setTop (mkF m 223 _ [(.int (1 : Int32))]))
    refine Goes.go (fun _ kk => XS.goto X18.here hx rfl (pc0 := 223) (pc' := 227) rfl (hb hby at_223) (by decide) (by decide) kk) ?_
    show Goes _ _ _ _ _ _ _ (T18.setTop (mkF m 227 _ [(.int (1 : Int32))]))
    refine Goes.go (fun _ kk => XS.istore X18.here hx rfl (hb hby at_227) rfl (l' := #[.val (.int p0), .val (.int p1), .val (.int p2), .val (.ref ar1), .val (.int (1 : Int32)), .val (.int (1 : Int32)), .val (.ref ob52), .val (.int (1 : Int32)), .val (.int ((((p0).toUInt32 >>> ((8 : Int32) &&& 31).toUInt32).toInt32).toInt8.toInt32 &&& (255 : Int32))), .val (.int (-1 : Int32)), .val (.int (-1 : Int32)), .val (.int (-1 : Int32)), .val (.int (-1 : Int32)), .val (.int (-1 : Int32))]) rfl kk) ?_
    show Goes _ _ _ _ _ _ _ (T18.setTop (mkF m 229 _ []))
    refine Goes.go (fun _ kk => XS.iload X18.here hx rfl (hb hby at_229) rfl kk) ?_
    show Goes _ _ _ _ _ _ _ (T18.setTop (mkF m 231 _ [(.int (1 : Int32))]))
    refine Goes.go (fun _ kk => XS.ifNo X18.here hx rfl (hb hby at_231) rfl (XT.i0_eq_f (by decide)) kk) ?_
    show Goes _ _ _ _ _ _ _ (T18.setTop (mkF m 234 _ []))
    refine Goes.go (fun _ kk => XS.iload X18.here hx rfl (hb hby at_234) rfl kk) ?_
    show Goes _ _ _ _ _ _ _ (T18.setTop (mkF m 236 _ [(.int (-1 : Int32))]))
    refine Goes.go (fun _ kk => XS.iloadN X18.here hx rfl (hb hby at_236) rfl kk) ?_
    show Goes _ _ _ _ _ _ _ (T18.setTop (mkF m 237 _ [(.int p0), (.int (-1 : Int32))]))
    refine Goes.go (fun _ kk => XS.iload X18.here hx rfl (hb hby at_237) rfl kk) ?_
    show Goes _ _ _ _ _ _ _ (T18.setTop (mkF m 239 _ [(.int (1 : Int32)), (.int p0), (.int (-1 : Int32))]))
    refine Goes.go (fun _ kk => XS.iload X18.here hx rfl (hb hby at_239) rfl kk) ?_
    show Goes _ _ _ _ _ _ _ (T18.setTop (mkF m 241 _ [(.int (1 : Int32)), (.int (1 : Int32)), (.int p0), (.int (-1 : Int32))]))
    refine Goes.go (fun _ kk => XS.iconst X18.here hx rfl (hb hby at_241) kk) ?_
    show Goes _ _ _ _ _ _ _ (T18.setTop (mkF m 242 _ [(.int (4 : Int32)), (.int (1 : Int32)), (.int (1 : Int32)), (.int p0), (.int (-1 : Int32))]))
    obtain ⟨_, _, ⟨T19, L19, k19, n19⟩, -, X19, ⟨Lc19, hQ19, l19, y19, z19⟩, st19⟩ := Jvm.LawKit.callS X18 hx (y := (⟨"com/example/wide_schema/wideschema/io/BytesInputReadPinLaw", "exp", "(IIII)I"⟩ : MethodName)) hown (mvT hZ (hw _ (List.mem_of_getElem? (i := 32) rfl))) (mvT hZ (hw _ (List.mem_of_getElem? (i := 33) rfl))) (mvT hZ (hw _ (List.mem_of_getElem? (i := 34) rfl))) (mvT hZ (hw _ (List.mem_of_getElem? (i := 35) rfl))) (by decide) (backOf (W := 1) (rm5 l Z a0 hw [] p0 (1 : Int32) (1 : Int32) (4 : Int32) T9.heap n0 Z9) hZ (hw _ (List.mem_of_getElem? (i := 35) rfl)) (hw _ (List.mem_of_getElem? (i := 34) rfl)) (by decide) (by decide)) (g := (mkF m 242 #[.val (.int p0), .val (.int p1), .val (.int p2), .val (.ref ar1), .val (.int (1 : Int32)), .val (.int (1 : Int32)), .val (.ref ob52), .val (.int (1 : Int32)), .val (.int ((((p0).toUInt32 >>> ((8 : Int32) &&& 31).toUInt32).toInt32).toInt8.toInt32 &&& (255 : Int32))), .val (.int (-1 : Int32)), .val (.int (-1 : Int32)), .val (.int (-1 : Int32)), .val (.int (-1 : Int32)), .val (.int (-1 : Int32))] [(.int (4 : Int32)), (.int (1 : Int32)), (.int (1 : Int32)), (.int p0), (.int (-1 : Int32))])) rfl (by rw [hml]; rfl) (argsL := [(.int p0), (.int (1 : Int32)), (.int (1 : Int32)), (.int (4 : Int32))]) (rest := [(.int (-1 : Int32))]) (lenOf pd3 rfl) rfl (by show 2 * 0 + _ ≤ _; exact Nat.le_of_eq rfl) (hb hby at_242) (fun _ _ => ⟨rfl, hh18, (by decide : 2 + 0 ≤ _), (by decide : 7 + 0 ≤ _)⟩)
    dsimp only [Pt.U, Pt.locs, Pt.cells, Pt.slots] at X19 l19 y19 z19 st19 hQ19
    subst l19 y19 z19
    obtain ⟨rfl, Nq19, hh19⟩ := hQ19
    have N19 := Fr.app N18 Nq19
    refine Goes.go (st19) ?_
    show Goes _ _ _ _ _ _ _ (T19.setTop (mkF m 245 _ [(.int (exF p0 (1 : Int32) (1 : Int32) (4 : Int32))), (.int (-1 : Int32))]))
    refine Goes.go (fun _ kk => XS.icmpNo X19.here hx rfl (hb hby at_245) rfl (XT.ii_ne_f (own_m (by decide))) kk) ?_
    show Goes _ _ _ _ _ _ _ (T19.setTop (mkF m 248 _ []))
    refine Goes.go (fun _ kk => XS.iconst X19.here hx rfl (hb hby at_248) kk) ?_
    show Goes _ _ _ _ _ _ _ (T19.setTop (mkF m 249 _ [(.int (1 : Int32))]))
    refine Goes.go (fun _ kk => XS.goto X19.here hx rfl (pc0 := 249) (pc' := 253) rfl (hb hby at_249) (by decide) (by decide) kk) ?_
    show Goes _ _ _ _ _ _ _ (T19.setTop (mkF m 253 _ [(.int (1 : Int32))]))
    refine Goes.go (fun _ kk => XS.istore X19.here hx rfl (hb hby at_253) rfl (l' := #[.val (.int p0), .val (.int p1), .val (.int p2), .val (.ref ar1), .val (.int (1 : Int32)), .val (.int (1 : Int32)), .val (.ref ob52), .val (.int (1 : Int32)), .val (.int ((((p0).toUInt32 >>> ((8 : Int32) &&& 31).toUInt32).toInt32).toInt8.toInt32 &&& (255 : Int32))), .val (.int (-1 : Int32)), .val (.int (-1 : Int32)), .val (.int (-1 : Int32)), .val (.int (-1 : Int32)), .val (.int (-1 : Int32))]) rfl kk) ?_
    show Goes _ _ _ _ _ _ _ (T19.setTop (mkF m 255 _ []))
    refine Goes.go (fun _ kk => XS.iload X19.here hx rfl (hb hby at_255) rfl kk) ?_
    show Goes _ _ _ _ _ _ _ (T19.setTop (mkF m 257 _ [(.int (1 : Int32))]))
    refine Goes.go (fun _ kk => XS.ifNo X19.here hx rfl (hb hby at_257) rfl (XT.i0_eq_f (by decide)) kk) ?_
    show Goes _ _ _ _ _ _ _ (T19.setTop (mkF m 260 _ []))
    refine Goes.go (fun _ kk => XS.iload X19.here hx rfl (hb hby at_260) rfl kk) ?_
    show Goes _ _ _ _ _ _ _ (T19.setTop (mkF m 262 _ [(.int (-1 : Int32))]))
    refine Goes.go (fun _ kk => XS.iloadN X19.here hx rfl (hb hby at_262) rfl kk) ?_
    show Goes _ _ _ _ _ _ _ (T19.setTop (mkF m 263 _ [(.int p0), (.int (-1 : Int32))]))
    refine Goes.go (fun _ kk => XS.iload X19.here hx rfl (hb hby at_263) rfl kk) ?_
    show Goes _ _ _ _ _ _ _ (T19.setTop (mkF m 265 _ [(.int (1 : Int32)), (.int p0), (.int (-1 : Int32))]))
    refine Goes.go (fun _ kk => XS.iload X19.here hx rfl (hb hby at_265) rfl kk) ?_
    show Goes _ _ _ _ _ _ _ (T19.setTop (mkF m 267 _ [(.int (1 : Int32)), (.int (1 : Int32)), (.int p0), (.int (-1 : Int32))]))
    refine Goes.go (fun _ kk => XS.iconst X19.here hx rfl (hb hby at_267) kk) ?_
    show Goes _ _ _ _ _ _ _ (T19.setTop (mkF m 268 _ [(.int (5 : Int32)), (.int (1 : Int32)), (.int (1 : Int32)), (.int p0), (.int (-1 : Int32))]))
    obtain ⟨_, _, ⟨T20, L20, k20, n20⟩, -, X20, ⟨Lc20, hQ20, l20, y20, z20⟩, st20⟩ := Jvm.LawKit.callS X19 hx (y := (⟨"com/example/wide_schema/wideschema/io/BytesInputReadPinLaw", "exp", "(IIII)I"⟩ : MethodName)) hown (mvT hZ (hw _ (List.mem_of_getElem? (i := 32) rfl))) (mvT hZ (hw _ (List.mem_of_getElem? (i := 33) rfl))) (mvT hZ (hw _ (List.mem_of_getElem? (i := 34) rfl))) (mvT hZ (hw _ (List.mem_of_getElem? (i := 35) rfl))) (by decide) (backOf (W := 1) (rm5 l Z a0 hw [] p0 (1 : Int32) (1 : Int32) (5 : Int32) T9.heap n0 Z9) hZ (hw _ (List.mem_of_getElem? (i := 35) rfl)) (hw _ (List.mem_of_getElem? (i := 34) rfl)) (by decide) (by decide)) (g := (mkF m 268 #[.val (.int p0), .val (.int p1), .val (.int p2), .val (.ref ar1), .val (.int (1 : Int32)), .val (.int (1 : Int32)), .val (.ref ob52), .val (.int (1 : Int32)), .val (.int ((((p0).toUInt32 >>> ((8 : Int32) &&& 31).toUInt32).toInt32).toInt8.toInt32 &&& (255 : Int32))), .val (.int (-1 : Int32)), .val (.int (-1 : Int32)), .val (.int (-1 : Int32)), .val (.int (-1 : Int32)), .val (.int (-1 : Int32))] [(.int (5 : Int32)), (.int (1 : Int32)), (.int (1 : Int32)), (.int p0), (.int (-1 : Int32))])) rfl (by rw [hml]; rfl) (argsL := [(.int p0), (.int (1 : Int32)), (.int (1 : Int32)), (.int (5 : Int32))]) (rest := [(.int (-1 : Int32))]) (lenOf pd3 rfl) rfl (by show 2 * 0 + _ ≤ _; exact Nat.le_of_eq rfl) (hb hby at_268) (fun _ _ => ⟨rfl, hh19, (by decide : 2 + 0 ≤ _), (by decide : 7 + 0 ≤ _)⟩)
    dsimp only [Pt.U, Pt.locs, Pt.cells, Pt.slots] at X20 l20 y20 z20 st20 hQ20
    subst l20 y20 z20
    obtain ⟨rfl, Nq20, hh20⟩ := hQ20
    have N20 := Fr.app N19 Nq20
    refine Goes.go (st20) ?_
    show Goes _ _ _ _ _ _ _ (T20.setTop (mkF m 271 _ [(.int (exF p0 (1 : Int32) (1 : Int32) (5 : Int32))), (.int (-1 : Int32))]))
    refine Goes.go (fun _ kk => XS.icmpNo X20.here hx rfl (hb hby at_271) rfl (XT.ii_ne_f (own_m (by decide))) kk) ?_
    show Goes _ _ _ _ _ _ _ (T20.setTop (mkF m 274 _ []))
    refine Goes.go (fun _ kk => XS.iconst X20.here hx rfl (hb hby at_274) kk) ?_
    show Goes _ _ _ _ _ _ _ (T20.setTop (mkF m 275 _ [(.int (1 : Int32))]))
    refine Goes.go (fun _ kk => XS.goto X20.here hx rfl (pc0 := 275) (pc' := 279) rfl (hb hby at_275) (by decide) (by decide) kk) ?_
    show Goes _ _ _ _ _ _ _ (T20.setTop (mkF m 279 _ [(.int (1 : Int32))]))
    refine Goes.go (fun _ kk => XS.istore X20.here hx rfl (hb hby at_279) rfl (l' := #[.val (.int p0), .val (.int p1), .val (.int p2), .val (.ref ar1), .val (.int (1 : Int32)), .val (.int (1 : Int32)), .val (.ref ob52), .val (.int (1 : Int32)), .val (.int ((((p0).toUInt32 >>> ((8 : Int32) &&& 31).toUInt32).toInt32).toInt8.toInt32 &&& (255 : Int32))), .val (.int (-1 : Int32)), .val (.int (-1 : Int32)), .val (.int (-1 : Int32)), .val (.int (-1 : Int32)), .val (.int (-1 : Int32))]) rfl kk) ?_
    show Goes _ _ _ _ _ _ _ (T20.setTop (mkF m 281 _ []))
    refine Goes.go (fun _ kk => XS.iload X20.here hx rfl (hb hby at_281) rfl kk) ?_
    show Goes _ _ _ _ _ _ _ (T20.setTop (mkF m 283 _ [(.int (1 : Int32))]))
    refine Goes.go (fun _ kk => XS.ifNo X20.here hx rfl (hb hby at_283) rfl (XT.i0_eq_f (by decide)) kk) ?_
    show Goes _ _ _ _ _ _ _ (T20.setTop (mkF m 286 _ []))
    refine Goes.go (fun _ kk => XS.aload X20.here hx rfl (hb hby at_286) rfl rfl kk) ?_
    show Goes _ _ _ _ _ _ _ (T20.setTop (mkF m 288 _ [(.ref ob52)]))
    obtain ⟨cq21, kq21, qa21, qb21, qc21⟩ := isOf hZ hh20 Eq9
    obtain ⟨_, _, ⟨T21, L21, k21, n21⟩, -, X21, ⟨Lc21, hQ21, l21, y21, z21⟩, st21⟩ := X20.virtualBack hx (y := (⟨"com/example/wide_schema/wideschema/io/BytesInput", "available", "()I"⟩ : MethodName)) (z := (⟨"com/example/wide_schema/wideschema/io/BytesInput", "available", "()I"⟩ : MethodName)) hown (mvT hZ (hw _ (List.mem_of_getElem? (i := 22) rfl))) (mvT hZ (hw _ (List.mem_of_getElem? (i := 23) rfl))) (notFace_of_selects (args := #[]) (mvT hZ (hw _ (List.mem_of_getElem? (i := 25) rfl)))) (mvT hZ (hw _ (List.mem_of_getElem? (i := 25) rfl))) (mvT hZ (hw _ (List.mem_of_getElem? (i := 24) rfl))) (by decide) (backOf (W := 0) (rm3 l Z a0 hw [] ob52 (2 : Int32) (2 : Int32) T9.heap n0 Z9 Fq9_1 Fq9_2) hZ (hw _ (List.mem_of_getElem? (i := 26) rfl)) (hw _ (List.mem_of_getElem? (i := 4) rfl)) (by decide) (by decide)) qa21 qc21 (g := (mkF m 288 #[.val (.int p0), .val (.int p1), .val (.int p2), .val (.ref ar1), .val (.int (1 : Int32)), .val (.int (1 : Int32)), .val (.ref ob52), .val (.int (1 : Int32)), .val (.int ((((p0).toUInt32 >>> ((8 : Int32) &&& 31).toUInt32).toInt32).toInt8.toInt32 &&& (255 : Int32))), .val (.int (-1 : Int32)), .val (.int (-1 : Int32)), .val (.int (-1 : Int32)), .val (.int (-1 : Int32)), .val (.int (-1 : Int32))] [(.ref ob52)])) rfl (by rw [hml]; rfl) (Steps.refl _) (argsL := []) (rest := []) (lenOf pd2 rfl) rfl (by show 2 * 0 + _ ≤ _; exact Nat.le_of_eq rfl) (hb hby at_288) (fun _ _ => ⟨rfl, hh20, (by decide : 2 + 0 ≤ _), (by decide : 7 + 0 ≤ _)⟩)
    dsimp only [Pt.U, Pt.locs, Pt.cells, Pt.slots] at X21 l21 y21 z21 st21 hQ21
    subst l21 y21 z21
    obtain ⟨rfl, Nq21, hh21⟩ := hQ21
    have N21 := Fr.app N20 Nq21
    refine Goes.go (fun _ kk => st21.trans kk) ?_
    show Goes _ _ _ _ _ _ _ (T21.setTop (mkF m 291 _ [(.int (0 : Int32))]))
    refine Goes.go (fun _ kk => XS.ifNo X21.here hx rfl (hb hby at_291) rfl (XT.i0_ne_f (by decide)) kk) ?_
    show Goes _ _ _ _ _ _ _ (T21.setTop (mkF m 294 _ []))
    refine Goes.go (fun _ kk => XS.iconst X21.here hx rfl (hb hby at_294) kk) ?_
    show Goes _ _ _ _ _ _ _ (T21.setTop (mkF m 295 _ [(.int (1 : Int32))]))
    refine Goes.go (fun _ kk => XS.goto X21.here hx rfl (pc0 := 295) (pc' := 299) rfl (hb hby at_295) (by decide) (by decide) kk) ?_
    show Goes _ _ _ _ _ _ _ (T21.setTop (mkF m 299 _ [(.int (1 : Int32))]))
    refine Goes.go (fun _ kk => XS.istore X21.here hx rfl (hb hby at_299) rfl (l' := #[.val (.int p0), .val (.int p1), .val (.int p2), .val (.ref ar1), .val (.int (1 : Int32)), .val (.int (1 : Int32)), .val (.ref ob52), .val (.int (1 : Int32)), .val (.int ((((p0).toUInt32 >>> ((8 : Int32) &&& 31).toUInt32).toInt32).toInt8.toInt32 &&& (255 : Int32))), .val (.int (-1 : Int32)), .val (.int (-1 : Int32)), .val (.int (-1 : Int32)), .val (.int (-1 : Int32)), .val (.int (-1 : Int32))]) rfl kk) ?_
    show Goes _ _ _ _ _ _ _ (T21.setTop (mkF m 301 _ []))
    refine Goes.go (fun _ kk => XS.iload X21.here hx rfl (hb hby at_301) rfl kk) ?_
    show Goes _ _ _ _ _ _ _ (T21.setTop (mkF m 303 _ [(.int (1 : Int32))]))
    exact Goes.outZ X21 hx hlk hret rfl (hb hby at_303) hh21 ⟨rfl, N21⟩ (by decide) (by decide)
  · skip
    show Goes _ _ _ _ _ _ _ (T5.setTop (mkF m 52 #[.val (.int p0), .val (.int p1), .val (.int p2), .val (.ref ar1), .val (.int (1 : Int32)), .val (.int (2 : Int32)), .unset, .unset, .unset, .unset, .unset, .unset, .unset, .unset] []))
    obtain ⟨T6, h6, X6, e6, E6, A6, D6, -, st6⟩ := newO X5 hx hZ hown (hw _ (List.mem_of_getElem? (i := 2) rfl)) (hw _ (List.mem_of_getElem? (i := 3) rfl)) (hw _ (List.mem_of_getElem? (i := 4) rfl)) e5 (g := (mkF m 52 #[.val (.int p0), .val (.int p1), .val (.int p2), .val (.ref ar1), .val (.int (1 : Int32)), .val (.int (2 : Int32)), .unset, .unset, .unset, .unset, .unset, .unset, .unset, .unset] [])) rfl (hb hby at_52) (by decide) (by decide)
    obtain ⟨ob52, gob52⟩ : ∃ z, z = h5.size := ⟨_, rfl⟩
    rw [← gob52] at A6 D6 st6
    have ne_ar1_ob52 : ar1 ≠ ob52 := by rw [gob52]; exact Nat.ne_of_lt f_4.lt
    have f_5 := f_4.ext E6
    have Z6 : n0 ≤ h6.size := Nat.le_trans Z5 E6.1
    have ge_ob52 : n0 ≤ ob52 := Nat.le_trans Z5 (Nat.le_of_eq gob52.symm)
    have f_6 : Fld Z h6 ob52 "com/example/wide_schema/wideschema/io/BytesInput" "_bytes" "[B" .null := D6 (Or.inr (hw _ (List.mem_of_getElem? (i := 17) rfl))) (ty := (.array .byte)) (by decide)
    have f_7 : Fld Z h6 ob52 "com/example/wide_schema/wideschema/io/BytesInput" "_next" "I" (.int (0 : Int32)) := D6 (Or.inl (hw _ (List.mem_of_getElem? (i := 19) rfl))) (ty := .int) (by decide)
    have f_8 : Fld Z h6 ob52 "com/example/wide_schema/wideschema/io/BytesInput" "_end" "I" (.int (0 : Int32)) := D6 (Or.inr (hw _ (List.mem_of_getElem? (i := 21) rfl))) (ty := .int) (by decide)
    refine Goes.go (st6) ?_
    show Goes _ _ _ _ _ _ _ (T6.setTop (mkF m 55 _ [(.ref ob52)]))
    refine Goes.go (fun _ kk => XS.dup X6.here hx rfl (hb hby at_55) rfl rfl kk) ?_
    show Goes _ _ _ _ _ _ _ (T6.setTop (mkF m 56 _ [(.ref ob52), (.ref ob52)]))
    refine Goes.go (fun _ kk => XS.aloadN X6.here hx rfl (hb hby at_56) rfl rfl kk) ?_
    show Goes _ _ _ _ _ _ _ (T6.setTop (mkF m 57 _ [(.ref ar1), (.ref ob52), (.ref ob52)]))
    refine Goes.go (fun _ kk => XS.iload X6.here hx rfl (hb hby at_57) rfl kk) ?_
    show Goes _ _ _ _ _ _ _ (T6.setTop (mkF m 59 _ [(.int (1 : Int32)), (.ref ar1), (.ref ob52), (.ref ob52)]))
    refine Goes.go (fun _ kk => XS.iload X6.here hx rfl (hb hby at_59) rfl kk) ?_
    show Goes _ _ _ _ _ _ _ (T6.setTop (mkF m 61 _ [(.int (2 : Int32)), (.int (1 : Int32)), (.ref ar1), (.ref ob52), (.ref ob52)]))
    obtain ⟨_, _, ⟨T7, L7, k7, n7⟩, -, X7, ⟨Lc7, hQ7, l7, y7, z7⟩, st7⟩ := X6.specialBack hx (y := (⟨"com/example/wide_schema/wideschema/io/BytesInput", "<init>", "([BII)V"⟩ : MethodName)) rfl hown (mvT hZ (hw _ (List.mem_of_getElem? (i := 5) rfl))) (mvT hZ (hw _ (List.mem_of_getElem? (i := 6) rfl))) (mvT hZ (hw _ (List.mem_of_getElem? (i := 7) rfl))) (by decide) (backOf (W := 1) (rm1 l Z a0 hw [] ob52 ar1 (1 : Int32) (2 : Int32) h6 n0 Z6 A6 f_6 f_7 f_8 ge_ob52) hZ (hw _ (List.mem_of_getElem? (i := 7) rfl)) (hw _ (List.mem_of_getElem? (i := 4) rfl)) (by decide) (by decide)) (g := (mkF m 61 #[.val (.int p0), .val (.int p1), .val (.int p2), .val (.ref ar1), .val (.int (1 : Int32)), .val (.int (2 : Int32)), .unset, .unset, .unset, .unset, .unset, .unset, .unset, .unset] [(.int (2 : Int32)), (.int (1 : Int32)), (.ref ar1), (.ref ob52), (.ref ob52)])) rfl (by rw [hml]; rfl) (Steps.refl _) (a := ob52) (argsL := [(.ref ar1), (.int (1 : Int32)), (.int (2 : Int32))]) (rest := [(.ref ob52)]) (lenOf pd0 rfl) rfl (by show 2 * 0 + _ ≤ _; exact Nat.le_of_eq rfl) (hb hby at_61) (fun _ _ => ⟨rfl, e6, (by decide : 2 + 0 ≤ _), (by decide : 7 + 0 ≤ _)⟩)
    dsimp only [Pt.U, Pt.locs, Pt.cells, Pt.slots] at X7 l7 y7 z7 st7 hQ7
    subst l7 y7 z7
    obtain ⟨rfl, Nq7, Kq7, Eq7, Fq7_0, Fq7_1, Fq7_2⟩ := hQ7
    have N7 := Fr.app N5 Nq7
    have Z7 : n0 ≤ T7.heap.size := Nat.le_trans Z6 Kq7.1
    have f_9 := Arl.keep f_5 Kq7 (ninS ne_ar1_ob52 nin0)
    refine Goes.go (fun _ kk => st7.trans kk) ?_
    show Goes _ _ _ _ _ _ _ (T7.setTop (mkF m 64 _ [(.ref ob52)]))
    refine Goes.go (fun _ kk => XS.astore X7.here hx rfl (hb hby at_64) rfl rfl (l' := #[.val (.int p0), .val (.int p1), .val (.int p2), .val (.ref ar1), .val (.int (1 : Int32)), .val (.int (2 : Int32)), .val (.ref ob52), .unset, .unset, .unset, .unset, .unset, .unset, .unset]) rfl kk) ?_
    show Goes _ _ _ _ _ _ _ (T7.setTop (mkF m 66 #[.val (.int p0), .val (.int p1), .val (.int p2), .val (.ref ar1), .val (.int (1 : Int32)), .val (.int (2 : Int32)), .val (.ref ob52), .unset, .unset, .unset, .unset, .unset, .unset, .unset] []))
    refine Goes.go (fun _ kk => XS.aload X7.here hx rfl (hb hby at_66) rfl rfl kk) ?_
    show Goes _ _ _ _ _ _ _ (T7.setTop (mkF m 68 _ [(.ref ob52)]))
    obtain ⟨cq8, kq8, qa8, qb8, qc8⟩ := isOf hZ rfl Eq7
    obtain ⟨_, _, ⟨T8, L8, k8, n8⟩, -, X8, ⟨Lc8, hQ8, l8, y8, z8⟩, st8⟩ := X7.virtualBack hx (y := (⟨"com/example/wide_schema/wideschema/io/BytesInput", "available", "()I"⟩ : MethodName)) (z := (⟨"com/example/wide_schema/wideschema/io/BytesInput", "available", "()I"⟩ : MethodName)) hown (mvT hZ (hw _ (List.mem_of_getElem? (i := 22) rfl))) (mvT hZ (hw _ (List.mem_of_getElem? (i := 23) rfl))) (notFace_of_selects (args := #[]) (mvT hZ (hw _ (List.mem_of_getElem? (i := 25) rfl)))) (mvT hZ (hw _ (List.mem_of_getElem? (i := 25) rfl))) (mvT hZ (hw _ (List.mem_of_getElem? (i := 24) rfl))) (by decide) (backOf (W := 0) (rm3 l Z a0 hw [] ob52 (1 : Int32) (3 : Int32) T7.heap n0 Z7 Fq7_1 Fq7_2) hZ (hw _ (List.mem_of_getElem? (i := 26) rfl)) (hw _ (List.mem_of_getElem? (i := 4) rfl)) (by decide) (by decide)) qa8 qc8 (g := (mkF m 68 #[.val (.int p0), .val (.int p1), .val (.int p2), .val (.ref ar1), .val (.int (1 : Int32)), .val (.int (2 : Int32)), .val (.ref ob52), .unset, .unset, .unset, .unset, .unset, .unset, .unset] [(.ref ob52)])) rfl (by rw [hml]; rfl) (Steps.refl _) (argsL := []) (rest := []) (lenOf pd2 rfl) rfl (by show 2 * 0 + _ ≤ _; exact Nat.le_of_eq rfl) (hb hby at_68) (fun _ _ => ⟨rfl, rfl, (by decide : 2 + 0 ≤ _), (by decide : 7 + 0 ≤ _)⟩)
    dsimp only [Pt.U, Pt.locs, Pt.cells, Pt.slots] at X8 l8 y8 z8 st8 hQ8
    subst l8 y8 z8
    obtain ⟨rfl, Nq8, hh8⟩ := hQ8
    have N8 := Fr.app N7 Nq8
    refine Goes.go (fun _ kk => st8.trans kk) ?_
    show Goes _ _ _ _ _ _ _ (T8.setTop (mkF m 71 _ [(.int (2 : Int32))]))
    refine Goes.go (fun _ kk => XS.iload X8.here hx rfl (hb hby at_71) rfl kk) ?_
    show Goes _ _ _ _ _ _ _ (T8.setTop (mkF m 73 _ [(.int (2 : Int32)), (.int (2 : Int32))]))
    refine Goes.go (fun _ kk => XS.icmpNo X8.here hx rfl (hb hby at_73) rfl (XT.ii_ne_f (by decide)) kk) ?_
    show Goes _ _ _ _ _ _ _ (T8.setTop (mkF m 76 _ []))
    refine Goes.go (fun _ kk => XS.iconst X8.here hx rfl (hb hby at_76) kk) ?_
    show Goes _ _ _ _ _ _ _ (T8.setTop (mkF m 77 _ [(.int (1 : Int32))]))
    refine Goes.go (fun _ kk => XS.goto X8.here hx rfl (pc0 := 77) (pc' := 81) rfl (hb hby at_77) (by decide) (by decide) kk) ?_
    show Goes _ _ _ _ _ _ _ (T8.setTop (mkF m 81 _ [(.int (1 : Int32))]))
    refine Goes.go (fun _ kk => XS.istore X8.here hx rfl (hb hby at_81) rfl (l' := #[.val (.int p0), .val (.int p1), .val (.int p2), .val (.ref ar1), .val (.int (1 : Int32)), .val (.int (2 : Int32)), .val (.ref ob52), .val (.int (1 : Int32)), .unset, .unset, .unset, .unset, .unset, .unset]) rfl kk) ?_
    show Goes _ _ _ _ _ _ _ (T8.setTop (mkF m 83 #[.val (.int p0), .val (.int p1), .val (.int p2), .val (.ref ar1), .val (.int (1 : Int32)), .val (.int (2 : Int32)), .val (.ref ob52), .val (.int (1 : Int32)), .unset, .unset, .unset, .unset, .unset, .unset] []))
    refine Goes.go (fun _ kk => XS.aload X8.here hx rfl (hb hby at_83) rfl rfl kk) ?_
    show Goes _ _ _ _ _ _ _ (T8.setTop (mkF m 85 _ [(.ref ob52)]))
    obtain ⟨cq9, kq9, qa9, qb9, qc9⟩ := isOf hZ hh8 Eq7
    obtain ⟨_, _, ⟨T9, L9, k9, n9⟩, -, X9, ⟨Lc9, hQ9, l9, y9, z9⟩, st9⟩ := X8.virtualBack hx (y := (⟨"com/example/wide_schema/wideschema/io/BytesInput", "read", "()I"⟩ : MethodName)) (z := (⟨"com/example/wide_schema/wideschema/io/BytesInput", "read", "()I"⟩ : MethodName)) hown (mvT hZ (hw _ (List.mem_of_getElem? (i := 27) rfl))) (mvT hZ (hw _ (List.mem_of_getElem? (i := 28) rfl))) (notFace_of_selects (args := #[]) (mvT hZ (hw _ (List.mem_of_getElem? (i := 30) rfl)))) (mvT hZ (hw _ (List.mem_of_getElem? (i := 30) rfl))) (mvT hZ (hw _ (List.mem_of_getElem? (i := 29) rfl))) (by decide) (backOf (W := 0) (rmY l Z a0 hw [] ob52 ar1 _ (1 : Int32) (3 : Int32) (((p0).toUInt32 >>> ((8 : Int32) &&& 31).toUInt32).toInt32).toInt8.toInt32 T7.heap n0 Z7 Eq7 Fq7_0 Fq7_1 Fq7_2 ge_ob52 f_9 (by decide) (by decide) rfl) hZ (hw _ (List.mem_of_getElem? (i := 31) rfl)) (hw _ (List.mem_of_getElem? (i := 4) rfl)) (by decide) (by decide)) qa9 qc9 (g := (mkF m 85 #[.val (.int p0), .val (.int p1), .val (.int p2), .val (.ref ar1), .val (.int (1 : Int32)), .val (.int (2 : Int32)), .val (.ref ob52), .val (.int (1 : Int32)), .unset, .unset, .unset, .unset, .unset, .unset] [(.ref ob52)])) rfl (by rw [hml]; rfl) (Steps.refl _) (argsL := []) (rest := []) (lenOf pd2 rfl) rfl (by show 2 * 0 + _ ≤ _; exact Nat.le_of_eq rfl) (hb hby at_85) (fun _ _ => ⟨rfl, hh8, (by decide : 2 + 0 ≤ _), (by decide : 7 + 0 ≤ _)⟩)
    dsimp only [Pt.U, Pt.locs, Pt.cells, Pt.slots] at X9 l9 y9 z9 st9 hQ9
    subst l9 y9 z9
    obtain ⟨rfl, Nq9, Kq9, Eq9, Fq9_0, Fq9_1, Fq9_2⟩ := hQ9
    have N9 := Fr.app N8 Nq9
    have Z9 : n0 ≤ T9.heap.size := Nat.le_trans Z7 Kq9.1
    have f_10 := Arl.keep f_9 Kq9 (ninS ne_ar1_ob52 nin0)
    refine Goes.go (fun _ kk => st9.trans kk) ?_
    show Goes _ _ _ _ _ _ _ (T9.setTop (mkF m 88 _ [(.int ((((p0).toUInt32 >>> ((8 : Int32) &&& 31).toUInt32).toInt32).toInt8.toInt32 &&& (255 : Int32)))]))
    refine Goes.go (fun _ kk => XS.istore X9.here hx rfl (hb hby at_88) rfl (l' := #[.val (.int p0), .val (.int p1), .val (.int p2), .val (.ref ar1), .val (.int (1 : Int32)), .val (.int (2 : Int32)), .val (.ref ob52), .val (.int (1 : Int32)), .val (.int ((((p0).toUInt32 >>> ((8 : Int32) &&& 31).toUInt32).toInt32).toInt8.toInt32 &&& (255 : Int32))), .unset, .unset, .unset, .unset, .unset]) rfl kk) ?_
    show Goes _ _ _ _ _ _ _ (T9.setTop (mkF m 90 #[.val (.int p0), .val (.int p1), .val (.int p2), .val (.ref ar1), .val (.int (1 : Int32)), .val (.int (2 : Int32)), .val (.ref ob52), .val (.int (1 : Int32)), .val (.int ((((p0).toUInt32 >>> ((8 : Int32) &&& 31).toUInt32).toInt32).toInt8.toInt32 &&& (255 : Int32))), .unset, .unset, .unset, .unset, .unset] []))
    refine Goes.go (fun _ kk => XS.aload X9.here hx rfl (hb hby at_90) rfl rfl kk) ?_
    show Goes _ _ _ _ _ _ _ (T9.setTop (mkF m 92 _ [(.ref ob52)]))
    obtain ⟨cq10, kq10, qa10, qb10, qc10⟩ := isOf hZ rfl Eq9
    obtain ⟨_, _, ⟨T10, L10, k10, n10⟩, -, X10, ⟨Lc10, hQ10, l10, y10, z10⟩, st10⟩ := X9.virtualBack hx (y := (⟨"com/example/wide_schema/wideschema/io/BytesInput", "read", "()I"⟩ : MethodName)) (z := (⟨"com/example/wide_schema/wideschema/io/BytesInput", "read", "()I"⟩ : MethodName)) hown (mvT hZ (hw _ (List.mem_of_getElem? (i := 27) rfl))) (mvT hZ (hw _ (List.mem_of_getElem? (i := 28) rfl))) (notFace_of_selects (args := #[]) (mvT hZ (hw _ (List.mem_of_getElem? (i := 30) rfl)))) (mvT hZ (hw _ (List.mem_of_getElem? (i := 30) rfl))) (mvT hZ (hw _ (List.mem_of_getElem? (i := 29) rfl))) (by decide) (backOf (W := 0) (rmY l Z a0 hw [] ob52 ar1 _ (2 : Int32) (3 : Int32) (((p0).toUInt32 >>> ((16 : Int32) &&& 31).toUInt32).toInt32).toInt8.toInt32 T9.heap n0 Z9 Eq9 Fq9_0 Fq9_1 Fq9_2 ge_ob52 f_10 (by decide) (by decide) rfl) hZ (hw _ (List.mem_of_getElem? (i := 31) rfl)) (hw _ (List.mem_of_getElem? (i := 4) rfl)) (by decide) (by decide)) qa10 qc10 (g := (mkF m 92 #[.val (.int p0), .val (.int p1), .val (.int p2), .val (.ref ar1), .val (.int (1 : Int32)), .val (.int (2 : Int32)), .val (.ref ob52), .val (.int (1 : Int32)), .val (.int ((((p0).toUInt32 >>> ((8 : Int32) &&& 31).toUInt32).toInt32).toInt8.toInt32 &&& (255 : Int32))), .unset, .unset, .unset, .unset, .unset] [(.ref ob52)])) rfl (by rw [hml]; rfl) (Steps.refl _) (argsL := []) (rest := []) (lenOf pd2 rfl) rfl (by show 2 * 0 + _ ≤ _; exact Nat.le_of_eq rfl) (hb hby at_92) (fun _ _ => ⟨rfl, rfl, (by decide : 2 + 0 ≤ _), (by decide : 7 + 0 ≤ _)⟩)
    dsimp only [Pt.U, Pt.locs, Pt.cells, Pt.slots] at X10 l10 y10 z10 st10 hQ10
    subst l10 y10 z10
    obtain ⟨rfl, Nq10, Kq10, Eq10, Fq10_0, Fq10_1, Fq10_2⟩ := hQ10
    have N10 := Fr.app N9 Nq10
    have Z10 : n0 ≤ T10.heap.size := Nat.le_trans Z9 Kq10.1
    have f_11 := Arl.keep f_10 Kq10 (ninS ne_ar1_ob52 nin0)
    refine Goes.go (fun _ kk => st10.trans kk) ?_
    show Goes _ _ _ _ _ _ _ (T10.setTop (mkF m 95 _ [(.int ((((p0).toUInt32 >>> ((16 : Int32) &&& 31).toUInt32).toInt32).toInt8.toInt32 &&& (255 : Int32)))]))
    refine Goes.go (fun _ kk => XS.istore X10.here hx rfl (hb hby at_95) rfl (l' := #[.val (.int p0), .val (.int p1), .val (.int p2), .val (.ref ar1), .val (.int (1 : Int32)), .val (.int (2 : Int32)), .val (.ref ob52), .val (.int (1 : Int32)), .val (.int ((((p0).toUInt32 >>> ((8 : Int32) &&& 31).toUInt32).toInt32).toInt8.toInt32 &&& (255 : Int32))), .val (.int ((((p0).toUInt32 >>> ((16 : Int32) &&& 31).toUInt32).toInt32).toInt8.toInt32 &&& (255 : Int32))), .unset, .unset, .unset, .unset]) rfl kk) ?_
    show Goes _ _ _ _ _ _ _ (T10.setTop (mkF m 97 #[.val (.int p0), .val (.int p1), .val (.int p2), .val (.ref ar1), .val (.int (1 : Int32)), .val (.int (2 : Int32)), .val (.ref ob52), .val (.int (1 : Int32)), .val (.int ((((p0).toUInt32 >>> ((8 : Int32) &&& 31).toUInt32).toInt32).toInt8.toInt32 &&& (255 : Int32))), .val (.int ((((p0).toUInt32 >>> ((16 : Int32) &&& 31).toUInt32).toInt32).toInt8.toInt32 &&& (255 : Int32))), .unset, .unset, .unset, .unset] []))
    refine Goes.go (fun _ kk => XS.aload X10.here hx rfl (hb hby at_97) rfl rfl kk) ?_
    show Goes _ _ _ _ _ _ _ (T10.setTop (mkF m 99 _ [(.ref ob52)]))
    obtain ⟨cq11, kq11, qa11, qb11, qc11⟩ := isOf hZ rfl Eq10
    obtain ⟨_, _, ⟨T11, L11, k11, n11⟩, -, X11, ⟨Lc11, hQ11, l11, y11, z11⟩, st11⟩ := X10.virtualBack hx (y := (⟨"com/example/wide_schema/wideschema/io/BytesInput", "read", "()I"⟩ : MethodName)) (z := (⟨"com/example/wide_schema/wideschema/io/BytesInput", "read", "()I"⟩ : MethodName)) hown (mvT hZ (hw _ (List.mem_of_getElem? (i := 27) rfl))) (mvT hZ (hw _ (List.mem_of_getElem? (i := 28) rfl))) (notFace_of_selects (args := #[]) (mvT hZ (hw _ (List.mem_of_getElem? (i := 30) rfl)))) (mvT hZ (hw _ (List.mem_of_getElem? (i := 30) rfl))) (mvT hZ (hw _ (List.mem_of_getElem? (i := 29) rfl))) (by decide) (backOf (W := 0) (rmN l Z a0 hw [] ob52 (3 : Int32) (3 : Int32) T10.heap n0 Z10 Fq10_1 Fq10_2 (by decide)) hZ (hw _ (List.mem_of_getElem? (i := 31) rfl)) (hw _ (List.mem_of_getElem? (i := 4) rfl)) (by decide) (by decide)) qa11 qc11 (g := (mkF m 99 #[.val (.int p0), .val (.int p1), .val (.int p2), .val (.ref ar1), .val (.int (1 : Int32)), .val (.int (2 : Int32)), .val (.ref ob52), .val (.int (1 : Int32)), .val (.int ((((p0).toUInt32 >>> ((8 : Int32) &&& 31).toUInt32).toInt32).toInt8.toInt32 &&& (255 : Int32))), .val (.int ((((p0).toUInt32 >>> ((16 : Int32) &&& 31).toUInt32).toInt32).toInt8.toInt32 &&& (255 : Int32))), .unset, .unset, .unset, .unset] [(.ref ob52)])) rfl (by rw [hml]; rfl) (Steps.refl _) (argsL := []) (rest := []) (lenOf pd2 rfl) rfl (by show 2 * 0 + _ ≤ _; exact Nat.le_of_eq rfl) (hb hby at_99) (fun _ _ => ⟨rfl, rfl, (by decide : 2 + 0 ≤ _), (by decide : 7 + 0 ≤ _)⟩)
    dsimp only [Pt.U, Pt.locs, Pt.cells, Pt.slots] at X11 l11 y11 z11 st11 hQ11
    subst l11 y11 z11
    obtain ⟨rfl, Nq11, hh11⟩ := hQ11
    have N11 := Fr.app N10 Nq11
    refine Goes.go (fun _ kk => st11.trans kk) ?_
    show Goes _ _ _ _ _ _ _ (T11.setTop (mkF m 102 _ [(.int (-1 : Int32))]))
    refine Goes.go (fun _ kk => XS.istore X11.here hx rfl (hb hby at_102) rfl (l' := #[.val (.int p0), .val (.int p1), .val (.int p2), .val (.ref ar1), .val (.int (1 : Int32)), .val (.int (2 : Int32)), .val (.ref ob52), .val (.int (1 : Int32)), .val (.int ((((p0).toUInt32 >>> ((8 : Int32) &&& 31).toUInt32).toInt32).toInt8.toInt32 &&& (255 : Int32))), .val (.int ((((p0).toUInt32 >>> ((16 : Int32) &&& 31).toUInt32).toInt32).toInt8.toInt32 &&& (255 : Int32))), .val (.int (-1 : Int32)), .unset, .unset, .unset]) rfl kk) ?_
    show Goes _ _ _ _ _ _ _ (T11.setTop (mkF m 104 #[.val (.int p0), .val (.int p1), .val (.int p2), .val (.ref ar1), .val (.int (1 : Int32)), .val (.int (2 : Int32)), .val (.ref ob52), .val (.int (1 : Int32)), .val (.int ((((p0).toUInt32 >>> ((8 : Int32) &&& 31).toUInt32).toInt32).toInt8.toInt32 &&& (255 : Int32))), .val (.int ((((p0).toUInt32 >>> ((16 : Int32) &&& 31).toUInt32).toInt32).toInt8.toInt32 &&& (255 : Int32))), .val (.int (-1 : Int32)), .unset, .unset, .unset] []))
    refine Goes.go (fun _ kk => XS.aload X11.here hx rfl (hb hby at_104) rfl rfl kk) ?_
    show Goes _ _ _ _ _ _ _ (T11.setTop (mkF m 106 _ [(.ref ob52)]))
    obtain ⟨cq12, kq12, qa12, qb12, qc12⟩ := isOf hZ hh11 Eq10
    obtain ⟨_, _, ⟨T12, L12, k12, n12⟩, -, X12, ⟨Lc12, hQ12, l12, y12, z12⟩, st12⟩ := X11.virtualBack hx (y := (⟨"com/example/wide_schema/wideschema/io/BytesInput", "read", "()I"⟩ : MethodName)) (z := (⟨"com/example/wide_schema/wideschema/io/BytesInput", "read", "()I"⟩ : MethodName)) hown (mvT hZ (hw _ (List.mem_of_getElem? (i := 27) rfl))) (mvT hZ (hw _ (List.mem_of_getElem? (i := 28) rfl))) (notFace_of_selects (args := #[]) (mvT hZ (hw _ (List.mem_of_getElem? (i := 30) rfl)))) (mvT hZ (hw _ (List.mem_of_getElem? (i := 30) rfl))) (mvT hZ (hw _ (List.mem_of_getElem? (i := 29) rfl))) (by decide) (backOf (W := 0) (rmN l Z a0 hw [] ob52 (3 : Int32) (3 : Int32) T10.heap n0 Z10 Fq10_1 Fq10_2 (by decide)) hZ (hw _ (List.mem_of_getElem? (i := 31) rfl)) (hw _ (List.mem_of_getElem? (i := 4) rfl)) (by decide) (by decide)) qa12 qc12 (g := (mkF m 106 #[.val (.int p0), .val (.int p1), .val (.int p2), .val (.ref ar1), .val (.int (1 : Int32)), .val (.int (2 : Int32)), .val (.ref ob52), .val (.int (1 : Int32)), .val (.int ((((p0).toUInt32 >>> ((8 : Int32) &&& 31).toUInt32).toInt32).toInt8.toInt32 &&& (255 : Int32))), .val (.int ((((p0).toUInt32 >>> ((16 : Int32) &&& 31).toUInt32).toInt32).toInt8.toInt32 &&& (255 : Int32))), .val (.int (-1 : Int32)), .unset, .unset, .unset] [(.ref ob52)])) rfl (by rw [hml]; rfl) (Steps.refl _) (argsL := []) (rest := []) (lenOf pd2 rfl) rfl (by show 2 * 0 + _ ≤ _; exact Nat.le_of_eq rfl) (hb hby at_106) (fun _ _ => ⟨rfl, hh11, (by decide : 2 + 0 ≤ _), (by decide : 7 + 0 ≤ _)⟩)
    dsimp only [Pt.U, Pt.locs, Pt.cells, Pt.slots] at X12 l12 y12 z12 st12 hQ12
    subst l12 y12 z12
    obtain ⟨rfl, Nq12, hh12⟩ := hQ12
    have N12 := Fr.app N11 Nq12
    refine Goes.go (fun _ kk => st12.trans kk) ?_
    show Goes _ _ _ _ _ _ _ (T12.setTop (mkF m 109 _ [(.int (-1 : Int32))]))
    refine Goes.go (fun _ kk => XS.istore X12.here hx rfl (hb hby at_109) rfl (l' := #[.val (.int p0), .val (.int p1), .val (.int p2), .val (.ref ar1), .val (.int (1 : Int32)), .val (.int (2 : Int32)), .val (.ref ob52), .val (.int (1 : Int32)), .val (.int ((((p0).toUInt32 >>> ((8 : Int32) &&& 31).toUInt32).toInt32).toInt8.toInt32 &&& (255 : Int32))), .val (.int ((((p0).toUInt32 >>> ((16 : Int32) &&& 31).toUInt32).toInt32).toInt8.toInt32 &&& (255 : Int32))), .val (.int (-1 : Int32)), .val (.int (-1 : Int32)), .unset, .unset]) rfl kk) ?_
    show Goes _ _ _ _ _ _ _ (T12.setTop (mkF m 111 #[.val (.int p0), .val (.int p1), .val (.int p2), .val (.ref ar1), .val (.int (1 : Int32)), .val (.int (2 : Int32)), .val (.ref ob52), .val (.int (1 : Int32)), .val (.int ((((p0).toUInt32 >>> ((8 : Int32) &&& 31).toUInt32).toInt32).toInt8.toInt32 &&& (255 : Int32))), .val (.int ((((p0).toUInt32 >>> ((16 : Int32) &&& 31).toUInt32).toInt32).toInt8.toInt32 &&& (255 : Int32))), .val (.int (-1 : Int32)), .val (.int (-1 : Int32)), .unset, .unset] []))
    refine Goes.go (fun _ kk => XS.aload X12.here hx rfl (hb hby at_111) rfl rfl kk) ?_
    show Goes _ _ _ _ _ _ _ (T12.setTop (mkF m 113 _ [(.ref ob52)]))
    obtain ⟨cq13, kq13, qa13, qb13, qc13⟩ := isOf hZ hh12 Eq10
    obtain ⟨_, _, ⟨T13, L13, k13, n13⟩, -, X13, ⟨Lc13, hQ13, l13, y13, z13⟩, st13⟩ := X12.virtualBack hx (y := (⟨"com/example/wide_schema/wideschema/io/BytesInput", "read", "()I"⟩ : MethodName)) (z := (⟨"com/example/wide_schema/wideschema/io/BytesInput", "read", "()I"⟩ : MethodName)) hown (mvT hZ (hw _ (List.mem_of_getElem? (i := 27) rfl))) (mvT hZ (hw _ (List.mem_of_getElem? (i := 28) rfl))) (notFace_of_selects (args := #[]) (mvT hZ (hw _ (List.mem_of_getElem? (i := 30) rfl)))) (mvT hZ (hw _ (List.mem_of_getElem? (i := 30) rfl))) (mvT hZ (hw _ (List.mem_of_getElem? (i := 29) rfl))) (by decide) (backOf (W := 0) (rmN l Z a0 hw [] ob52 (3 : Int32) (3 : Int32) T10.heap n0 Z10 Fq10_1 Fq10_2 (by decide)) hZ (hw _ (List.mem_of_getElem? (i := 31) rfl)) (hw _ (List.mem_of_getElem? (i := 4) rfl)) (by decide) (by decide)) qa13 qc13 (g := (mkF m 113 #[.val (.int p0), .val (.int p1), .val (.int p2), .val (.ref ar1), .val (.int (1 : Int32)), .val (.int (2 : Int32)), .val (.ref ob52), .val (.int (1 : Int32)), .val (.int ((((p0).toUInt32 >>> ((8 : Int32) &&& 31).toUInt32).toInt32).toInt8.toInt32 &&& (255 : Int32))), .val (.int ((((p0).toUInt32 >>> ((16 : Int32) &&& 31).toUInt32).toInt32).toInt8.toInt32 &&& (255 : Int32))), .val (.int (-1 : Int32)), .val (.int (-1 : Int32)), .unset, .unset] [(.ref ob52)])) rfl (by rw [hml]; rfl) (Steps.refl _) (argsL := []) (rest := []) (lenOf pd2 rfl) rfl (by show 2 * 0 + _ ≤ _; exact Nat.le_of_eq rfl) (hb hby at_113) (fun _ _ => ⟨rfl, hh12, (by decide : 2 + 0 ≤ _), (by decide : 7 + 0 ≤ _)⟩)
    dsimp only [Pt.U, Pt.locs, Pt.cells, Pt.slots] at X13 l13 y13 z13 st13 hQ13
    subst l13 y13 z13
    obtain ⟨rfl, Nq13, hh13⟩ := hQ13
    have N13 := Fr.app N12 Nq13
    refine Goes.go (fun _ kk => st13.trans kk) ?_
    show Goes _ _ _ _ _ _ _ (T13.setTop (mkF m 116 _ [(.int (-1 : Int32))]))
    refine Goes.go (fun _ kk => XS.istore X13.here hx rfl (hb hby at_116) rfl (l' := #[.val (.int p0), .val (.int p1), .val (.int p2), .val (.ref ar1), .val (.int (1 : Int32)), .val (.int (2 : Int32)), .val (.ref ob52), .val (.int (1 : Int32)), .val (.int ((((p0).toUInt32 >>> ((8 : Int32) &&& 31).toUInt32).toInt32).toInt8.toInt32 &&& (255 : Int32))), .val (.int ((((p0).toUInt32 >>> ((16 : Int32) &&& 31).toUInt32).toInt32).toInt8.toInt32 &&& (255 : Int32))), .val (.int (-1 : Int32)), .val (.int (-1 : Int32)), .val (.int (-1 : Int32)), .unset]) rfl kk) ?_
    show Goes _ _ _ _ _ _ _ (T13.setTop (mkF m 118 #[.val (.int p0), .val (.int p1), .val (.int p2), .val (.ref ar1), .val (.int (1 : Int32)), .val (.int (2 : Int32)), .val (.ref ob52), .val (.int (1 : Int32)), .val (.int ((((p0).toUInt32 >>> ((8 : Int32) &&& 31).toUInt32).toInt32).toInt8.toInt32 &&& (255 : Int32))), .val (.int ((((p0).toUInt32 >>> ((16 : Int32) &&& 31).toUInt32).toInt32).toInt8.toInt32 &&& (255 : Int32))), .val (.int (-1 : Int32)), .val (.int (-1 : Int32)), .val (.int (-1 : Int32)), .unset] []))
    refine Goes.go (fun _ kk => XS.aload X13.here hx rfl (hb hby at_118) rfl rfl kk) ?_
    show Goes _ _ _ _ _ _ _ (T13.setTop (mkF m 120 _ [(.ref ob52)]))
    obtain ⟨cq14, kq14, qa14, qb14, qc14⟩ := isOf hZ hh13 Eq10
    obtain ⟨_, _, ⟨T14, L14, k14, n14⟩, -, X14, ⟨Lc14, hQ14, l14, y14, z14⟩, st14⟩ := X13.virtualBack hx (y := (⟨"com/example/wide_schema/wideschema/io/BytesInput", "read", "()I"⟩ : MethodName)) (z := (⟨"com/example/wide_schema/wideschema/io/BytesInput", "read", "()I"⟩ : MethodName)) hown (mvT hZ (hw _ (List.mem_of_getElem? (i := 27) rfl))) (mvT hZ (hw _ (List.mem_of_getElem? (i := 28) rfl))) (notFace_of_selects (args := #[]) (mvT hZ (hw _ (List.mem_of_getElem? (i := 30) rfl)))) (mvT hZ (hw _ (List.mem_of_getElem? (i := 30) rfl))) (mvT hZ (hw _ (List.mem_of_getElem? (i := 29) rfl))) (by decide) (backOf (W := 0) (rmN l Z a0 hw [] ob52 (3 : Int32) (3 : Int32) T10.heap n0 Z10 Fq10_1 Fq10_2 (by decide)) hZ (hw _ (List.mem_of_getElem? (i := 31) rfl)) (hw _ (List.mem_of_getElem? (i := 4) rfl)) (by decide) (by decide)) qa14 qc14 (g := (mkF m 120 #[.val (.int p0), .val (.int p1), .val (.int p2), .val (.ref ar1), .val (.int (1 : Int32)), .val (.int (2 : Int32)), .val (.ref ob52), .val (.int (1 : Int32)), .val (.int ((((p0).toUInt32 >>> ((8 : Int32) &&& 31).toUInt32).toInt32).toInt8.toInt32 &&& (255 : Int32))), .val (.int ((((p0).toUInt32 >>> ((16 : Int32) &&& 31).toUInt32).toInt32).toInt8.toInt32 &&& (255 : Int32))), .val (.int (-1 : Int32)), .val (.int (-1 : Int32)), .val (.int (-1 : Int32)), .unset] [(.ref ob52)])) rfl (by rw [hml]; rfl) (Steps.refl _) (argsL := []) (rest := []) (lenOf pd2 rfl) rfl (by show 2 * 0 + _ ≤ _; exact Nat.le_of_eq rfl) (hb hby at_120) (fun _ _ => ⟨rfl, hh13, (by decide : 2 + 0 ≤ _), (by decide : 7 + 0 ≤ _)⟩)
    dsimp only [Pt.U, Pt.locs, Pt.cells, Pt.slots] at X14 l14 y14 z14 st14 hQ14
    subst l14 y14 z14
    obtain ⟨rfl, Nq14, hh14⟩ := hQ14
    have N14 := Fr.app N13 Nq14
    refine Goes.go (fun _ kk => st14.trans kk) ?_
    show Goes _ _ _ _ _ _ _ (T14.setTop (mkF m 123 _ [(.int (-1 : Int32))]))
    refine Goes.go (fun _ kk => XS.istore X14.here hx rfl (hb hby at_123) rfl (l' := #[.val (.int p0), .val (.int p1), .val (.int p2), .val (.ref ar1), .val (.int (1 : Int32)), .val (.int (2 : Int32)), .val (.ref ob52), .val (.int (1 : Int32)), .val (.int ((((p0).toUInt32 >>> ((8 : Int32) &&& 31).toUInt32).toInt32).toInt8.toInt32 &&& (255 : Int32))), .val (.int ((((p0).toUInt32 >>> ((16 : Int32) &&& 31).toUInt32).toInt32).toInt8.toInt32 &&& (255 : Int32))), .val (.int (-1 : Int32)), .val (.int (-1 : Int32)), .val (.int (-1 : Int32)), .val (.int (-1 : Int32))]) rfl kk) ?_
    show Goes _ _ _ _ _ _ _ (T14.setTop (mkF m 125 #[.val (.int p0), .val (.int p1), .val (.int p2), .val (.ref ar1), .val (.int (1 : Int32)), .val (.int (2 : Int32)), .val (.ref ob52), .val (.int (1 : Int32)), .val (.int ((((p0).toUInt32 >>> ((8 : Int32) &&& 31).toUInt32).toInt32).toInt8.toInt32 &&& (255 : Int32))), .val (.int ((((p0).toUInt32 >>> ((16 : Int32) &&& 31).toUInt32).toInt32).toInt8.toInt32 &&& (255 : Int32))), .val (.int (-1 : Int32)), .val (.int (-1 : Int32)), .val (.int (-1 : Int32)), .val (.int (-1 : Int32))] []))
    refine Goes.go (fun _ kk => XS.iload X14.here hx rfl (hb hby at_125) rfl kk) ?_
    show Goes _ _ _ _ _ _ _ (T14.setTop (mkF m 127 _ [(.int (1 : Int32))]))
    refine Goes.go (fun _ kk => XS.ifNo X14.here hx rfl (hb hby at_127) rfl (XT.i0_eq_f (by decide)) kk) ?_
    show Goes _ _ _ _ _ _ _ (T14.setTop (mkF m 130 _ []))
    refine Goes.go (fun _ kk => XS.iload X14.here hx rfl (hb hby at_130) rfl kk) ?_
    show Goes _ _ _ _ _ _ _ (T14.setTop (mkF m 132 _ [(.int ((((p0).toUInt32 >>> ((8 : Int32) &&& 31).toUInt32).toInt32).toInt8.toInt32 &&& (255 : Int32)))]))
    refine Goes.go (fun _ kk => XS.iloadN X14.here hx rfl (hb hby at_132) rfl kk) ?_
    show Goes _ _ _ _ _ _ _ (T14.setTop (mkF m 133 _ [(.int p0), (.int ((((p0).toUInt32 >>> ((8 : Int32) &&& 31).toUInt32).toInt32).toInt8.toInt32 &&& (255 : Int32)))]))
    refine Goes.go (fun _ kk => XS.iload X14.here hx rfl (hb hby at_133) rfl kk) ?_
    show Goes _ _ _ _ _ _ _ (T14.setTop (mkF m 135 _ [(.int (1 : Int32)), (.int p0), (.int ((((p0).toUInt32 >>> ((8 : Int32) &&& 31).toUInt32).toInt32).toInt8.toInt32 &&& (255 : Int32)))]))
    refine Goes.go (fun _ kk => XS.iload X14.here hx rfl (hb hby at_135) rfl kk) ?_
    show Goes _ _ _ _ _ _ _ (T14.setTop (mkF m 137 _ [(.int (2 : Int32)), (.int (1 : Int32)), (.int p0), (.int ((((p0).toUInt32 >>> ((8 : Int32) &&& 31).toUInt32).toInt32).toInt8.toInt32 &&& (255 : Int32)))]))
    refine Goes.go (fun _ kk => XS.iconst X14.here hx rfl (hb hby at_137) kk) ?_
    show Goes _ _ _ _ _ _ _ (T14.setTop (mkF m 138 _ [(.int (0 : Int32)), (.int (2 : Int32)), (.int (1 : Int32)), (.int p0), (.int ((((p0).toUInt32 >>> ((8 : Int32) &&& 31).toUInt32).toInt32).toInt8.toInt32 &&& (255 : Int32)))]))
    obtain ⟨_, _, ⟨T15, L15, k15, n15⟩, -, X15, ⟨Lc15, hQ15, l15, y15, z15⟩, st15⟩ := Jvm.LawKit.callS X14 hx (y := (⟨"com/example/wide_schema/wideschema/io/BytesInputReadPinLaw", "exp", "(IIII)I"⟩ : MethodName)) hown (mvT hZ (hw _ (List.mem_of_getElem? (i := 32) rfl))) (mvT hZ (hw _ (List.mem_of_getElem? (i := 33) rfl))) (mvT hZ (hw _ (List.mem_of_getElem? (i := 34) rfl))) (mvT hZ (hw _ (List.mem_of_getElem? (i := 35) rfl))) (by decide) (backOf (W := 1) (rm5 l Z a0 hw [] p0 (1 : Int32) (2 : Int32) (0 : Int32) T10.heap n0 Z10) hZ (hw _ (List.mem_of_getElem? (i := 35) rfl)) (hw _ (List.mem_of_getElem? (i := 34) rfl)) (by decide) (by decide)) (g := (mkF m 138 #[.val (.int p0), .val (.int p1), .val (.int p2), .val (.ref ar1), .val (.int (1 : Int32)), .val (.int (2 : Int32)), .val (.ref ob52), .val (.int (1 : Int32)), .val (.int ((((p0).toUInt32 >>> ((8 : Int32) &&& 31).toUInt32).toInt32).toInt8.toInt32 &&& (255 : Int32))), .val (.int ((((p0).toUInt32 >>> ((16 : Int32) &&& 31).toUInt32).toInt32).toInt8.toInt32 &&& (255 : Int32))), .val (.int (-1 : Int32)), .val (.int (-1 : Int32)), .val (.int (-1 : Int32)), .val (.int (-1 : Int32))] [(.int (0 : Int32)), (.int (2 : Int32)), (.int (1 : Int32)), (.int p0), (.int ((((p0).toUInt32 >>> ((8 : Int32) &&& 31).toUInt32).toInt32).toInt8.toInt32 &&& (255 : Int32)))])) rfl (by rw [hml]; rfl) (argsL := [(.int p0), (.int (1 : Int32)), (.int (2 : Int32)), (.int (0 : Int32))]) (rest := [(.int ((((p0).toUInt32 >>> ((8 : Int32) &&& 31).toUInt32).toInt32).toInt8.toInt32 &&& (255 : Int32)))]) (lenOf pd3 rfl) rfl (by show 2 * 0 + _ ≤ _; exact Nat.le_of_eq rfl) (hb hby at_138) (fun _ _ => ⟨rfl, hh14, (by decide : 2 + 0 ≤ _), (by decide : 7 + 0 ≤ _)⟩)
    dsimp only [Pt.U, Pt.locs, Pt.cells, Pt.slots] at X15 l15 y15 z15 st15 hQ15
    subst l15 y15 z15
    obtain ⟨rfl, Nq15, hh15⟩ := hQ15
    have N15 := Fr.app N14 Nq15
    refine Goes.go (st15) ?_
    show Goes _ _ _ _ _ _ _ (T15.setTop (mkF m 141 _ [(.int (exF p0 (1 : Int32) (2 : Int32) (0 : Int32))), (.int ((((p0).toUInt32 >>> ((8 : Int32) &&& 31).toUInt32).toInt32).toInt8.toInt32 &&& (255 : Int32)))]))
    refine Goes.go (fun _ kk => XS.icmpNo X15.here hx rfl (hb hby at_141) rfl (XT.ii_ne_f (own_n (8 : Int32) (by decide) (by decide))) kk) ?_
    show Goes _ _ _ _ _ _ _ (T15.setTop (mkF m 144 _ []))
    refine Goes.go (fun _ kk => XS.iconst X15.here hx rfl (hb hby at_144) kk) ?_
    show Goes _ _ _ _ _ _ _ (T15.setTop (mkF m 145 _ [(.int (1 : Int32))]))
    refine Goes.go (fun _ kk => XS.goto X15.here hx rfl (pc0 := 145) (pc' := 149) rfl (hb hby at_145) (by decide) (by decide) kk) ?_
    show Goes _ _ _ _ _ _ _ (T15.setTop (mkF m 149 _ [(.int (1 : Int32))]))
    refine Goes.go (fun _ kk => XS.istore X15.here hx rfl (hb hby at_149) rfl (l' := #[.val (.int p0), .val (.int p1), .val (.int p2), .val (.ref ar1), .val (.int (1 : Int32)), .val (.int (2 : Int32)), .val (.ref ob52), .val (.int (1 : Int32)), .val (.int ((((p0).toUInt32 >>> ((8 : Int32) &&& 31).toUInt32).toInt32).toInt8.toInt32 &&& (255 : Int32))), .val (.int ((((p0).toUInt32 >>> ((16 : Int32) &&& 31).toUInt32).toInt32).toInt8.toInt32 &&& (255 : Int32))), .val (.int (-1 : Int32)), .val (.int (-1 : Int32)), .val (.int (-1 : Int32)), .val (.int (-1 : Int32))]) rfl kk) ?_
    show Goes _ _ _ _ _ _ _ (T15.setTop (mkF m 151 _ []))
    refine Goes.go (fun _ kk => XS.iload X15.here hx rfl (hb hby at_151) rfl kk) ?_
    show Goes _ _ _ _ _ _ _ (T15.setTop (mkF m 153 _ [(.int (1 : Int32))]))
    refine Goes.go (fun _ kk => XS.ifNo X15.here hx rfl (hb hby at_153) rfl (XT.i0_eq_f (by decide)) kk) ?_
    show Goes _ _ _ _ _ _ _ (T15.setTop (mkF m 156 _ []))
    refine Goes.go (fun _ kk => XS.iload X15.here hx rfl (hb hby at_156) rfl kk) ?_
    show Goes _ _ _ _ _ _ _ (T15.setTop (mkF m 158 _ [(.int ((((p0).toUInt32 >>> ((16 : Int32) &&& 31).toUInt32).toInt32).toInt8.toInt32 &&& (255 : Int32)))]))
    refine Goes.go (fun _ kk => XS.iloadN X15.here hx rfl (hb hby at_158) rfl kk) ?_
    show Goes _ _ _ _ _ _ _ (T15.setTop (mkF m 159 _ [(.int p0), (.int ((((p0).toUInt32 >>> ((16 : Int32) &&& 31).toUInt32).toInt32).toInt8.toInt32 &&& (255 : Int32)))]))
    refine Goes.go (fun _ kk => XS.iload X15.here hx rfl (hb hby at_159) rfl kk) ?_
    show Goes _ _ _ _ _ _ _ (T15.setTop (mkF m 161 _ [(.int (1 : Int32)), (.int p0), (.int ((((p0).toUInt32 >>> ((16 : Int32) &&& 31).toUInt32).toInt32).toInt8.toInt32 &&& (255 : Int32)))]))
    refine Goes.go (fun _ kk => XS.iload X15.here hx rfl (hb hby at_161) rfl kk) ?_
    show Goes _ _ _ _ _ _ _ (T15.setTop (mkF m 163 _ [(.int (2 : Int32)), (.int (1 : Int32)), (.int p0), (.int ((((p0).toUInt32 >>> ((16 : Int32) &&& 31).toUInt32).toInt32).toInt8.toInt32 &&& (255 : Int32)))]))
    refine Goes.go (fun _ kk => XS.iconst X15.here hx rfl (hb hby at_163) kk) ?_
    show Goes _ _ _ _ _ _ _ (T15.setTop (mkF m 164 _ [(.int (1 : Int32)), (.int (2 : Int32)), (.int (1 : Int32)), (.int p0), (.int ((((p0).toUInt32 >>> ((16 : Int32) &&& 31).toUInt32).toInt32).toInt8.toInt32 &&& (255 : Int32)))]))
    obtain ⟨_, _, ⟨T16, L16, k16, n16⟩, -, X16, ⟨Lc16, hQ16, l16, y16, z16⟩, st16⟩ := Jvm.LawKit.callS X15 hx (y := (⟨"com/example/wide_schema/wideschema/io/BytesInputReadPinLaw", "exp", "(IIII)I"⟩ : MethodName)) hown (mvT hZ (hw _ (List.mem_of_getElem? (i := 32) rfl))) (mvT hZ (hw _ (List.mem_of_getElem? (i := 33) rfl))) (mvT hZ (hw _ (List.mem_of_getElem? (i := 34) rfl))) (mvT hZ (hw _ (List.mem_of_getElem? (i := 35) rfl))) (by decide) (backOf (W := 1) (rm5 l Z a0 hw [] p0 (1 : Int32) (2 : Int32) (1 : Int32) T10.heap n0 Z10) hZ (hw _ (List.mem_of_getElem? (i := 35) rfl)) (hw _ (List.mem_of_getElem? (i := 34) rfl)) (by decide) (by decide)) (g := (mkF m 164 #[.val (.int p0), .val (.int p1), .val (.int p2), .val (.ref ar1), .val (.int (1 : Int32)), .val (.int (2 : Int32)), .val (.ref ob52), .val (.int (1 : Int32)), .val (.int ((((p0).toUInt32 >>> ((8 : Int32) &&& 31).toUInt32).toInt32).toInt8.toInt32 &&& (255 : Int32))), .val (.int ((((p0).toUInt32 >>> ((16 : Int32) &&& 31).toUInt32).toInt32).toInt8.toInt32 &&& (255 : Int32))), .val (.int (-1 : Int32)), .val (.int (-1 : Int32)), .val (.int (-1 : Int32)), .val (.int (-1 : Int32))] [(.int (1 : Int32)), (.int (2 : Int32)), (.int (1 : Int32)), (.int p0), (.int ((((p0).toUInt32 >>> ((16 : Int32) &&& 31).toUInt32).toInt32).toInt8.toInt32 &&& (255 : Int32)))])) rfl (by rw [hml]; rfl) (argsL := [(.int p0), (.int (1 : Int32)), (.int (2 : Int32)), (.int (1 : Int32))]) (rest := [(.int ((((p0).toUInt32 >>> ((16 : Int32) &&& 31).toUInt32).toInt32).toInt8.toInt32 &&& (255 : Int32)))]) (lenOf pd3 rfl) rfl (by show 2 * 0 + _ ≤ _; exact Nat.le_of_eq rfl) (hb hby at_164) (fun _ _ => ⟨rfl, hh15, (by decide : 2 + 0 ≤ _), (by decide : 7 + 0 ≤ _)⟩)
    dsimp only [Pt.U, Pt.locs, Pt.cells, Pt.slots] at X16 l16 y16 z16 st16 hQ16
    subst l16 y16 z16
    obtain ⟨rfl, Nq16, hh16⟩ := hQ16
    have N16 := Fr.app N15 Nq16
    refine Goes.go (st16) ?_
    show Goes _ _ _ _ _ _ _ (T16.setTop (mkF m 167 _ [(.int (exF p0 (1 : Int32) (2 : Int32) (1 : Int32))), (.int ((((p0).toUInt32 >>> ((16 : Int32) &&& 31).toUInt32).toInt32).toInt8.toInt32 &&& (255 : Int32)))]))
    refine Goes.go (fun _ kk => XS.icmpNo X16.here hx rfl (hb hby at_167) rfl (XT.ii_ne_f (own_n (16 : Int32) (by decide) (by decide))) kk) ?_
    show Goes _ _ _ _ _ _ _ (T16.setTop (mkF m 170 _ []))
    refine Goes.go (fun _ kk => XS.iconst X16.here hx rfl (hb hby at_170) kk) ?_
    show Goes _ _ _ _ _ _ _ (T16.setTop (mkF m 171 _ [(.int (1 : Int32))]))
    refine Goes.go (fun _ kk => XS.goto X16.here hx rfl (pc0 := 171) (pc' := 175) rfl (hb hby at_171) (by decide) (by decide) kk) ?_
    show Goes _ _ _ _ _ _ _ (T16.setTop (mkF m 175 _ [(.int (1 : Int32))]))
    refine Goes.go (fun _ kk => XS.istore X16.here hx rfl (hb hby at_175) rfl (l' := #[.val (.int p0), .val (.int p1), .val (.int p2), .val (.ref ar1), .val (.int (1 : Int32)), .val (.int (2 : Int32)), .val (.ref ob52), .val (.int (1 : Int32)), .val (.int ((((p0).toUInt32 >>> ((8 : Int32) &&& 31).toUInt32).toInt32).toInt8.toInt32 &&& (255 : Int32))), .val (.int ((((p0).toUInt32 >>> ((16 : Int32) &&& 31).toUInt32).toInt32).toInt8.toInt32 &&& (255 : Int32))), .val (.int (-1 : Int32)), .val (.int (-1 : Int32)), .val (.int (-1 : Int32)), .val (.int (-1 : Int32))]) rfl kk) ?_
    show Goes _ _ _ _ _ _ _ (T16.setTop (mkF m 177 _ []))
    refine Goes.go (fun _ kk => XS.iload X16.here hx rfl (hb hby at_177) rfl kk) ?_
    show Goes _ _ _ _ _ _ _ (T16.setTop (mkF m 179 _ [(.int (1 : Int32))]))
    refine Goes.go (fun _ kk => XS.ifNo X16.here hx rfl (hb hby at_179) rfl (XT.i0_eq_f (by decide)) kk) ?_
    show Goes _ _ _ _ _ _ _ (T16.setTop (mkF m 182 _ []))
    refine Goes.go (fun _ kk => XS.iload X16.here hx rfl (hb hby at_182) rfl kk) ?_
    show Goes _ _ _ _ _ _ _ (T16.setTop (mkF m 184 _ [(.int (-1 : Int32))]))
    refine Goes.go (fun _ kk => XS.iloadN X16.here hx rfl (hb hby at_184) rfl kk) ?_
    show Goes _ _ _ _ _ _ _ (T16.setTop (mkF m 185 _ [(.int p0), (.int (-1 : Int32))]))
    refine Goes.go (fun _ kk => XS.iload X16.here hx rfl (hb hby at_185) rfl kk) ?_
    show Goes _ _ _ _ _ _ _ (T16.setTop (mkF m 187 _ [(.int (1 : Int32)), (.int p0), (.int (-1 : Int32))]))
    refine Goes.go (fun _ kk => XS.iload X16.here hx rfl (hb hby at_187) rfl kk) ?_
    show Goes _ _ _ _ _ _ _ (T16.setTop (mkF m 189 _ [(.int (2 : Int32)), (.int (1 : Int32)), (.int p0), (.int (-1 : Int32))]))
    refine Goes.go (fun _ kk => XS.iconst X16.here hx rfl (hb hby at_189) kk) ?_
    show Goes _ _ _ _ _ _ _ (T16.setTop (mkF m 190 _ [(.int (2 : Int32)), (.int (2 : Int32)), (.int (1 : Int32)), (.int p0), (.int (-1 : Int32))]))
    obtain ⟨_, _, ⟨T17, L17, k17, n17⟩, -, X17, ⟨Lc17, hQ17, l17, y17, z17⟩, st17⟩ := Jvm.LawKit.callS X16 hx (y := (⟨"com/example/wide_schema/wideschema/io/BytesInputReadPinLaw", "exp", "(IIII)I"⟩ : MethodName)) hown (mvT hZ (hw _ (List.mem_of_getElem? (i := 32) rfl))) (mvT hZ (hw _ (List.mem_of_getElem? (i := 33) rfl))) (mvT hZ (hw _ (List.mem_of_getElem? (i := 34) rfl))) (mvT hZ (hw _ (List.mem_of_getElem? (i := 35) rfl))) (by decide) (backOf (W := 1) (rm5 l Z a0 hw [] p0 (1 : Int32) (2 : Int32) (2 : Int32) T10.heap n0 Z10) hZ (hw _ (List.mem_of_getElem? (i := 35) rfl)) (hw _ (List.mem_of_getElem? (i := 34) rfl)) (by decide) (by decide)) (g := (mkF m 190 #[.val (.int p0), .val (.int p1), .val (.int p2), .val (.ref ar1), .val (.int (1 : Int32)), .val (.int (2 : Int32)), .val (.ref ob52), .val (.int (1 : Int32)), .val (.int ((((p0).toUInt32 >>> ((8 : Int32) &&& 31).toUInt32).toInt32).toInt8.toInt32 &&& (255 : Int32))), .val (.int ((((p0).toUInt32 >>> ((16 : Int32) &&& 31).toUInt32).toInt32).toInt8.toInt32 &&& (255 : Int32))), .val (.int (-1 : Int32)), .val (.int (-1 : Int32)), .val (.int (-1 : Int32)), .val (.int (-1 : Int32))] [(.int (2 : Int32)), (.int (2 : Int32)), (.int (1 : Int32)), (.int p0), (.int (-1 : Int32))])) rfl (by rw [hml]; rfl) (argsL := [(.int p0), (.int (1 : Int32)), (.int (2 : Int32)), (.int (2 : Int32))]) (rest := [(.int (-1 : Int32))]) (lenOf pd3 rfl) rfl (by show 2 * 0 + _ ≤ _; exact Nat.le_of_eq rfl) (hb hby at_190) (fun _ _ => ⟨rfl, hh16, (by decide : 2 + 0 ≤ _), (by decide : 7 + 0 ≤ _)⟩)
    dsimp only [Pt.U, Pt.locs, Pt.cells, Pt.slots] at X17 l17 y17 z17 st17 hQ17
    subst l17 y17 z17
    obtain ⟨rfl, Nq17, hh17⟩ := hQ17
    have N17 := Fr.app N16 Nq17
    refine Goes.go (st17) ?_
    show Goes _ _ _ _ _ _ _ (T17.setTop (mkF m 193 _ [(.int (exF p0 (1 : Int32) (2 : Int32) (2 : Int32))), (.int (-1 : Int32))]))
    refine Goes.go (fun _ kk => XS.icmpNo X17.here hx rfl (hb hby at_193) rfl (XT.ii_ne_f (own_m (by decide))) kk) ?_
    show Goes _ _ _ _ _ _ _ (T17.setTop (mkF m 196 _ []))
    refine Goes.go (fun _ kk => XS.iconst X17.here hx rfl (hb hby at_196) kk) ?_
    show Goes _ _ _ _ _ _ _ (T17.setTop (mkF m 197 _ [(.int (1 : Int32))]))
    refine Goes.go (fun _ kk => XS.goto X17.here hx rfl (pc0 := 197) (pc' := 201) rfl (hb hby at_197) (by decide) (by decide) kk) ?_
    show Goes _ _ _ _ _ _ _ (T17.setTop (mkF m 201 _ [(.int (1 : Int32))]))
    refine Goes.go (fun _ kk => XS.istore X17.here hx rfl (hb hby at_201) rfl (l' := #[.val (.int p0), .val (.int p1), .val (.int p2), .val (.ref ar1), .val (.int (1 : Int32)), .val (.int (2 : Int32)), .val (.ref ob52), .val (.int (1 : Int32)), .val (.int ((((p0).toUInt32 >>> ((8 : Int32) &&& 31).toUInt32).toInt32).toInt8.toInt32 &&& (255 : Int32))), .val (.int ((((p0).toUInt32 >>> ((16 : Int32) &&& 31).toUInt32).toInt32).toInt8.toInt32 &&& (255 : Int32))), .val (.int (-1 : Int32)), .val (.int (-1 : Int32)), .val (.int (-1 : Int32)), .val (.int (-1 : Int32))]) rfl kk) ?_
    show Goes _ _ _ _ _ _ _ (T17.setTop (mkF m 203 _ []))
    refine Goes.go (fun _ kk => XS.iload X17.here hx rfl (hb hby at_203) rfl kk) ?_
    show Goes _ _ _ _ _ _ _ (T17.setTop (mkF m 205 _ [(.int (1 : Int32))]))
    refine Goes.go (fun _ kk => XS.ifNo X17.here hx rfl (hb hby at_205) rfl (XT.i0_eq_f (by decide)) kk) ?_
    show Goes _ _ _ _ _ _ _ (T17.setTop (mkF m 208 _ []))
    refine Goes.go (fun _ kk => XS.iload X17.here hx rfl (hb hby at_208) rfl kk) ?_
    show Goes _ _ _ _ _ _ _ (T17.setTop (mkF m 210 _ [(.int (-1 : Int32))]))
    refine Goes.go (fun _ kk => XS.iloadN X17.here hx rfl (hb hby at_210) rfl kk) ?_
    show Goes _ _ _ _ _ _ _ (T17.setTop (mkF m 211 _ [(.int p0), (.int (-1 : Int32))]))
    refine Goes.go (fun _ kk => XS.iload X17.here hx rfl (hb hby at_211) rfl kk) ?_
    show Goes _ _ _ _ _ _ _ (T17.setTop (mkF m 213 _ [(.int (1 : Int32)), (.int p0), (.int (-1 : Int32))]))
    refine Goes.go (fun _ kk => XS.iload X17.here hx rfl (hb hby at_213) rfl kk) ?_
    show Goes _ _ _ _ _ _ _ (T17.setTop (mkF m 215 _ [(.int (2 : Int32)), (.int (1 : Int32)), (.int p0), (.int (-1 : Int32))]))
    refine Goes.go (fun _ kk => XS.iconst X17.here hx rfl (hb hby at_215) kk) ?_
    show Goes _ _ _ _ _ _ _ (T17.setTop (mkF m 216 _ [(.int (3 : Int32)), (.int (2 : Int32)), (.int (1 : Int32)), (.int p0), (.int (-1 : Int32))]))
    obtain ⟨_, _, ⟨T18, L18, k18, n18⟩, -, X18, ⟨Lc18, hQ18, l18, y18, z18⟩, st18⟩ := Jvm.LawKit.callS X17 hx (y := (⟨"com/example/wide_schema/wideschema/io/BytesInputReadPinLaw", "exp", "(IIII)I"⟩ : MethodName)) hown (mvT hZ (hw _ (List.mem_of_getElem? (i := 32) rfl))) (mvT hZ (hw _ (List.mem_of_getElem? (i := 33) rfl))) (mvT hZ (hw _ (List.mem_of_getElem? (i := 34) rfl))) (mvT hZ (hw _ (List.mem_of_getElem? (i := 35) rfl))) (by decide) (backOf (W := 1) (rm5 l Z a0 hw [] p0 (1 : Int32) (2 : Int32) (3 : Int32) T10.heap n0 Z10) hZ (hw _ (List.mem_of_getElem? (i := 35) rfl)) (hw _ (List.mem_of_getElem? (i := 34) rfl)) (by decide) (by decide)) (g := (mkF m 216 #[.val (.int p0), .val (.int p1), .val (.int p2), .val (.ref ar1), .val (.int (1 : Int32)), .val (.int (2 : Int32)), .val (.ref ob52), .val (.int (1 : Int32)), .val (.int ((((p0).toUInt32 >>> ((8 : Int32) &&& 31).toUInt32).toInt32).toInt8.toInt32 &&& (255 : Int32))), .val (.int ((((p0).toUInt32 >>> ((16 : Int32) &&& 31).toUInt32).toInt32).toInt8.toInt32 &&& (255 : Int32))), .val (.int (-1 : Int32)), .val (.int (-1 : Int32)), .val (.int (-1 : Int32)), .val (.int (-1 : Int32))] [(.int (3 : Int32)), (.int (2 : Int32)), (.int (1 : Int32)), (.int p0), (.int (-1 : Int32))])) rfl (by rw [hml]; rfl) (argsL := [(.int p0), (.int (1 : Int32)), (.int (2 : Int32)), (.int (3 : Int32))]) (rest := [(.int (-1 : Int32))]) (lenOf pd3 rfl) rfl (by show 2 * 0 + _ ≤ _; exact Nat.le_of_eq rfl) (hb hby at_216) (fun _ _ => ⟨rfl, hh17, (by decide : 2 + 0 ≤ _), (by decide : 7 + 0 ≤ _)⟩)
    dsimp only [Pt.U, Pt.locs, Pt.cells, Pt.slots] at X18 l18 y18 z18 st18 hQ18
    subst l18 y18 z18
    obtain ⟨rfl, Nq18, hh18⟩ := hQ18
    have N18 := Fr.app N17 Nq18
    refine Goes.go (st18) ?_
    show Goes _ _ _ _ _ _ _ (T18.setTop (mkF m 219 _ [(.int (exF p0 (1 : Int32) (2 : Int32) (3 : Int32))), (.int (-1 : Int32))]))
    refine Goes.go (fun _ kk => XS.icmpNo X18.here hx rfl (hb hby at_219) rfl (XT.ii_ne_f (own_m (by decide))) kk) ?_
    show Goes _ _ _ _ _ _ _ (T18.setTop (mkF m 222 _ []))
    refine Goes.go (fun _ kk => XS.iconst X18.here hx rfl (hb hby at_222) kk) ?_
    show Goes _ _ _ _ _ _ _ (T18.setTop (mkF m 223 _ [(.int (1 : Int32))]))
    refine Goes.go (fun _ kk => XS.goto X18.here hx rfl (pc0 := 223) (pc' := 227) rfl (hb hby at_223) (by decide) (by decide) kk) ?_
    show Goes _ _ _ _ _ _ _ (T18.setTop (mkF m 227 _ [(.int (1 : Int32))]))
    refine Goes.go (fun _ kk => XS.istore X18.here hx rfl (hb hby at_227) rfl (l' := #[.val (.int p0), .val (.int p1), .val (.int p2), .val (.ref ar1), .val (.int (1 : Int32)), .val (.int (2 : Int32)), .val (.ref ob52), .val (.int (1 : Int32)), .val (.int ((((p0).toUInt32 >>> ((8 : Int32) &&& 31).toUInt32).toInt32).toInt8.toInt32 &&& (255 : Int32))), .val (.int ((((p0).toUInt32 >>> ((16 : Int32) &&& 31).toUInt32).toInt32).toInt8.toInt32 &&& (255 : Int32))), .val (.int (-1 : Int32)), .val (.int (-1 : Int32)), .val (.int (-1 : Int32)), .val (.int (-1 : Int32))]) rfl kk) ?_
    show Goes _ _ _ _ _ _ _ (T18.setTop (mkF m 229 _ []))
    refine Goes.go (fun _ kk => XS.iload X18.here hx rfl (hb hby at_229) rfl kk) ?_
    show Goes _ _ _ _ _ _ _ (T18.setTop (mkF m 231 _ [(.int (1 : Int32))]))
    refine Goes.go (fun _ kk => XS.ifNo X18.here hx rfl (hb hby at_231) rfl (XT.i0_eq_f (by decide)) kk) ?_
    show Goes _ _ _ _ _ _ _ (T18.setTop (mkF m 234 _ []))
    refine Goes.go (fun _ kk => XS.iload X18.here hx rfl (hb hby at_234) rfl kk) ?_
    show Goes _ _ _ _ _ _ _ (T18.setTop (mkF m 236 _ [(.int (-1 : Int32))]))
    refine Goes.go (fun _ kk => XS.iloadN X18.here hx rfl (hb hby at_236) rfl kk) ?_
    show Goes _ _ _ _ _ _ _ (T18.setTop (mkF m 237 _ [(.int p0), (.int (-1 : Int32))]))
    refine Goes.go (fun _ kk => XS.iload X18.here hx rfl (hb hby at_237) rfl kk) ?_
    show Goes _ _ _ _ _ _ _ (T18.setTop (mkF m 239 _ [(.int (1 : Int32)), (.int p0), (.int (-1 : Int32))]))
    refine Goes.go (fun _ kk => XS.iload X18.here hx rfl (hb hby at_239) rfl kk) ?_
    show Goes _ _ _ _ _ _ _ (T18.setTop (mkF m 241 _ [(.int (2 : Int32)), (.int (1 : Int32)), (.int p0), (.int (-1 : Int32))]))
    refine Goes.go (fun _ kk => XS.iconst X18.here hx rfl (hb hby at_241) kk) ?_
    show Goes _ _ _ _ _ _ _ (T18.setTop (mkF m 242 _ [(.int (4 : Int32)), (.int (2 : Int32)), (.int (1 : Int32)), (.int p0), (.int (-1 : Int32))]))
    obtain ⟨_, _, ⟨T19, L19, k19, n19⟩, -, X19, ⟨Lc19, hQ19, l19, y19, z19⟩, st19⟩ := Jvm.LawKit.callS X18 hx (y := (⟨"com/example/wide_schema/wideschema/io/BytesInputReadPinLaw", "exp", "(IIII)I"⟩ : MethodName)) hown (mvT hZ (hw _ (List.mem_of_getElem? (i := 32) rfl))) (mvT hZ (hw _ (List.mem_of_getElem? (i := 33) rfl))) (mvT hZ (hw _ (List.mem_of_getElem? (i := 34) rfl))) (mvT hZ (hw _ (List.mem_of_getElem? (i := 35) rfl))) (by decide) (backOf (W := 1) (rm5 l Z a0 hw [] p0 (1 : Int32) (2 : Int32) (4 : Int32) T10.heap n0 Z10) hZ (hw _ (List.mem_of_getElem? (i := 35) rfl)) (hw _ (List.mem_of_getElem? (i := 34) rfl)) (by decide) (by decide)) (g := (mkF m 242 #[.val (.int p0), .val (.int p1), .val (.int p2), .val (.ref ar1), .val (.int (1 : Int32)), .val (.int (2 : Int32)), .val (.ref ob52), .val (.int (1 : Int32)), .val (.int ((((p0).toUInt32 >>> ((8 : Int32) &&& 31).toUInt32).toInt32).toInt8.toInt32 &&& (255 : Int32))), .val (.int ((((p0).toUInt32 >>> ((16 : Int32) &&& 31).toUInt32).toInt32).toInt8.toInt32 &&& (255 : Int32))), .val (.int (-1 : Int32)), .val (.int (-1 : Int32)), .val (.int (-1 : Int32)), .val (.int (-1 : Int32))] [(.int (4 : Int32)), (.int (2 : Int32)), (.int (1 : Int32)), (.int p0), (.int (-1 : Int32))])) rfl (by rw [hml]; rfl) (argsL := [(.int p0), (.int (1 : Int32)), (.int (2 : Int32)), (.int (4 : Int32))]) (rest := [(.int (-1 : Int32))]) (lenOf pd3 rfl) rfl (by show 2 * 0 + _ ≤ _; exact Nat.le_of_eq rfl) (hb hby at_242) (fun _ _ => ⟨rfl, hh18, (by decide : 2 + 0 ≤ _), (by decide : 7 + 0 ≤ _)⟩)
    dsimp only [Pt.U, Pt.locs, Pt.cells, Pt.slots] at X19 l19 y19 z19 st19 hQ19
    subst l19 y19 z19
    obtain ⟨rfl, Nq19, hh19⟩ := hQ19
    have N19 := Fr.app N18 Nq19
    refine Goes.go (st19) ?_
    show Goes _ _ _ _ _ _ _ (T19.setTop (mkF m 245 _ [(.int (exF p0 (1 : Int32) (2 : Int32) (4 : Int32))), (.int (-1 : Int32))]))
    refine Goes.go (fun _ kk => XS.icmpNo X19.here hx rfl (hb hby at_245) rfl (XT.ii_ne_f (own_m (by decide))) kk) ?_
    show Goes _ _ _ _ _ _ _ (T19.setTop (mkF m 248 _ []))
    refine Goes.go (fun _ kk => XS.iconst X19.here hx rfl (hb hby at_248) kk) ?_
    show Goes _ _ _ _ _ _ _ (T19.setTop (mkF m 249 _ [(.int (1 : Int32))]))
    refine Goes.go (fun _ kk => XS.goto X19.here hx rfl (pc0 := 249) (pc' := 253) rfl (hb hby at_249) (by decide) (by decide) kk) ?_
    show Goes _ _ _ _ _ _ _ (T19.setTop (mkF m 253 _ [(.int (1 : Int32))]))
    refine Goes.go (fun _ kk => XS.istore X19.here hx rfl (hb hby at_253) rfl (l' := #[.val (.int p0), .val (.int p1), .val (.int p2), .val (.ref ar1), .val (.int (1 : Int32)), .val (.int (2 : Int32)), .val (.ref ob52), .val (.int (1 : Int32)), .val (.int ((((p0).toUInt32 >>> ((8 : Int32) &&& 31).toUInt32).toInt32).toInt8.toInt32 &&& (255 : Int32))), .val (.int ((((p0).toUInt32 >>> ((16 : Int32) &&& 31).toUInt32).toInt32).toInt8.toInt32 &&& (255 : Int32))), .val (.int (-1 : Int32)), .val (.int (-1 : Int32)), .val (.int (-1 : Int32)), .val (.int (-1 : Int32))]) rfl kk) ?_
    show Goes _ _ _ _ _ _ _ (T19.setTop (mkF m 255 _ []))
    refine Goes.go (fun _ kk => XS.iload X19.here hx rfl (hb hby at_255) rfl kk) ?_
    show Goes _ _ _ _ _ _ _ (T19.setTop (mkF m 257 _ [(.int (1 : Int32))]))
    refine Goes.go (fun _ kk => XS.ifNo X19.here hx rfl (hb hby at_257) rfl (XT.i0_eq_f (by decide)) kk) ?_
    show Goes _ _ _ _ _ _ _ (T19.setTop (mkF m 260 _ []))
    refine Goes.go (fun _ kk => XS.iload X19.here hx rfl (hb hby at_260) rfl kk) ?_
    show Goes _ _ _ _ _ _ _ (T19.setTop (mkF m 262 _ [(.int (-1 : Int32))]))
    refine Goes.go (fun _ kk => XS.iloadN X19.here hx rfl (hb hby at_262) rfl kk) ?_
    show Goes _ _ _ _ _ _ _ (T19.setTop (mkF m 263 _ [(.int p0), (.int (-1 : Int32))]))
    refine Goes.go (fun _ kk => XS.iload X19.here hx rfl (hb hby at_263) rfl kk) ?_
    show Goes _ _ _ _ _ _ _ (T19.setTop (mkF m 265 _ [(.int (1 : Int32)), (.int p0), (.int (-1 : Int32))]))
    refine Goes.go (fun _ kk => XS.iload X19.here hx rfl (hb hby at_265) rfl kk) ?_
    show Goes _ _ _ _ _ _ _ (T19.setTop (mkF m 267 _ [(.int (2 : Int32)), (.int (1 : Int32)), (.int p0), (.int (-1 : Int32))]))
    refine Goes.go (fun _ kk => XS.iconst X19.here hx rfl (hb hby at_267) kk) ?_
    show Goes _ _ _ _ _ _ _ (T19.setTop (mkF m 268 _ [(.int (5 : Int32)), (.int (2 : Int32)), (.int (1 : Int32)), (.int p0), (.int (-1 : Int32))]))
    obtain ⟨_, _, ⟨T20, L20, k20, n20⟩, -, X20, ⟨Lc20, hQ20, l20, y20, z20⟩, st20⟩ := Jvm.LawKit.callS X19 hx (y := (⟨"com/example/wide_schema/wideschema/io/BytesInputReadPinLaw", "exp", "(IIII)I"⟩ : MethodName)) hown (mvT hZ (hw _ (List.mem_of_getElem? (i := 32) rfl))) (mvT hZ (hw _ (List.mem_of_getElem? (i := 33) rfl))) (mvT hZ (hw _ (List.mem_of_getElem? (i := 34) rfl))) (mvT hZ (hw _ (List.mem_of_getElem? (i := 35) rfl))) (by decide) (backOf (W := 1) (rm5 l Z a0 hw [] p0 (1 : Int32) (2 : Int32) (5 : Int32) T10.heap n0 Z10) hZ (hw _ (List.mem_of_getElem? (i := 35) rfl)) (hw _ (List.mem_of_getElem? (i := 34) rfl)) (by decide) (by decide)) (g := (mkF m 268 #[.val (.int p0), .val (.int p1), .val (.int p2), .val (.ref ar1), .val (.int (1 : Int32)), .val (.int (2 : Int32)), .val (.ref ob52), .val (.int (1 : Int32)), .val (.int ((((p0).toUInt32 >>> ((8 : Int32) &&& 31).toUInt32).toInt32).toInt8.toInt32 &&& (255 : Int32))), .val (.int ((((p0).toUInt32 >>> ((16 : Int32) &&& 31).toUInt32).toInt32).toInt8.toInt32 &&& (255 : Int32))), .val (.int (-1 : Int32)), .val (.int (-1 : Int32)), .val (.int (-1 : Int32)), .val (.int (-1 : Int32))] [(.int (5 : Int32)), (.int (2 : Int32)), (.int (1 : Int32)), (.int p0), (.int (-1 : Int32))])) rfl (by rw [hml]; rfl) (argsL := [(.int p0), (.int (1 : Int32)), (.int (2 : Int32)), (.int (5 : Int32))]) (rest := [(.int (-1 : Int32))]) (lenOf pd3 rfl) rfl (by show 2 * 0 + _ ≤ _; exact Nat.le_of_eq rfl) (hb hby at_268) (fun _ _ => ⟨rfl, hh19, (by decide : 2 + 0 ≤ _), (by decide : 7 + 0 ≤ _)⟩)
    dsimp only [Pt.U, Pt.locs, Pt.cells, Pt.slots] at X20 l20 y20 z20 st20 hQ20
    subst l20 y20 z20
    obtain ⟨rfl, Nq20, hh20⟩ := hQ20
    have N20 := Fr.app N19 Nq20
    refine Goes.go (st20) ?_
    show Goes _ _ _ _ _ _ _ (T20.setTop (mkF m 271 _ [(.int (exF p0 (1 : Int32) (2 : Int32) (5 : Int32))), (.int (-1 : Int32))]))
    refine Goes.go (fun _ kk => XS.icmpNo X20.here hx rfl (hb hby at_271) rfl (XT.ii_ne_f (own_m (by decide))) kk) ?_
    show Goes _ _ _ _ _ _ _ (T20.setTop (mkF m 274 _ []))
    refine Goes.go (fun _ kk => XS.iconst X20.here hx rfl (hb hby at_274) kk) ?_
    show Goes _ _ _ _ _ _ _ (T20.setTop (mkF m 275 _ [(.int (1 : Int32))]))
    refine Goes.go (fun _ kk => XS.goto X20.here hx rfl (pc0 := 275) (pc' := 279) rfl (hb hby at_275) (by decide) (by decide) kk) ?_
    show Goes _ _ _ _ _ _ _ (T20.setTop (mkF m 279 _ [(.int (1 : Int32))]))
    refine Goes.go (fun _ kk => XS.istore X20.here hx rfl (hb hby at_279) rfl (l' := #[.val (.int p0), .val (.int p1), .val (.int p2), .val (.ref ar1), .val (.int (1 : Int32)), .val (.int (2 : Int32)), .val (.ref ob52), .val (.int (1 : Int32)), .val (.int ((((p0).toUInt32 >>> ((8 : Int32) &&& 31).toUInt32).toInt32).toInt8.toInt32 &&& (255 : Int32))), .val (.int ((((p0).toUInt32 >>> ((16 : Int32) &&& 31).toUInt32).toInt32).toInt8.toInt32 &&& (255 : Int32))), .val (.int (-1 : Int32)), .val (.int (-1 : Int32)), .val (.int (-1 : Int32)), .val (.int (-1 : Int32))]) rfl kk) ?_
    show Goes _ _ _ _ _ _ _ (T20.setTop (mkF m 281 _ []))
    refine Goes.go (fun _ kk => XS.iload X20.here hx rfl (hb hby at_281) rfl kk) ?_
    show Goes _ _ _ _ _ _ _ (T20.setTop (mkF m 283 _ [(.int (1 : Int32))]))
    refine Goes.go (fun _ kk => XS.ifNo X20.here hx rfl (hb hby at_283) rfl (XT.i0_eq_f (by decide)) kk) ?_
    show Goes _ _ _ _ _ _ _ (T20.setTop (mkF m 286 _ []))
    refine Goes.go (fun _ kk => XS.aload X20.here hx rfl (hb hby at_286) rfl rfl kk) ?_
    show Goes _ _ _ _ _ _ _ (T20.setTop (mkF m 288 _ [(.ref ob52)]))
    obtain ⟨cq21, kq21, qa21, qb21, qc21⟩ := isOf hZ hh20 Eq10
    obtain ⟨_, _, ⟨T21, L21, k21, n21⟩, -, X21, ⟨Lc21, hQ21, l21, y21, z21⟩, st21⟩ := X20.virtualBack hx (y := (⟨"com/example/wide_schema/wideschema/io/BytesInput", "available", "()I"⟩ : MethodName)) (z := (⟨"com/example/wide_schema/wideschema/io/BytesInput", "available", "()I"⟩ : MethodName)) hown (mvT hZ (hw _ (List.mem_of_getElem? (i := 22) rfl))) (mvT hZ (hw _ (List.mem_of_getElem? (i := 23) rfl))) (notFace_of_selects (args := #[]) (mvT hZ (hw _ (List.mem_of_getElem? (i := 25) rfl)))) (mvT hZ (hw _ (List.mem_of_getElem? (i := 25) rfl))) (mvT hZ (hw _ (List.mem_of_getElem? (i := 24) rfl))) (by decide) (backOf (W := 0) (rm3 l Z a0 hw [] ob52 (3 : Int32) (3 : Int32) T10.heap n0 Z10 Fq10_1 Fq10_2) hZ (hw _ (List.mem_of_getElem? (i := 26) rfl)) (hw _ (List.mem_of_getElem? (i := 4) rfl)) (by decide) (by decide)) qa21 qc21 (g := (mkF m 288 #[.val (.int p0), .val (.int p1), .val (.int p2), .val (.ref ar1), .val (.int (1 : Int32)), .val (.int (2 : Int32)), .val (.ref ob52), .val (.int (1 : Int32)), .val (.int ((((p0).toUInt32 >>> ((8 : Int32) &&& 31).toUInt32).toInt32).toInt8.toInt32 &&& (255 : Int32))), .val (.int ((((p0).toUInt32 >>> ((16 : Int32) &&& 31).toUInt32).toInt32).toInt8.toInt32 &&& (255 : Int32))), .val (.int (-1 : Int32)), .val (.int (-1 : Int32)), .val (.int (-1 : Int32)), .val (.int (-1 : Int32))] [(.ref ob52)])) rfl (by rw [hml]; rfl) (Steps.refl _) (argsL := []) (rest := []) (lenOf pd2 rfl) rfl (by show 2 * 0 + _ ≤ _; exact Nat.le_of_eq rfl) (hb hby at_288) (fun _ _ => ⟨rfl, hh20, (by decide : 2 + 0 ≤ _), (by decide : 7 + 0 ≤ _)⟩)
    dsimp only [Pt.U, Pt.locs, Pt.cells, Pt.slots] at X21 l21 y21 z21 st21 hQ21
    subst l21 y21 z21
    obtain ⟨rfl, Nq21, hh21⟩ := hQ21
    have N21 := Fr.app N20 Nq21
    refine Goes.go (fun _ kk => st21.trans kk) ?_
    show Goes _ _ _ _ _ _ _ (T21.setTop (mkF m 291 _ [(.int (0 : Int32))]))
    refine Goes.go (fun _ kk => XS.ifNo X21.here hx rfl (hb hby at_291) rfl (XT.i0_ne_f (by decide)) kk) ?_
    show Goes _ _ _ _ _ _ _ (T21.setTop (mkF m 294 _ []))
    refine Goes.go (fun _ kk => XS.iconst X21.here hx rfl (hb hby at_294) kk) ?_
    show Goes _ _ _ _ _ _ _ (T21.setTop (mkF m 295 _ [(.int (1 : Int32))]))
    refine Goes.go (fun _ kk => XS.goto X21.here hx rfl (pc0 := 295) (pc' := 299) rfl (hb hby at_295) (by decide) (by decide) kk) ?_
    show Goes _ _ _ _ _ _ _ (T21.setTop (mkF m 299 _ [(.int (1 : Int32))]))
    refine Goes.go (fun _ kk => XS.istore X21.here hx rfl (hb hby at_299) rfl (l' := #[.val (.int p0), .val (.int p1), .val (.int p2), .val (.ref ar1), .val (.int (1 : Int32)), .val (.int (2 : Int32)), .val (.ref ob52), .val (.int (1 : Int32)), .val (.int ((((p0).toUInt32 >>> ((8 : Int32) &&& 31).toUInt32).toInt32).toInt8.toInt32 &&& (255 : Int32))), .val (.int ((((p0).toUInt32 >>> ((16 : Int32) &&& 31).toUInt32).toInt32).toInt8.toInt32 &&& (255 : Int32))), .val (.int (-1 : Int32)), .val (.int (-1 : Int32)), .val (.int (-1 : Int32)), .val (.int (-1 : Int32))]) rfl kk) ?_
    show Goes _ _ _ _ _ _ _ (T21.setTop (mkF m 301 _ []))
    refine Goes.go (fun _ kk => XS.iload X21.here hx rfl (hb hby at_301) rfl kk) ?_
    show Goes _ _ _ _ _ _ _ (T21.setTop (mkF m 303 _ [(.int (1 : Int32))]))
    exact Goes.outZ X21 hx hlk hret rfl (hb hby at_303) hh21 ⟨rfl, N21⟩ (by decide) (by decide)
  · skip
    show Goes _ _ _ _ _ _ _ (T5.setTop (mkF m 52 #[.val (.int p0), .val (.int p1), .val (.int p2), .val (.ref ar1), .val (.int (1 : Int32)), .val (.int (3 : Int32)), .unset, .unset, .unset, .unset, .unset, .unset, .unset, .unset] []))
    obtain ⟨T6, h6, X6, e6, E6, A6, D6, -, st6⟩ := newO X5 hx hZ hown (hw _ (List.mem_of_getElem? (i := 2) rfl)) (hw _ (List.mem_of_getElem? (i := 3) rfl)) (hw _ (List.mem_of_getElem? (i := 4) rfl)) e5 (g := (mkF m 52 #[.val (.int p0), .val (.int p1), .val (.int p2), .val (.ref ar1), .val (.int (1 : Int32)), .val (.int (3 : Int32)), .unset, .unset, .unset, .unset, .unset, .unset, .unset, .unset] [])) rfl (hb hby at_52) (by decide) (by decide)
    obtain ⟨ob52, gob52⟩ : ∃ z, z = h5.size := ⟨_, rfl⟩
    rw [← gob52] at A6 D6 st6
    have ne_ar1_ob52 : ar1 ≠ ob52 := by rw [gob52]; exact Nat.ne_of_lt f_4.lt
    have f_5 := f_4.ext E6
    have Z6 : n0 ≤ h6.size := Nat.le_trans Z5 E6.1
    have ge_ob52 : n0 ≤ ob52 := Nat.le_trans Z5 (Nat.le_of_eq gob52.symm)
    have f_6 : Fld Z h6 ob52 "com/example/wide_schema/wideschema/io/BytesInput" "_bytes" "[B" .null := D6 (Or.inr (hw _ (List.mem_of_getElem? (i := 17) rfl))) (ty := (.array .byte)) (by decide)
    have f_7 : Fld Z h6 ob52 "com/example/wide_schema/wideschema/io/BytesInput" "_next" "I" (.int (0 : Int32)) := D6 (Or.inl (hw _ (List.mem_of_getElem? (i := 19) rfl))) (ty := .int) (by decide)
    have f_8 : Fld Z h6 ob52 "com/example/wide_schema/wideschema/io/BytesInput" "_end" "I" (.int (0 : Int32)) := D6 (Or.inr (hw _ (List.mem_of_getElem? (i := 21) rfl))) (ty := .int) (by decide)
    refine Goes.go (st6) ?_
    show Goes _ _ _ _ _ _ _ (T6.setTop (mkF m 55 _ [(.ref ob52)]))
    refine Goes.go (fun _ kk => XS.dup X6.here hx rfl (hb hby at_55) rfl rfl kk) ?_
    show Goes _ _ _ _ _ _ _ (T6.setTop (mkF m 56 _ [(.ref ob52), (.ref ob52)]))
    refine Goes.go (fun _ kk => XS.aloadN X6.here hx rfl (hb hby at_56) rfl rfl kk) ?_
    show Goes _ _ _ _ _ _ _ (T6.setTop (mkF m 57 _ [(.ref ar1), (.ref ob52), (.ref ob52)]))
    refine Goes.go (fun _ kk => XS.iload X6.here hx rfl (hb hby at_57) rfl kk) ?_
    show Goes _ _ _ _ _ _ _ (T6.setTop (mkF m 59 _ [(.int (1 : Int32)), (.ref ar1), (.ref ob52), (.ref ob52)]))
    refine Goes.go (fun _ kk => XS.iload X6.here hx rfl (hb hby at_59) rfl kk) ?_
    show Goes _ _ _ _ _ _ _ (T6.setTop (mkF m 61 _ [(.int (3 : Int32)), (.int (1 : Int32)), (.ref ar1), (.ref ob52), (.ref ob52)]))
    obtain ⟨_, _, ⟨T7, L7, k7, n7⟩, -, X7, ⟨Lc7, hQ7, l7, y7, z7⟩, st7⟩ := X6.specialBack hx (y := (⟨"com/example/wide_schema/wideschema/io/BytesInput", "<init>", "([BII)V"⟩ : MethodName)) rfl hown (mvT hZ (hw _ (List.mem_of_getElem? (i := 5) rfl))) (mvT hZ (hw _ (List.mem_of_getElem? (i := 6) rfl))) (mvT hZ (hw _ (List.mem_of_getElem? (i := 7) rfl))) (by decide) (backOf (W := 1) (rm1 l Z a0 hw [] ob52 ar1 (1 : Int32) (3 : Int32) h6 n0 Z6 A6 f_6 f_7 f_8 ge_ob52) hZ (hw _ (List.mem_of_getElem? (i := 7) rfl)) (hw _ (List.mem_of_getElem? (i := 4) rfl)) (by decide) (by decide)) (g := (mkF m 61 #[.val (.int p0), .val (.int p1), .val (.int p2), .val (.ref ar1), .val (.int (1 : Int32)), .val (.int (3 : Int32)), .unset, .unset, .unset, .unset, .unset, .unset, .unset, .unset] [(.int (3 : Int32)), (.int (1 : Int32)), (.ref ar1), (.ref ob52), (.ref ob52)])) rfl (by rw [hml]; rfl) (Steps.refl _) (a := ob52) (argsL := [(.ref ar1), (.int (1 : Int32)), (.int (3 : Int32))]) (rest := [(.ref ob52)]) (lenOf pd0 rfl) rfl (by show 2 * 0 + _ ≤ _; exact Nat.le_of_eq rfl) (hb hby at_61) (fun _ _ => ⟨rfl, e6, (by decide : 2 + 0 ≤ _), (by decide : 7 + 0 ≤ _)⟩)
    dsimp only [Pt.U, Pt.locs, Pt.cells, Pt.slots] at X7 l7 y7 z7 st7 hQ7
    subst l7 y7 z7
    obtain ⟨rfl, Nq7, Kq7, Eq7, Fq7_0, Fq7_1, Fq7_2⟩ := hQ7
    have N7 := Fr.app N5 Nq7
    have Z7 : n0 ≤ T7.heap.size := Nat.le_trans Z6 Kq7.1
    have f_9 := Arl.keep f_5 Kq7 (ninS ne_ar1_ob52 nin0)
    refine Goes.go (fun _ kk => st7.trans kk) ?_
    show Goes _ _ _ _ _ _ _ (T7.setTop (mkF m 64 _ [(.ref ob52)]))
    refine Goes.go (fun _ kk => XS.astore X7.here hx rfl (hb hby at_64) rfl rfl (l' := #[.val (.int p0), .val (.int p1), .val (.int p2), .val (.ref ar1), .val (.int (1 : Int32)), .val (.int (3 : Int32)), .val (.ref ob52), .unset, .unset, .unset, .unset, .unset, .unset, .unset]) rfl kk) ?_
    show Goes _ _ _ _ _ _ _ (T7.setTop (mkF m 66 #[.val (.int p0), .val (.int p1), .val (.int p2), .val (.ref ar1), .val (.int (1 : Int32)), .val (.int (3 : Int32)), .val (.ref ob52), .unset, .unset, .unset, .unset, .unset, .unset, .unset] []))
    refine Goes.go (fun _ kk => XS.aload X7.here hx rfl (hb hby at_66) rfl rfl kk) ?_
    show Goes _ _ _ _ _ _ _ (T7.setTop (mkF m 68 _ [(.ref ob52)]))
    obtain ⟨cq8, kq8, qa8, qb8, qc8⟩ := isOf hZ rfl Eq7
    obtain ⟨_, _, ⟨T8, L8, k8, n8⟩, -, X8, ⟨Lc8, hQ8, l8, y8, z8⟩, st8⟩ := X7.virtualBack hx (y := (⟨"com/example/wide_schema/wideschema/io/BytesInput", "available", "()I"⟩ : MethodName)) (z := (⟨"com/example/wide_schema/wideschema/io/BytesInput", "available", "()I"⟩ : MethodName)) hown (mvT hZ (hw _ (List.mem_of_getElem? (i := 22) rfl))) (mvT hZ (hw _ (List.mem_of_getElem? (i := 23) rfl))) (notFace_of_selects (args := #[]) (mvT hZ (hw _ (List.mem_of_getElem? (i := 25) rfl)))) (mvT hZ (hw _ (List.mem_of_getElem? (i := 25) rfl))) (mvT hZ (hw _ (List.mem_of_getElem? (i := 24) rfl))) (by decide) (backOf (W := 0) (rm3 l Z a0 hw [] ob52 (1 : Int32) (4 : Int32) T7.heap n0 Z7 Fq7_1 Fq7_2) hZ (hw _ (List.mem_of_getElem? (i := 26) rfl)) (hw _ (List.mem_of_getElem? (i := 4) rfl)) (by decide) (by decide)) qa8 qc8 (g := (mkF m 68 #[.val (.int p0), .val (.int p1), .val (.int p2), .val (.ref ar1), .val (.int (1 : Int32)), .val (.int (3 : Int32)), .val (.ref ob52), .unset, .unset, .unset, .unset, .unset, .unset, .unset] [(.ref ob52)])) rfl (by rw [hml]; rfl) (Steps.refl _) (argsL := []) (rest := []) (lenOf pd2 rfl) rfl (by show 2 * 0 + _ ≤ _; exact Nat.le_of_eq rfl) (hb hby at_68) (fun _ _ => ⟨rfl, rfl, (by decide : 2 + 0 ≤ _), (by decide : 7 + 0 ≤ _)⟩)
    dsimp only [Pt.U, Pt.locs, Pt.cells, Pt.slots] at X8 l8 y8 z8 st8 hQ8
    subst l8 y8 z8
    obtain ⟨rfl, Nq8, hh8⟩ := hQ8
    have N8 := Fr.app N7 Nq8
    refine Goes.go (fun _ kk => st8.trans kk) ?_
    show Goes _ _ _ _ _ _ _ (T8.setTop (mkF m 71 _ [(.int (3 : Int32))]))
    refine Goes.go (fun _ kk => XS.iload X8.here hx rfl (hb hby at_71) rfl kk) ?_
    show Goes _ _ _ _ _ _ _ (T8.setTop (mkF m 73 _ [(.int (3 : Int32)), (.int (3 : Int32))]))
    refine Goes.go (fun _ kk => XS.icmpNo X8.here hx rfl (hb hby at_73) rfl (XT.ii_ne_f (by decide)) kk) ?_
    show Goes _ _ _ _ _ _ _ (T8.setTop (mkF m 76 _ []))
    refine Goes.go (fun _ kk => XS.iconst X8.here hx rfl (hb hby at_76) kk) ?_
    show Goes _ _ _ _ _ _ _ (T8.setTop (mkF m 77 _ [(.int (1 : Int32))]))
    refine Goes.go (fun _ kk => XS.goto X8.here hx rfl (pc0 := 77) (pc' := 81) rfl (hb hby at_77) (by decide) (by decide) kk) ?_
    show Goes _ _ _ _ _ _ _ (T8.setTop (mkF m 81 _ [(.int (1 : Int32))]))
    refine Goes.go (fun _ kk => XS.istore X8.here hx rfl (hb hby at_81) rfl (l' := #[.val (.int p0), .val (.int p1), .val (.int p2), .val (.ref ar1), .val (.int (1 : Int32)), .val (.int (3 : Int32)), .val (.ref ob52), .val (.int (1 : Int32)), .unset, .unset, .unset, .unset, .unset, .unset]) rfl kk) ?_
    show Goes _ _ _ _ _ _ _ (T8.setTop (mkF m 83 #[.val (.int p0), .val (.int p1), .val (.int p2), .val (.ref ar1), .val (.int (1 : Int32)), .val (.int (3 : Int32)), .val (.ref ob52), .val (.int (1 : Int32)), .unset, .unset, .unset, .unset, .unset, .unset] []))
    refine Goes.go (fun _ kk => XS.aload X8.here hx rfl (hb hby at_83) rfl rfl kk) ?_
    show Goes _ _ _ _ _ _ _ (T8.setTop (mkF m 85 _ [(.ref ob52)]))
    obtain ⟨cq9, kq9, qa9, qb9, qc9⟩ := isOf hZ hh8 Eq7
    obtain ⟨_, _, ⟨T9, L9, k9, n9⟩, -, X9, ⟨Lc9, hQ9, l9, y9, z9⟩, st9⟩ := X8.virtualBack hx (y := (⟨"com/example/wide_schema/wideschema/io/BytesInput", "read", "()I"⟩ : MethodName)) (z := (⟨"com/example/wide_schema/wideschema/io/BytesInput", "read", "()I"⟩ : MethodName)) hown (mvT hZ (hw _ (List.mem_of_getElem? (i := 27) rfl))) (mvT hZ (hw _ (List.mem_of_getElem? (i := 28) rfl))) (notFace_of_selects (args := #[]) (mvT hZ (hw _ (List.mem_of_getElem? (i := 30) rfl)))) (mvT hZ (hw _ (List.mem_of_getElem? (i := 30) rfl))) (mvT hZ (hw _ (List.mem_of_getElem? (i := 29) rfl))) (by decide) (backOf (W := 0) (rmY l Z a0 hw [] ob52 ar1 _ (1 : Int32) (4 : Int32) (((p0).toUInt32 >>> ((8 : Int32) &&& 31).toUInt32).toInt32).toInt8.toInt32 T7.heap n0 Z7 Eq7 Fq7_0 Fq7_1 Fq7_2 ge_ob52 f_9 (by decide) (by decide) rfl) hZ (hw _ (List.mem_of_getElem? (i := 31) rfl)) (hw _ (List.mem_of_getElem? (i := 4) rfl)) (by decide) (by decide)) qa9 qc9 (g := (mkF m 85 #[.val (.int p0), .val (.int p1), .val (.int p2), .val (.ref ar1), .val (.int (1 : Int32)), .val (.int (3 : Int32)), .val (.ref ob52), .val (.int (1 : Int32)), .unset, .unset, .unset, .unset, .unset, .unset] [(.ref ob52)])) rfl (by rw [hml]; rfl) (Steps.refl _) (argsL := []) (rest := []) (lenOf pd2 rfl) rfl (by show 2 * 0 + _ ≤ _; exact Nat.le_of_eq rfl) (hb hby at_85) (fun _ _ => ⟨rfl, hh8, (by decide : 2 + 0 ≤ _), (by decide : 7 + 0 ≤ _)⟩)
    dsimp only [Pt.U, Pt.locs, Pt.cells, Pt.slots] at X9 l9 y9 z9 st9 hQ9
    subst l9 y9 z9
    obtain ⟨rfl, Nq9, Kq9, Eq9, Fq9_0, Fq9_1, Fq9_2⟩ := hQ9
    have N9 := Fr.app N8 Nq9
    have Z9 : n0 ≤ T9.heap.size := Nat.le_trans Z7 Kq9.1
    have f_10 := Arl.keep f_9 Kq9 (ninS ne_ar1_ob52 nin0)
    refine Goes.go (fun _ kk => st9.trans kk) ?_
    show Goes _ _ _ _ _ _ _ (T9.setTop (mkF m 88 _ [(.int ((((p0).toUInt32 >>> ((8 : Int32) &&& 31).toUInt32).toInt32).toInt8.toInt32 &&& (255 : Int32)))]))
    refine Goes.go (fun _ kk => XS.istore X9.here hx rfl (hb hby at_88) rfl (l' := #[.val (.int p0), .val (.int p1), .val (.int p2), .val (.ref ar1), .val (.int (1 : Int32)), .val (.int (3 : Int32)), .val (.ref ob52), .val (.int (1 : Int32)), .val (.int ((((p0).toUInt32 >>> ((8 : Int32) &&& 31).toUInt32).toInt32).toInt8.toInt32 &&& (255 : Int32))), .unset, .unset, .unset, .unset, .unset]) rfl kk) ?_
    show Goes _ _ _ _ _ _ _ (T9.setTop (mkF m 90 #[.val (.int p0), .val (.int p1), .val (.int p2), .val (.ref ar1), .val (.int (1 : Int32)), .val (.int (3 : Int32)), .val (.ref ob52), .val (.int (1 : Int32)), .val (.int ((((p0).toUInt32 >>> ((8 : Int32) &&& 31).toUInt32).toInt32).toInt8.toInt32 &&& (255 : Int32))), .unset, .unset, .unset, .unset, .unset] []))
    refine Goes.go (fun _ kk => XS.aload X9.here hx rfl (hb hby at_90) rfl rfl kk) ?_
    show Goes _ _ _ _ _ _ _ (T9.setTop (mkF m 92 _ [(.ref ob52)]))
    obtain ⟨cq10, kq10, qa10, qb10, qc10⟩ := isOf hZ rfl Eq9
    obtain ⟨_, _, ⟨T10, L10, k10, n10⟩, -, X10, ⟨Lc10, hQ10, l10, y10, z10⟩, st10⟩ := X9.virtualBack hx (y := (⟨"com/example/wide_schema/wideschema/io/BytesInput", "read", "()I"⟩ : MethodName)) (z := (⟨"com/example/wide_schema/wideschema/io/BytesInput", "read", "()I"⟩ : MethodName)) hown (mvT hZ (hw _ (List.mem_of_getElem? (i := 27) rfl))) (mvT hZ (hw _ (List.mem_of_getElem? (i := 28) rfl))) (notFace_of_selects (args := #[]) (mvT hZ (hw _ (List.mem_of_getElem? (i := 30) rfl)))) (mvT hZ (hw _ (List.mem_of_getElem? (i := 30) rfl))) (mvT hZ (hw _ (List.mem_of_getElem? (i := 29) rfl))) (by decide) (backOf (W := 0) (rmY l Z a0 hw [] ob52 ar1 _ (2 : Int32) (4 : Int32) (((p0).toUInt32 >>> ((16 : Int32) &&& 31).toUInt32).toInt32).toInt8.toInt32 T9.heap n0 Z9 Eq9 Fq9_0 Fq9_1 Fq9_2 ge_ob52 f_10 (by decide) (by decide) rfl) hZ (hw _ (List.mem_of_getElem? (i := 31) rfl)) (hw _ (List.mem_of_getElem? (i := 4) rfl)) (by decide) (by decide)) qa10 qc10 (g := (mkF m 92 #[.val (.int p0), .val (.int p1), .val (.int p2), .val (.ref ar1), .val (.int (1 : Int32)), .val (.int (3 : Int32)), .val (.ref ob52), .val (.int (1 : Int32)), .val (.int ((((p0).toUInt32 >>> ((8 : Int32) &&& 31).toUInt32).toInt32).toInt8.toInt32 &&& (255 : Int32))), .unset, .unset, .unset, .unset, .unset] [(.ref ob52)])) rfl (by rw [hml]; rfl) (Steps.refl _) (argsL := []) (rest := []) (lenOf pd2 rfl) rfl (by show 2 * 0 + _ ≤ _; exact Nat.le_of_eq rfl) (hb hby at_92) (fun _ _ => ⟨rfl, rfl, (by decide : 2 + 0 ≤ _), (by decide : 7 + 0 ≤ _)⟩)
    dsimp only [Pt.U, Pt.locs, Pt.cells, Pt.slots] at X10 l10 y10 z10 st10 hQ10
    subst l10 y10 z10
    obtain ⟨rfl, Nq10, Kq10, Eq10, Fq10_0, Fq10_1, Fq10_2⟩ := hQ10
    have N10 := Fr.app N9 Nq10
    have Z10 : n0 ≤ T10.heap.size := Nat.le_trans Z9 Kq10.1
    have f_11 := Arl.keep f_10 Kq10 (ninS ne_ar1_ob52 nin0)
    refine Goes.go (fun _ kk => st10.trans kk) ?_
    show Goes _ _ _ _ _ _ _ (T10.setTop (mkF m 95 _ [(.int ((((p0).toUInt32 >>> ((16 : Int32) &&& 31).toUInt32).toInt32).toInt8.toInt32 &&& (255 : Int32)))]))
    refine Goes.go (fun _ kk => XS.istore X10.here hx rfl (hb hby at_95) rfl (l' := #[.val (.int p0), .val (.int p1), .val (.int p2), .val (.ref ar1), .val (.int (1 : Int32)), .val (.int (3 : Int32)), .val (.ref ob52), .val (.int (1 : Int32)), .val (.int ((((p0).toUInt32 >>> ((8 : Int32) &&& 31).toUInt32).toInt32).toInt8.toInt32 &&& (255 : Int32))), .val (.int ((((p0).toUInt32 >>> ((16 : Int32) &&& 31).toUInt32).toInt32).toInt8.toInt32 &&& (255 : Int32))), .unset, .unset, .unset, .unset]) rfl kk) ?_
    show Goes _ _ _ _ _ _ _ (T10.setTop (mkF m 97 #[.val (.int p0), .val (.int p1), .val (.int p2), .val (.ref ar1), .val (.int (1 : Int32)), .val (.int (3 : Int32)), .val (.ref ob52), .val (.int (1 : Int32)), .val (.int ((((p0).toUInt32 >>> ((8 : Int32) &&& 31).toUInt32).toInt32).toInt8.toInt32 &&& (255 : Int32))), .val (.int ((((p0).toUInt32 >>> ((16 : Int32) &&& 31).toUInt32).toInt32).toInt8.toInt32 &&& (255 : Int32))), .unset, .unset, .unset, .unset] []))
    refine Goes.go (fun _ kk => XS.aload X10.here hx rfl (hb hby at_97) rfl rfl kk) ?_
    show Goes _ _ _ _ _ _ _ (T10.setTop (mkF m 99 _ [(.ref ob52)]))
    obtain ⟨cq11, kq11, qa11, qb11, qc11⟩ := isOf hZ rfl Eq10
    obtain ⟨_, _, ⟨T11, L11, k11, n11⟩, -, X11, ⟨Lc11, hQ11, l11, y11, z11⟩, st11⟩ := X10.virtualBack hx (y := (⟨"com/example/wide_schema/wideschema/io/BytesInput", "read", "()I"⟩ : MethodName)) (z := (⟨"com/example/wide_schema/wideschema/io/BytesInput", "read", "()I"⟩ : MethodName)) hown (mvT hZ (hw _ (List.mem_of_getElem? (i := 27) rfl))) (mvT hZ (hw _ (List.mem_of_getElem? (i := 28) rfl))) (notFace_of_selects (args := #[]) (mvT hZ (hw _ (List.mem_of_getElem? (i := 30) rfl)))) (mvT hZ (hw _ (List.mem_of_getElem? (i := 30) rfl))) (mvT hZ (hw _ (List.mem_of_getElem? (i := 29) rfl))) (by decide) (backOf (W := 0) (rmY l Z a0 hw [] ob52 ar1 _ (3 : Int32) (4 : Int32) (((p0).toUInt32 >>> ((24 : Int32) &&& 31).toUInt32).toInt32).toInt8.toInt32 T10.heap n0 Z10 Eq10 Fq10_0 Fq10_1 Fq10_2 ge_ob52 f_11 (by decide) (by decide) rfl) hZ (hw _ (List.mem_of_getElem? (i := 31) rfl)) (hw _ (List.mem_of_getElem? (i := 4) rfl)) (by decide) (by decide)) qa11 qc11 (g := (mkF m 99 #[.val (.int p0), .val (.int p1), .val (.int p2), .val (.ref ar1), .val (.int (1 : Int32)), .val (.int (3 : Int32)), .val (.ref ob52), .val (.int (1 : Int32)), .val (.int ((((p0).toUInt32 >>> ((8 : Int32) &&& 31).toUInt32).toInt32).toInt8.toInt32 &&& (255 : Int32))), .val (.int ((((p0).toUInt32 >>> ((16 : Int32) &&& 31).toUInt32).toInt32).toInt8.toInt32 &&& (255 : Int32))), .unset, .unset, .unset, .unset] [(.ref ob52)])) rfl (by rw [hml]; rfl) (Steps.refl _) (argsL := []) (rest := []) (lenOf pd2 rfl) rfl (by show 2 * 0 + _ ≤ _; exact Nat.le_of_eq rfl) (hb hby at_99) (fun _ _ => ⟨rfl, rfl, (by decide : 2 + 0 ≤ _), (by decide : 7 + 0 ≤ _)⟩)
    dsimp only [Pt.U, Pt.locs, Pt.cells, Pt.slots] at X11 l11 y11 z11 st11 hQ11
    subst l11 y11 z11
    obtain ⟨rfl, Nq11, Kq11, Eq11, Fq11_0, Fq11_1, Fq11_2⟩ := hQ11
    have N11 := Fr.app N10 Nq11
    have Z11 : n0 ≤ T11.heap.size := Nat.le_trans Z10 Kq11.1
    have f_12 := Arl.keep f_11 Kq11 (ninS ne_ar1_ob52 nin0)
    refine Goes.go (fun _ kk => st11.trans kk) ?_
    show Goes _ _ _ _ _ _ _ (T11.setTop (mkF m 102 _ [(.int ((((p0).toUInt32 >>> ((24 : Int32) &&& 31).toUInt32).toInt32).toInt8.toInt32 &&& (255 : Int32)))]))
    refine Goes.go (fun _ kk => XS.istore X11.here hx rfl (hb hby at_102) rfl (l' := #[.val (.int p0), .val (.int p1), .val (.int p2), .val (.ref ar1), .val (.int (1 : Int32)), .val (.int (3 : Int32)), .val (.ref ob52), .val (.int (1 : Int32)), .val (.int ((((p0).toUInt32 >>> ((8 : Int32) &&& 31).toUInt32).toInt32).toInt8.toInt32 &&& (255 : Int32))), .val (.int ((((p0).toUInt32 >>> ((16 : Int32) &&& 31).toUInt32).toInt32).toInt8.toInt32 &&& (255 : Int32))), .val (.int ((((p0).toUInt32 >>> ((24 : Int32) &&& 31).toUInt32).toInt32).toInt8.toInt32 &&& (255 : Int32))), .unset, .unset, .unset]) rfl kk) ?_
    show Goes _ _ _ _ _ _ _ (T11.setTop (mkF m 104 #[.val (.int p0), .val (.int p1), .val (.int p2), .val (.ref ar1), .val (.int (1 : Int32)), .val (.int (3 : Int32)), .val (.ref ob52), .val (.int (1 : Int32)), .val (.int ((((p0).toUInt32 >>> ((8 : Int32) &&& 31).toUInt32).toInt32).toInt8.toInt32 &&& (255 : Int32))), .val (.int ((((p0).toUInt32 >>> ((16 : Int32) &&& 31).toUInt32).toInt32).toInt8.toInt32 &&& (255 : Int32))), .val (.int ((((p0).toUInt32 >>> ((24 : Int32) &&& 31).toUInt32).toInt32).toInt8.toInt32 &&& (255 : Int32))), .unset, .unset, .unset] []))
    refine Goes.go (fun _ kk => XS.aload X11.here hx rfl (hb hby at_104) rfl rfl kk) ?_
    show Goes _ _ _ _ _ _ _ (T11.setTop (mkF m 106 _ [(.ref ob52)]))
    obtain ⟨cq12, kq12, qa12, qb12, qc12⟩ := isOf hZ rfl Eq11
    obtain ⟨_, _, ⟨T12, L12, k12, n12⟩, -, X12, ⟨Lc12, hQ12, l12, y12, z12⟩, st12⟩ := X11.virtualBack hx (y := (⟨"com/example/wide_schema/wideschema/io/BytesInput", "read", "()I"⟩ : MethodName)) (z := (⟨"com/example/wide_schema/wideschema/io/BytesInput", "read", "()I"⟩ : MethodName)) hown (mvT hZ (hw _ (List.mem_of_getElem? (i := 27) rfl))) (mvT hZ (hw _ (List.mem_of_getElem? (i := 28) rfl))) (notFace_of_selects (args := #[]) (mvT hZ (hw _ (List.mem_of_getElem? (i := 30) rfl)))) (mvT hZ (hw _ (List.mem_of_getElem? (i := 30) rfl))) (mvT hZ (hw _ (List.mem_of_getElem? (i := 29) rfl))) (by decide) (backOf (W := 0) (rmN l Z a0 hw [] ob52 (4 : Int32) (4 : Int32) T11.heap n0 Z11 Fq11_1 Fq11_2 (by decide)) hZ (hw _ (List.mem_of_getElem? (i := 31) rfl)) (hw _ (List.mem_of_getElem? (i := 4) rfl)) (by decide) (by decide)) qa12 qc12 (g := (mkF m 106 #[.val (.int p0), .val (.int p1), .val (.int p2), .val (.ref ar1), .val (.int (1 : Int32)), .val (.int (3 : Int32)), .val (.ref ob52), .val (.int (1 : Int32)), .val (.int ((((p0).toUInt32 >>> ((8 : Int32) &&& 31).toUInt32).toInt32).toInt8.toInt32 &&& (255 : Int32))), .val (.int ((((p0).toUInt32 >>> ((16 : Int32) &&& 31).toUInt32).toInt32).toInt8.toInt32 &&& (255 : Int32))), .val (.int ((((p0).toUInt32 >>> ((24 : Int32) &&& 31).toUInt32).toInt32).toInt8.toInt32 &&& (255 : Int32))), .unset, .unset, .unset] [(.ref ob52)])) rfl (by rw [hml]; rfl) (Steps.refl _) (argsL := []) (rest := []) (lenOf pd2 rfl) rfl (by show 2 * 0 + _ ≤ _; exact Nat.le_of_eq rfl) (hb hby at_106) (fun _ _ => ⟨rfl, rfl, (by decide : 2 + 0 ≤ _), (by decide : 7 + 0 ≤ _)⟩)
    dsimp only [Pt.U, Pt.locs, Pt.cells, Pt.slots] at X12 l12 y12 z12 st12 hQ12
    subst l12 y12 z12
    obtain ⟨rfl, Nq12, hh12⟩ := hQ12
    have N12 := Fr.app N11 Nq12
    refine Goes.go (fun _ kk => st12.trans kk) ?_
    show Goes _ _ _ _ _ _ _ (T12.setTop (mkF m 109 _ [(.int (-1 : Int32))]))
    refine Goes.go (fun _ kk => XS.istore X12.here hx rfl (hb hby at_109) rfl (l' := #[.val (.int p0), .val (.int p1), .val (.int p2), .val (.ref ar1), .val (.int (1 : Int32)), .val (.int (3 : Int32)), .val (.ref ob52), .val (.int (1 : Int32)), .val (.int ((((p0).toUInt32 >>> ((8 : Int32) &&& 31).toUInt32).toInt32).toInt8.toInt32 &&& (255 : Int32))), .val (.int ((((p0).toUInt32 >>> ((16 : Int32) &&& 31).toUInt32).toInt32).toInt8.toInt32 &&& (255 : Int32))), .val (.int ((((p0).toUInt32 >>> ((24 : Int32) &&& 31).toUInt32).toInt32).toInt8.toInt32 &&& (255 : Int32))), .val (.int (-1 : Int32)), .unset, .unset]) rfl kk) ?_
    show Goes _ _ _ _ _ _ _ (T12.setTop (mkF m 111 #[.val (.int p0), .val (.int p1), .val (.int p2), .val (.ref ar1), .val (.int (1 : Int32)), .val (.int (3 : Int32)), .val (.ref ob52), .val (.int (1 : Int32)), .val (.int ((((p0).toUInt32 >>> ((8 : Int32) &&& 31).toUInt32).toInt32).toInt8.toInt32 &&& (255 : Int32))), .val (.int ((((p0).toUInt32 >>> ((16 : Int32) &&& 31).toUInt32).toInt32).toInt8.toInt32 &&& (255 : Int32))), .val (.int ((((p0).toUInt32 >>> ((24 : Int32) &&& 31).toUInt32).toInt32).toInt8.toInt32 &&& (255 : Int32))), .val (.int (-1 : Int32)), .unset, .unset] []))
    refine Goes.go (fun _ kk => XS.aload X12.here hx rfl (hb hby at_111) rfl rfl kk) ?_
    show Goes _ _ _ _ _ _ _ (T12.setTop (mkF m 113 _ [(.ref ob52)]))
    obtain ⟨cq13, kq13, qa13, qb13, qc13⟩ := isOf hZ hh12 Eq11
    obtain ⟨_, _, ⟨T13, L13, k13, n13⟩, -, X13, ⟨Lc13, hQ13, l13, y13, z13⟩, st13⟩ := X12.virtualBack hx (y := (⟨"com/example/wide_schema/wideschema/io/BytesInput", "read", "()I"⟩ : MethodName)) (z := (⟨"com/example/wide_schema/wideschema/io/BytesInput", "read", "()I"⟩ : MethodName)) hown (mvT hZ (hw _ (List.mem_of_getElem? (i := 27) rfl))) (mvT hZ (hw _ (List.mem_of_getElem? (i := 28) rfl))) (notFace_of_selects (args := #[]) (mvT hZ (hw _ (List.mem_of_getElem? (i := 30) rfl)))) (mvT hZ (hw _ (List.mem_of_getElem? (i := 30) rfl))) (mvT hZ (hw _ (List.mem_of_getElem? (i := 29) rfl))) (by decide) (backOf (W := 0) (rmN l Z a0 hw [] ob52 (4 : Int32) (4 : Int32) T11.heap n0 Z11 Fq11_1 Fq11_2 (by decide)) hZ (hw _ (List.mem_of_getElem? (i := 31) rfl)) (hw _ (List.mem_of_getElem? (i := 4) rfl)) (by decide) (by decide)) qa13 qc13 (g := (mkF m 113 #[.val (.int p0), .val (.int p1), .val (.int p2), .val (.ref ar1), .val (.int (1 : Int32)), .val (.int (3 : Int32)), .val (.ref ob52), .val (.int (1 : Int32)), .val (.int ((((p0).toUInt32 >>> ((8 : Int32) &&& 31).toUInt32).toInt32).toInt8.toInt32 &&& (255 : Int32))), .val (.int ((((p0).toUInt32 >>> ((16 : Int32) &&& 31).toUInt32).toInt32).toInt8.toInt32 &&& (255 : Int32))), .val (.int ((((p0).toUInt32 >>> ((24 : Int32) &&& 31).toUInt32).toInt32).toInt8.toInt32 &&& (255 : Int32))), .val (.int (-1 : Int32)), .unset, .unset] [(.ref ob52)])) rfl (by rw [hml]; rfl) (Steps.refl _) (argsL := []) (rest := []) (lenOf pd2 rfl) rfl (by show 2 * 0 + _ ≤ _; exact Nat.le_of_eq rfl) (hb hby at_113) (fun _ _ => ⟨rfl, hh12, (by decide : 2 + 0 ≤ _), (by decide : 7 + 0 ≤ _)⟩)
    dsimp only [Pt.U, Pt.locs, Pt.cells, Pt.slots] at X13 l13 y13 z13 st13 hQ13
    subst l13 y13 z13
    obtain ⟨rfl, Nq13, hh13⟩ := hQ13
    have N13 := Fr.app N12 Nq13
    refine Goes.go (fun _ kk => st13.trans kk) ?_
    show Goes _ _ _ _ _ _ _ (T13.setTop (mkF m 116 _ [(.int (-1 : Int32))]))
    refine Goes.go (fun _ kk => XS.istore X13.here hx rfl (hb hby at_116) rfl (l' := #[.val (.int p0), .val (.int p1), .val (.int p2), .val (.ref ar1), .val (.int (1 : Int32)), .val (.int (3 : Int32)), .val (.ref ob52), .val (.int (1 : Int32)), .val (.int ((((p0).toUInt32 >>> ((8 : Int32) &&& 31).toUInt32).toInt32).toInt8.toInt32 &&& (255 : Int32))), .val (.int ((((p0).toUInt32 >>> ((16 : Int32) &&& 31).toUInt32).toInt32).toInt8.toInt32 &&& (255 : Int32))), .val (.int ((((p0).toUInt32 >>> ((24 : Int32) &&& 31).toUInt32).toInt32).toInt8.toInt32 &&& (255 : Int32))), .val (.int (-1 : Int32)), .val (.int (-1 : Int32)), .unset]) rfl kk) ?_
    show Goes _ _ _ _ _ _ _ (T13.setTop (mkF m 118 #[.val (.int p0), .val (.int p1), .val (.int p2), .val (.ref ar1), .val (.int (1 : Int32)), .val (.int (3 : Int32)), .val (.ref ob52), .val (.int (1 : Int32)), .val (.int ((((p0).toUInt32 >>> ((8 : Int32) &&& 31).toUInt32).toInt32).toInt8.toInt32 &&& (255 : Int32))), .val (.int ((((p0).toUInt32 >>> ((16 : Int32) &&& 31).toUInt32).toInt32).toInt8.toInt32 &&& (255 : Int32))), .val (.int ((((p0).toUInt32 >>> ((24 : Int32) &&& 31).toUInt32).toInt32).toInt8.toInt32 &&& (255 : Int32))), .val (.int (-1 : Int32)), .val (.int (-1 : Int32)), .unset] []))
    refine Goes.go (fun _ kk => XS.aload X13.here hx rfl (hb hby at_118) rfl rfl kk) ?_
    show Goes _ _ _ _ _ _ _ (T13.setTop (mkF m 120 _ [(.ref ob52)]))
    obtain ⟨cq14, kq14, qa14, qb14, qc14⟩ := isOf hZ hh13 Eq11
    obtain ⟨_, _, ⟨T14, L14, k14, n14⟩, -, X14, ⟨Lc14, hQ14, l14, y14, z14⟩, st14⟩ := X13.virtualBack hx (y := (⟨"com/example/wide_schema/wideschema/io/BytesInput", "read", "()I"⟩ : MethodName)) (z := (⟨"com/example/wide_schema/wideschema/io/BytesInput", "read", "()I"⟩ : MethodName)) hown (mvT hZ (hw _ (List.mem_of_getElem? (i := 27) rfl))) (mvT hZ (hw _ (List.mem_of_getElem? (i := 28) rfl))) (notFace_of_selects (args := #[]) (mvT hZ (hw _ (List.mem_of_getElem? (i := 30) rfl)))) (mvT hZ (hw _ (List.mem_of_getElem? (i := 30) rfl))) (mvT hZ (hw _ (List.mem_of_getElem? (i := 29) rfl))) (by decide) (backOf (W := 0) (rmN l Z a0 hw [] ob52 (4 : Int32) (4 : Int32) T11.heap n0 Z11 Fq11_1 Fq11_2 (by decide)) hZ (hw _ (List.mem_of_getElem? (i := 31) rfl)) (hw _ (List.mem_of_getElem? (i := 4) rfl)) (by decide) (by decide)) qa14 qc14 (g := (mkF m 120 #[.val (.int p0), .val (.int p1), .val (.int p2), .val (.ref ar1), .val (.int (1 : Int32)), .val (.int (3 : Int32)), .val (.ref ob52), .val (.int (1 : Int32)), .val (.int ((((p0).toUInt32 >>> ((8 : Int32) &&& 31).toUInt32).toInt32).toInt8.toInt32 &&& (255 : Int32))), .val (.int ((((p0).toUInt32 >>> ((16 : Int32) &&& 31).toUInt32).toInt32).toInt8.toInt32 &&& (255 : Int32))), .val (.int ((((p0).toUInt32 >>> ((24 : Int32) &&& 31).toUInt32).toInt32).toInt8.toInt32 &&& (255 : Int32))), .val (.int (-1 : Int32)), .val (.int (-1 : Int32)), .unset] [(.ref ob52)])) rfl (by rw [hml]; rfl) (Steps.refl _) (argsL := []) (rest := []) (lenOf pd2 rfl) rfl (by show 2 * 0 + _ ≤ _; exact Nat.le_of_eq rfl) (hb hby at_120) (fun _ _ => ⟨rfl, hh13, (by decide : 2 + 0 ≤ _), (by decide : 7 + 0 ≤ _)⟩)
    dsimp only [Pt.U, Pt.locs, Pt.cells, Pt.slots] at X14 l14 y14 z14 st14 hQ14
    subst l14 y14 z14
    obtain ⟨rfl, Nq14, hh14⟩ := hQ14
    have N14 := Fr.app N13 Nq14
    refine Goes.go (fun _ kk => st14.trans kk) ?_
    show Goes _ _ _ _ _ _ _ (T14.setTop (mkF m 123 _ [(.int (-1 : Int32))]))
    refine Goes.go (fun _ kk => XS.istore X14.here hx rfl (hb hby at_123) rfl (l' := #[.val (.int p0), .val (.int p1), .val (.int p2), .val (.ref ar1), .val (.int (1 : Int32)), .val (.int (3 : Int32)), .val (.ref ob52), .val (.int (1 : Int32)), .val (.int ((((p0).toUInt32 >>> ((8 : Int32) &&& 31).toUInt32).toInt32).toInt8.toInt32 &&& (255 : Int32))), .val (.int ((((p0).toUInt32 >>> ((16 : Int32) &&& 31).toUInt32).toInt32).toInt8.toInt32 &&& (255 : Int32))), .val (.int ((((p0).toUInt32 >>> ((24 : Int32) &&& 31).toUInt32).toInt32).toInt8.toInt32 &&& (255 : Int32))), .val (.int (-1 : Int32)), .val (.int (-1 : Int32)), .val (.int (-1 : Int32))]) rfl kk) ?_
    show Goes _ _ _ _ _ _ _ (T14.setTop (mkF m 125 #[.val (.int p0), .val (.int p1), .val (.int p2), .val (.ref ar1), .val (.int (1 : Int32)), .val (.int (3 : Int32)), .val (.ref ob52), .val (.int (1 : Int32)), .val (.int ((((p0).toUInt32 >>> ((8 : Int32) &&& 31).toUInt32).toInt32).toInt8.toInt32 &&& (255 : Int32))), .val (.int ((((p0).toUInt32 >>> ((16 : Int32) &&& 31).toUInt32).toInt32).toInt8.toInt32 &&& (255 : Int32))), .val (.int ((((p0).toUInt32 >>> ((24 : Int32) &&& 31).toUInt32).toInt32).toInt8.toInt32 &&& (255 : Int32))), .val (.int (-1 : Int32)), .val (.int (-1 : Int32)), .val (.int (-1 : Int32))] []))
    refine Goes.go (fun _ kk => XS.iload X14.here hx rfl (hb hby at_125) rfl kk) ?_
    show Goes _ _ _ _ _ _ _ (T14.setTop (mkF m 127 _ [(.int (1 : Int32))]))
    refine Goes.go (fun _ kk => XS.ifNo X14.here hx rfl (hb hby at_127) rfl (XT.i0_eq_f (by decide)) kk) ?_
    show Goes _ _ _ _ _ _ _ (T14.setTop (mkF m 130 _ []))
    refine Goes.go (fun _ kk => XS.iload X14.here hx rfl (hb hby at_130) rfl kk) ?_
    show Goes _ _ _ _ _ _ _ (T14.setTop (mkF m 132 _ [(.int ((((p0).toUInt32 >>> ((8 : Int32) &&& 31).toUInt32).toInt32).toInt8.toInt32 &&& (255 : Int32)))]))
    refine Goes.go (fun _ kk => XS.iloadN X14.here hx rfl (hb hby at_132) rfl kk) ?_
    show Goes _ _ _ _ _ _ _ (T14.setTop (mkF m 133 _ [(.int p0), (.int ((((p0).toUInt32 >>> ((8 : Int32) &&& 31).toUInt32).toInt32).toInt8.toInt32 &&& (255 : Int32)))]))
    refine Goes.go (fun _ kk => XS.iload X14.here hx rfl (hb hby at_133) rfl kk) ?_
    show Goes _ _ _ _ _ _ _ (T14.setTop (mkF m 135 _ [(.int (1 : Int32)), (.int p0), (.int ((((p0).toUInt32 >>> ((8 : Int32) &&& 31).toUInt32).toInt32).toInt8.toInt32 &&& (255 : Int32)))]))
    refine Goes.go (fun _ kk => XS.iload X14.here hx rfl (hb hby at_135) rfl kk) ?_
    show Goes _ _ _ _ _ _ _ (T14.setTop (mkF m 137 _ [(.int (3 : Int32)), (.int (1 : Int32)), (.int p0), (.int ((((p0).toUInt32 >>> ((8 : Int32) &&& 31).toUInt32).toInt32).toInt8.toInt32 &&& (255 : Int32)))]))
    refine Goes.go (fun _ kk => XS.iconst X14.here hx rfl (hb hby at_137) kk) ?_
    show Goes _ _ _ _ _ _ _ (T14.setTop (mkF m 138 _ [(.int (0 : Int32)), (.int (3 : Int32)), (.int (1 : Int32)), (.int p0), (.int ((((p0).toUInt32 >>> ((8 : Int32) &&& 31).toUInt32).toInt32).toInt8.toInt32 &&& (255 : Int32)))]))
    obtain ⟨_, _, ⟨T15, L15, k15, n15⟩, -, X15, ⟨Lc15, hQ15, l15, y15, z15⟩, st15⟩ := Jvm.LawKit.callS X14 hx (y := (⟨"com/example/wide_schema/wideschema/io/BytesInputReadPinLaw", "exp", "(IIII)I"⟩ : MethodName)) hown (mvT hZ (hw _ (List.mem_of_getElem? (i := 32) rfl))) (mvT hZ (hw _ (List.mem_of_getElem? (i := 33) rfl))) (mvT hZ (hw _ (List.mem_of_getElem? (i := 34) rfl))) (mvT hZ (hw _ (List.mem_of_getElem? (i := 35) rfl))) (by decide) (backOf (W := 1) (rm5 l Z a0 hw [] p0 (1 : Int32) (3 : Int32) (0 : Int32) T11.heap n0 Z11) hZ (hw _ (List.mem_of_getElem? (i := 35) rfl)) (hw _ (List.mem_of_getElem? (i := 34) rfl)) (by decide) (by decide)) (g := (mkF m 138 #[.val (.int p0), .val (.int p1), .val (.int p2), .val (.ref ar1), .val (.int (1 : Int32)), .val (.int (3 : Int32)), .val (.ref ob52), .val (.int (1 : Int32)), .val (.int ((((p0).toUInt32 >>> ((8 : Int32) &&& 31).toUInt32).toInt32).toInt8.toInt32 &&& (255 : Int32))), .val (.int ((((p0).toUInt32 >>> ((16 : Int32) &&& 31).toUInt32).toInt32).toInt8.toInt32 &&& (255 : Int32))), .val (.int ((((p0).toUInt32 >>> ((24 : Int32) &&& 31).toUInt32).toInt32).toInt8.toInt32 &&& (255 : Int32))), .val (.int (-1 : Int32)), .val (.int (-1 : Int32)), .val (.int (-1 : Int32))] [(.int (0 : Int32)), (.int (3 : Int32)), (.int (1 : Int32)), (.int p0), (.int ((((p0).toUInt32 >>> ((8 : Int32) &&& 31).toUInt32).toInt32).toInt8.toInt32 &&& (255 : Int32)))])) rfl (by rw [hml]; rfl) (argsL := [(.int p0), (.int (1 : Int32)), (.int (3 : Int32)), (.int (0 : Int32))]) (rest := [(.int ((((p0).toUInt32 >>> ((8 : Int32) &&& 31).toUInt32).toInt32).toInt8.toInt32 &&& (255 : Int32)))]) (lenOf pd3 rfl) rfl (by show 2 * 0 + _ ≤ _; exact Nat.le_of_eq rfl) (hb hby at_138) (fun _ _ => ⟨rfl, hh14, (by decide : 2 + 0 ≤ _), (by decide : 7 + 0 ≤ _)⟩)
    dsimp only [Pt.U, Pt.locs, Pt.cells, Pt.slots] at X15 l15 y15 z15 st15 hQ15
    subst l15 y15 z15
    obtain ⟨rfl, Nq15, hh15⟩ := hQ15
    have N15 := Fr.app N14 Nq15
    refine Goes.go (st15) ?_
    show Goes _ _ _ _ _ _ _ (T15.setTop (mkF m 141 _ [(.int (exF p0 (1 : Int32) (3 : Int32) (0 : Int32))), (.int ((((p0).toUInt32 >>> ((8 : Int32) &&& 31).toUInt32).toInt32).toInt8.toInt32 &&& (255 : Int32)))]))
    refine Goes.go (fun _ kk => XS.icmpNo X15.here hx rfl (hb hby at_141) rfl (XT.ii_ne_f (own_n (8 : Int32) (by decide) (by decide))) kk) ?_
    show Goes _ _ _ _ _ _ _ (T15.setTop (mkF m 144 _ []))
    refine Goes.go (fun _ kk => XS.iconst X15.here hx rfl (hb hby at_144) kk) ?_
    show Goes _ _ _ _ _ _ _ (T15.setTop (mkF m 145 _ [(.int (1 : Int32))]))
    refine Goes.go (fun _ kk => XS.goto X15.here hx rfl (pc0 := 145) (pc' := 149) rfl (hb hby at_145) (by decide) (by decide) kk) ?_
    show Goes _ _ _ _ _ _ _ (T15.setTop (mkF m 149 _ [(.int (1 : Int32))]))
    refine Goes.go (fun _ kk => XS.istore X15.here hx rfl (hb hby at_149) rfl (l' := #[.val (.int p0), .val (.int p1), .val (.int p2), .val (.ref ar1), .val (.int (1 : Int32)), .val (.int (3 : Int32)), .val (.ref ob52), .val (.int (1 : Int32)), .val (.int ((((p0).toUInt32 >>> ((8 : Int32) &&& 31).toUInt32).toInt32).toInt8.toInt32 &&& (255 : Int32))), .val (.int ((((p0).toUInt32 >>> ((16 : Int32) &&& 31).toUInt32).toInt32).toInt8.toInt32 &&& (255 : Int32))), .val (.int ((((p0).toUInt32 >>> ((24 : Int32) &&& 31).toUInt32).toInt32).toInt8.toInt32 &&& (255 : Int32))), .val (.int (-1 : Int32)), .val (.int (-1 : Int32)), .val (.int (-1 : Int32))]) rfl kk) ?_
    show Goes _ _ _ _ _ _ _ (T15.setTop (mkF m 151 _ []))
    refine Goes.go (fun _ kk => XS.iload X15.here hx rfl (hb hby at_151) rfl kk) ?_
    show Goes _ _ _ _ _ _ _ (T15.setTop (mkF m 153 _ [(.int (1 : Int32))]))
    refine Goes.go (fun _ kk => XS.ifNo X15.here hx rfl (hb hby at_153) rfl (XT.i0_eq_f (by decide)) kk) ?_
    show Goes _ _ _ _ _ _ _ (T15.setTop (mkF m 156 _ []))
    refine Goes.go (fun _ kk => XS.iload X15.here hx rfl (hb hby at_156) rfl kk) ?_
    show Goes _ _ _ _ _ _ _ (T15.setTop (mkF m 158 _ [(.int ((((p0).toUInt32 >>> ((16 : Int32) &&& 31).toUInt32).toInt32).toInt8.toInt32 &&& (255 : Int32)))]))
    refine Goes.go (fun _ kk => XS.iloadN X15.here hx rfl (hb hby at_158) rfl kk) ?_
    show Goes _ _ _ _ _ _ _ (T15.setTop (mkF m 159 _ [(.int p0), (.int ((((p0).toUInt32 >>> ((16 : Int32) &&& 31).toUInt32).toInt32).toInt8.toInt32 &&& (255 : Int32)))]))
    refine Goes.go (fun _ kk => XS.iload X15.here hx rfl (hb hby at_159) rfl kk) ?_
    show Goes _ _ _ _ _ _ _ (T15.setTop (mkF m 161 _ [(.int (1 : Int32)), (.int p0), (.int ((((p0).toUInt32 >>> ((16 : Int32) &&& 31).toUInt32).toInt32).toInt8.toInt32 &&& (255 : Int32)))]))
    refine Goes.go (fun _ kk => XS.iload X15.here hx rfl (hb hby at_161) rfl kk) ?_
    show Goes _ _ _ _ _ _ _ (T15.setTop (mkF m 163 _ [(.int (3 : Int32)), (.int (1 : Int32)), (.int p0), (.int ((((p0).toUInt32 >>> ((16 : Int32) &&& 31).toUInt32).toInt32).toInt8.toInt32 &&& (255 : Int32)))]))
    refine Goes.go (fun _ kk => XS.iconst X15.here hx rfl (hb hby at_163) kk) ?_
    show Goes _ _ _ _ _ _ _ (T15.setTop (mkF m 164 _ [(.int (1 : Int32)), (.int (3 : Int32)), (.int (1 : Int32)), (.int p0), (.int ((((p0).toUInt32 >>> ((16 : Int32) &&& 31).toUInt32).toInt32).toInt8.toInt32 &&& (255 : Int32)))]))
    obtain ⟨_, _, ⟨T16, L16, k16, n16⟩, -, X16, ⟨Lc16, hQ16, l16, y16, z16⟩, st16⟩ := Jvm.LawKit.callS X15 hx (y := (⟨"com/example/wide_schema/wideschema/io/BytesInputReadPinLaw", "exp", "(IIII)I"⟩ : MethodName)) hown (mvT hZ (hw _ (List.mem_of_getElem? (i := 32) rfl))) (mvT hZ (hw _ (List.mem_of_getElem? (i := 33) rfl))) (mvT hZ (hw _ (List.mem_of_getElem? (i := 34) rfl))) (mvT hZ (hw _ (List.mem_of_getElem? (i := 35) rfl))) (by decide) (backOf (W := 1) (rm5 l Z a0 hw [] p0 (1 : Int32) (3 : Int32) (1 : Int32) T11.heap n0 Z11) hZ (hw _ (List.mem_of_getElem? (i := 35) rfl)) (hw _ (List.mem_of_getElem? (i := 34) rfl)) (by decide) (by decide)) (g := (mkF m 164 #[.val (.int p0), .val (.int p1), .val (.int p2), .val (.ref ar1), .val (.int (1 : Int32)), .val (.int (3 : Int32)), .val (.ref ob52), .val (.int (1 : Int32)), .val (.int ((((p0).toUInt32 >>> ((8 : Int32) &&& 31).toUInt32).toInt32).toInt8.toInt32 &&& (255 : Int32))), .val (.int ((((p0).toUInt32 >>> ((16 : Int32) &&& 31).toUInt32).toInt32).toInt8.toInt32 &&& (255 : Int32))), .val (.int ((((p0).toUInt32 >>> ((24 : Int32) &&& 31).toUInt32).toInt32).toInt8.toInt32 &&& (255 : Int32))), .val (.int (-1 : Int32)), .val (.int (-1 : Int32)), .val (.int (-1 : Int32))] [(.int (1 : Int32)), (.int (3 : Int32)), (.int (1 : Int32)), (.int p0), (.int ((((p0).toUInt32 >>> ((16 : Int32) &&& 31).toUInt32).toInt32).toInt8.toInt32 &&& (255 : Int32)))])) rfl (by rw [hml]; rfl) (argsL := [(.int p0), (.int (1 : Int32)), (.int (3 : Int32)), (.int (1 : Int32))]) (rest := [(.int ((((p0).toUInt32 >>> ((16 : Int32) &&& 31).toUInt32).toInt32).toInt8.toInt32 &&& (255 : Int32)))]) (lenOf pd3 rfl) rfl (by show 2 * 0 + _ ≤ _; exact Nat.le_of_eq rfl) (hb hby at_164) (fun _ _ => ⟨rfl, hh15, (by decide : 2 + 0 ≤ _), (by decide : 7 + 0 ≤ _)⟩)
    dsimp only [Pt.U, Pt.locs, Pt.cells, Pt.slots] at X16 l16 y16 z16 st16 hQ16
    subst l16 y16 z16
    obtain ⟨rfl, Nq16, hh16⟩ := hQ16
    have N16 := Fr.app N15 Nq16
    refine Goes.go (st16) ?_
    show Goes _ _ _ _ _ _ _ (T16.setTop (mkF m 167 _ [(.int (exF p0 (1 : Int32) (3 : Int32) (1 : Int32))), (.int ((((p0).toUInt32 >>> ((16 : Int32) &&& 31).toUInt32).toInt32).toInt8.toInt32 &&& (255 : Int32)))]))
    refine Goes.go (fun _ kk => XS.icmpNo X16.here hx rfl (hb hby at_167) rfl (XT.ii_ne_f (own_n (16 : Int32) (by decide) (by decide))) kk) ?_
    show Goes _ _ _ _ _ _ _ (T16.setTop (mkF m 170 _ []))
    refine Goes.go (fun _ kk => XS.iconst X16.here hx rfl (hb hby at_170) kk) ?_
    show Goes _ _ _ _ _ _ _ (T16.setTop (mkF m 171 _ [(.int (1 : Int32))]))
    refine Goes.go (fun _ kk => XS.goto X16.here hx rfl (pc0 := 171) (pc' := 175) rfl (hb hby at_171) (by decide) (by decide) kk) ?_
    show Goes _ _ _ _ _ _ _ (T16.setTop (mkF m 175 _ [(.int (1 : Int32))]))
    refine Goes.go (fun _ kk => XS.istore X16.here hx rfl (hb hby at_175) rfl (l' := #[.val (.int p0), .val (.int p1), .val (.int p2), .val (.ref ar1), .val (.int (1 : Int32)), .val (.int (3 : Int32)), .val (.ref ob52), .val (.int (1 : Int32)), .val (.int ((((p0).toUInt32 >>> ((8 : Int32) &&& 31).toUInt32).toInt32).toInt8.toInt32 &&& (255 : Int32))), .val (.int ((((p0).toUInt32 >>> ((16 : Int32) &&& 31).toUInt32).toInt32).toInt8.toInt32 &&& (255 : Int32))), .val (.int ((((p0).toUInt32 >>> ((24 : Int32) &&& 31).toUInt32).toInt32).toInt8.toInt32 &&& (255 : Int32))), .val (.int (-1 : Int32)), .val (.int (-1 : Int32)), .val (.int (-1 : Int32))]) rfl kk) ?_
    show Goes _ _ _ _ _ _ _ (T16.setTop (mkF m 177 _ []))
    refine Goes.go (fun _ kk => XS.iload X16.here hx rfl (hb hby at_177) rfl kk) ?_
    show Goes _ _ _ _ _ _ _ (T16.setTop (mkF m 179 _ [(.int (1 : Int32))]))
    refine Goes.go (fun _ kk => XS.ifNo X16.here hx rfl (hb hby at_179) rfl (XT.i0_eq_f (by decide)) kk) ?_
    show Goes _ _ _ _ _ _ _ (T16.setTop (mkF m 182 _ []))
    refine Goes.go (fun _ kk => XS.iload X16.here hx rfl (hb hby at_182) rfl kk) ?_
    show Goes _ _ _ _ _ _ _ (T16.setTop (mkF m 184 _ [(.int ((((p0).toUInt32 >>> ((24 : Int32) &&& 31).toUInt32).toInt32).toInt8.toInt32 &&& (255 : Int32)))]))
    refine Goes.go (fun _ kk => XS.iloadN X16.here hx rfl (hb hby at_184) rfl kk) ?_
    show Goes _ _ _ _ _ _ _ (T16.setTop (mkF m 185 _ [(.int p0), (.int ((((p0).toUInt32 >>> ((24 : Int32) &&& 31).toUInt32).toInt32).toInt8.toInt32 &&& (255 : Int32)))]))
    refine Goes.go (fun _ kk => XS.iload X16.here hx rfl (hb hby at_185) rfl kk) ?_
    show Goes _ _ _ _ _ _ _ (T16.setTop (mkF m 187 _ [(.int (1 : Int32)), (.int p0), (.int ((((p0).toUInt32 >>> ((24 : Int32) &&& 31).toUInt32).toInt32).toInt8.toInt32 &&& (255 : Int32)))]))
    refine Goes.go (fun _ kk => XS.iload X16.here hx rfl (hb hby at_187) rfl kk) ?_
    show Goes _ _ _ _ _ _ _ (T16.setTop (mkF m 189 _ [(.int (3 : Int32)), (.int (1 : Int32)), (.int p0), (.int ((((p0).toUInt32 >>> ((24 : Int32) &&& 31).toUInt32).toInt32).toInt8.toInt32 &&& (255 : Int32)))]))
    refine Goes.go (fun _ kk => XS.iconst X16.here hx rfl (hb hby at_189) kk) ?_
    show Goes _ _ _ _ _ _ _ (T16.setTop (mkF m 190 _ [(.int (2 : Int32)), (.int (3 : Int32)), (.int (1 : Int32)), (.int p0), (.int ((((p0).toUInt32 >>> ((24 : Int32) &&& 31).toUInt32).toInt32).toInt8.toInt32 &&& (255 : Int32)))]))
    obtain ⟨_, _, ⟨T17, L17, k17, n17⟩, -, X17, ⟨Lc17, hQ17, l17, y17, z17⟩, st17⟩ := Jvm.LawKit.callS X16 hx (y := (⟨"com/example/wide_schema/wideschema/io/BytesInputReadPinLaw", "exp", "(IIII)I"⟩ : MethodName)) hown (mvT hZ (hw _ (List.mem_of_getElem? (i := 32) rfl))) (mvT hZ (hw _ (List.mem_of_getElem? (i := 33) rfl))) (mvT hZ (hw _ (List.mem_of_getElem? (i := 34) rfl))) (mvT hZ (hw _ (List.mem_of_getElem? (i := 35) rfl))) (by decide) (backOf (W := 1) (rm5 l Z a0 hw [] p0 (1 : Int32) (3 : Int32) (2 : Int32) T11.heap n0 Z11) hZ (hw _ (List.mem_of_getElem? (i := 35) rfl)) (hw _ (List.mem_of_getElem? (i := 34) rfl)) (by decide) (by decide)) (g := (mkF m 190 #[.val (.int p0), .val (.int p1), .val (.int p2), .val (.ref ar1), .val (.int (1 : Int32)), .val (.int (3 : Int32)), .val (.ref ob52), .val (.int (1 : Int32)), .val (.int ((((p0).toUInt32 >>> ((8 : Int32) &&& 31).toUInt32).toInt32).toInt8.toInt32 &&& (255 : Int32))), .val (.int ((((p0).toUInt32 >>> ((16 : Int32) &&& 31).toUInt32).toInt32).toInt8.toInt32 &&& (255 : Int32))), .val (.int ((((p0).toUInt32 >>> ((24 : Int32) &&& 31).toUInt32).toInt32).toInt8.toInt32 &&& (255 : Int32))), .val (.int (-1 : Int32)), .val (.int (-1 : Int32)), .val (.int (-1 : Int32))] [(.int (2 : Int32)), (.int (3 : Int32)), (.int (1 : Int32)), (.int p0), (.int ((((p0).toUInt32 >>> ((24 : Int32) &&& 31).toUInt32).toInt32).toInt8.toInt32 &&& (255 : Int32)))])) rfl (by rw [hml]; rfl) (argsL := [(.int p0), (.int (1 : Int32)), (.int (3 : Int32)), (.int (2 : Int32))]) (rest := [(.int ((((p0).toUInt32 >>> ((24 : Int32) &&& 31).toUInt32).toInt32).toInt8.toInt32 &&& (255 : Int32)))]) (lenOf pd3 rfl) rfl (by show 2 * 0 + _ ≤ _; exact Nat.le_of_eq rfl) (hb hby at_190) (fun _ _ => ⟨rfl, hh16, (by decide : 2 + 0 ≤ _), (by decide : 7 + 0 ≤ _)⟩)
    dsimp only [Pt.U, Pt.locs, Pt.cells, Pt.slots] at X17 l17 y17 z17 st17 hQ17
    subst l17 y17 z17
    obtain ⟨rfl, Nq17, hh17⟩ := hQ17
    have N17 := Fr.app N16 Nq17
    refine Goes.go (st17) ?_
    show Goes _ _ _ _ _ _ _ (T17.setTop (mkF m 193 _ [(.int (exF p0 (1 : Int32) (3 : Int32) (2 : Int32))), (.int ((((p0).toUInt32 >>> ((24 : Int32) &&& 31).toUInt32).toInt32).toInt8.toInt32 &&& (255 : Int32)))]))
    refine Goes.go (fun _ kk => XS.icmpNo X17.here hx rfl (hb hby at_193) rfl (XT.ii_ne_f (own_n (24 : Int32) (by decide) (by decide))) kk) ?_
    show Goes _ _ _ _ _ _ _ (T17.setTop (mkF m 196 _ []))
    refine Goes.go (fun _ kk => XS.iconst X17.here hx rfl (hb hby at_196) kk) ?_
    show Goes _ _ _ _ _ _ _ (T17.setTop (mkF m 197 _ [(.int (1 : Int32))]))
    refine Goes.go (fun _ kk => XS.goto X17.here hx rfl (pc0 := 197) (pc' := 201) rfl (hb hby at_197) (by decide) (by decide) kk) ?_
    show Goes _ _ _ _ _ _ _ (T17.setTop (mkF m 201 _ [(.int (1 : Int32))]))
    refine Goes.go (fun _ kk => XS.istore X17.here hx rfl (hb hby at_201) rfl (l' := #[.val (.int p0), .val (.int p1), .val (.int p2), .val (.ref ar1), .val (.int (1 : Int32)), .val (.int (3 : Int32)), .val (.ref ob52), .val (.int (1 : Int32)), .val (.int ((((p0).toUInt32 >>> ((8 : Int32) &&& 31).toUInt32).toInt32).toInt8.toInt32 &&& (255 : Int32))), .val (.int ((((p0).toUInt32 >>> ((16 : Int32) &&& 31).toUInt32).toInt32).toInt8.toInt32 &&& (255 : Int32))), .val (.int ((((p0).toUInt32 >>> ((24 : Int32) &&& 31).toUInt32).toInt32).toInt8.toInt32 &&& (255 : Int32))), .val (.int (-1 : Int32)), .val (.int (-1 : Int32)), .val (.int (-1 : Int32))]) rfl kk) ?_
    show Goes _ _ _ _ _ _ _ (T17.setTop (mkF m 203 _ []))
    refine Goes.go (fun _ kk => XS.iload X17.here hx rfl (hb hby at_203) rfl kk) ?_
    show Goes _ _ _ _ _ _ _ (T17.setTop (mkF m 205 _ [(.int (1 : Int32))]))
    refine Goes.go (fun _ kk => XS.ifNo X17.here hx rfl (hb hby at_205) rfl (XT.i0_eq_f (by decide)) kk) ?_
    show Goes _ _ _ _ _ _ _ (T17.setTop (mkF m 208 _ []))
    refine Goes.go (fun _ kk => XS.iload X17.here hx rfl (hb hby at_208) rfl kk) ?_
    show Goes _ _ _ _ _ _ _ (T17.setTop (mkF m 210 _ [(.int (-1 : Int32))]))
    refine Goes.go (fun _ kk => XS.iloadN X17.here hx rfl (hb hby at_210) rfl kk) ?_
    show Goes _ _ _ _ _ _ _ (T17.setTop (mkF m 211 _ [(.int p0), (.int (-1 : Int32))]))
    refine Goes.go (fun _ kk => XS.iload X17.here hx rfl (hb hby at_211) rfl kk) ?_
    show Goes _ _ _ _ _ _ _ (T17.setTop (mkF m 213 _ [(.int (1 : Int32)), (.int p0), (.int (-1 : Int32))]))
    refine Goes.go (fun _ kk => XS.iload X17.here hx rfl (hb hby at_213) rfl kk) ?_
    show Goes _ _ _ _ _ _ _ (T17.setTop (mkF m 215 _ [(.int (3 : Int32)), (.int (1 : Int32)), (.int p0), (.int (-1 : Int32))]))
    refine Goes.go (fun _ kk => XS.iconst X17.here hx rfl (hb hby at_215) kk) ?_
    show Goes _ _ _ _ _ _ _ (T17.setTop (mkF m 216 _ [(.int (3 : Int32)), (.int (3 : Int32)), (.int (1 : Int32)), (.int p0), (.int (-1 : Int32))]))
    obtain ⟨_, _, ⟨T18, L18, k18, n18⟩, -, X18, ⟨Lc18, hQ18, l18, y18, z18⟩, st18⟩ := Jvm.LawKit.callS X17 hx (y := (⟨"com/example/wide_schema/wideschema/io/BytesInputReadPinLaw", "exp", "(IIII)I"⟩ : MethodName)) hown (mvT hZ (hw _ (List.mem_of_getElem? (i := 32) rfl))) (mvT hZ (hw _ (List.mem_of_getElem? (i := 33) rfl))) (mvT hZ (hw _ (List.mem_of_getElem? (i := 34) rfl))) (mvT hZ (hw _ (List.mem_of_getElem? (i := 35) rfl))) (by decide) (backOf (W := 1) (rm5 l Z a0 hw [] p0 (1 : Int32) (3 : Int32) (3 : Int32) T11.heap n0 Z11) hZ (hw _ (List.mem_of_getElem? (i := 35) rfl)) (hw _ (List.mem_of_getElem? (i := 34) rfl)) (by decide) (by decide)) (g := (mkF m 216 #[.val (.int p0), .val (.int p1), .val (.int p2), .val (.ref ar1), .val (.int (1 : Int32)), .val (.int (3 : Int32)), .val (.ref ob52), .val (.int (1 : Int32)), .val (.int ((((p0).toUInt32 >>> ((8 : Int32) &&& 31).toUInt32).toInt32).toInt8.toInt32 &&& (255 : Int32))), .val (.int ((((p0).toUInt32 >>> ((16 : Int32) &&& 31).toUInt32).toInt32).toInt8.toInt32 &&& (255 : Int32))), .val (.int ((((p0).toUInt32 >>> ((24 : Int32) &&& 31).toUInt32).toInt32).toInt8.toInt32 &&& (255 : Int32))), .val (.int (-1 : Int32)), .val (.int (-1 : Int32)), .val (.int (-1 : Int32))] [(.int (3 : Int32)), (.int (3 : Int32)), (.int (1 : Int32)), (.int p0), (.int (-1 : Int32))])) rfl (by rw [hml]; rfl) (argsL := [(.int p0), (.int (1 : Int32)), (.int (3 : Int32)), (.int (3 : Int32))]) (rest := [(.int (-1 : Int32))]) (lenOf pd3 rfl) rfl (by show 2 * 0 + _ ≤ _; exact Nat.le_of_eq rfl) (hb hby at_216) (fun _ _ => ⟨rfl, hh17, (by decide : 2 + 0 ≤ _), (by decide : 7 + 0 ≤ _)⟩)
    dsimp only [Pt.U, Pt.locs, Pt.cells, Pt.slots] at X18 l18 y18 z18 st18 hQ18
    subst l18 y18 z18
    obtain ⟨rfl, Nq18, hh18⟩ := hQ18
    have N18 := Fr.app N17 Nq18
    refine Goes.go (st18) ?_
    show Goes _ _ _ _ _ _ _ (T18.setTop (mkF m 219 _ [(.int (exF p0 (1 : Int32) (3 : Int32) (3 : Int32))), (.int (-1 : Int32))]))
    refine Goes.go (fun _ kk => XS.icmpNo X18.here hx rfl (hb hby at_219) rfl (XT.ii_ne_f (own_m (by decide))) kk) ?_
    show Goes _ _ _ _ _ _ _ (T18.setTop (mkF m 222 _ []))
    refine Goes.go (fun _ kk => XS.iconst X18.here hx rfl (hb hby at_222) kk) ?_
    show Goes _ _ _ _ _ _ _ (T18.setTop (mkF m 223 _ [(.int (1 : Int32))]))
    refine Goes.go (fun _ kk => XS.goto X18.here hx rfl (pc0 := 223) (pc' := 227) rfl (hb hby at_223) (by decide) (by decide) kk) ?_
    show Goes _ _ _ _ _ _ _ (T18.setTop (mkF m 227 _ [(.int (1 : Int32))]))
    refine Goes.go (fun _ kk => XS.istore X18.here hx rfl (hb hby at_227) rfl (l' := #[.val (.int p0), .val (.int p1), .val (.int p2), .val (.ref ar1), .val (.int (1 : Int32)), .val (.int (3 : Int32)), .val (.ref ob52), .val (.int (1 : Int32)), .val (.int ((((p0).toUInt32 >>> ((8 : Int32) &&& 31).toUInt32).toInt32).toInt8.toInt32 &&& (255 : Int32))), .val (.int ((((p0).toUInt32 >>> ((16 : Int32) &&& 31).toUInt32).toInt32).toInt8.toInt32 &&& (255 : Int32))), .val (.int ((((p0).toUInt32 >>> ((24 : Int32) &&& 31).toUInt32).toInt32).toInt8.toInt32 &&& (255 : Int32))), .val (.int (-1 : Int32)), .val (.int (-1 : Int32)), .val (.int (-1 : Int32))]) rfl kk) ?_
    show Goes _ _ _ _ _ _ _ (T18.setTop (mkF m 229 _ []))
    refine Goes.go (fun _ kk => XS.iload X18.here hx rfl (hb hby at_229) rfl kk) ?_
    show Goes _ _ _ _ _ _ _ (T18.setTop (mkF m 231 _ [(.int (1 : Int32))]))
    refine Goes.go (fun _ kk => XS.ifNo X18.here hx rfl (hb hby at_231) rfl (XT.i0_eq_f (by decide)) kk) ?_
    show Goes _ _ _ _ _ _ _ (T18.setTop (mkF m 234 _ []))
    refine Goes.go (fun _ kk => XS.iload X18.here hx rfl (hb hby at_234) rfl kk) ?_
    show Goes _ _ _ _ _ _ _ (T18.setTop (mkF m 236 _ [(.int (-1 : Int32))]))
    refine Goes.go (fun _ kk => XS.iloadN X18.here hx rfl (hb hby at_236) rfl kk) ?_
    show Goes _ _ _ _ _ _ _ (T18.setTop (mkF m 237 _ [(.int p0), (.int (-1 : Int32))]))
    refine Goes.go (fun _ kk => XS.iload X18.here hx rfl (hb hby at_237) rfl kk) ?_
    show Goes _ _ _ _ _ _ _ (T18.setTop (mkF m 239 _ [(.int (1 : Int32)), (.int p0), (.int (-1 : Int32))]))
    refine Goes.go (fun _ kk => XS.iload X18.here hx rfl (hb hby at_239) rfl kk) ?_
    show Goes _ _ _ _ _ _ _ (T18.setTop (mkF m 241 _ [(.int (3 : Int32)), (.int (1 : Int32)), (.int p0), (.int (-1 : Int32))]))
    refine Goes.go (fun _ kk => XS.iconst X18.here hx rfl (hb hby at_241) kk) ?_
    show Goes _ _ _ _ _ _ _ (T18.setTop (mkF m 242 _ [(.int (4 : Int32)), (.int (3 : Int32)), (.int (1 : Int32)), (.int p0), (.int (-1 : Int32))]))
    obtain ⟨_, _, ⟨T19, L19, k19, n19⟩, -, X19, ⟨Lc19, hQ19, l19, y19, z19⟩, st19⟩ := Jvm.LawKit.callS X18 hx (y := (⟨"com/example/wide_schema/wideschema/io/BytesInputReadPinLaw", "exp", "(IIII)I"⟩ : MethodName)) hown (mvT hZ (hw _ (List.mem_of_getElem? (i := 32) rfl))) (mvT hZ (hw _ (List.mem_of_getElem? (i := 33) rfl))) (mvT hZ (hw _ (List.mem_of_getElem? (i := 34) rfl))) (mvT hZ (hw _ (List.mem_of_getElem? (i := 35) rfl))) (by decide) (backOf (W := 1) (rm5 l Z a0 hw [] p0 (1 : Int32) (3 : Int32) (4 : Int32) T11.heap n0 Z11) hZ (hw _ (List.mem_of_getElem? (i := 35) rfl)) (hw _ (List.mem_of_getElem? (i := 34) rfl)) (by decide) (by decide)) (g := (mkF m 242 #[.val (.int p0), .val (.int p1), .val (.int p2), .val (.ref ar1), .val (.int (1 : Int32)), .val (.int (3 : Int32)), .val (.ref ob52), .val (.int (1 : Int32)), .val (.int ((((p0).toUInt32 >>> ((8 : Int32) &&& 31).toUInt32).toInt32).toInt8.toInt32 &&& (255 : Int32))), .val (.int ((((p0).toUInt32 >>> ((16 : Int32) &&& 31).toUInt32).toInt32).toInt8.toInt32 &&& (255 : Int32))), .val (.int ((((p0).toUInt32 >>> ((24 : Int32) &&& 31).toUInt32).toInt32).toInt8.toInt32 &&& (255 : Int32))), .val (.int (-1 : Int32)), .val (.int (-1 : Int32)), .val (.int (-1 : Int32))] [(.int (4 : Int32)), (.int (3 : Int32)), (.int (1 : Int32)), (.int p0), (.int (-1 : Int32))])) rfl (by rw [hml]; rfl) (argsL := [(.int p0), (.int (1 : Int32)), (.int (3 : Int32)), (.int (4 : Int32))]) (rest := [(.int (-1 : Int32))]) (lenOf pd3 rfl) rfl (by show 2 * 0 + _ ≤ _; exact Nat.le_of_eq rfl) (hb hby at_242) (fun _ _ => ⟨rfl, hh18, (by decide : 2 + 0 ≤ _), (by decide : 7 + 0 ≤ _)⟩)
    dsimp only [Pt.U, Pt.locs, Pt.cells, Pt.slots] at X19 l19 y19 z19 st19 hQ19
    subst l19 y19 z19
    obtain ⟨rfl, Nq19, hh19⟩ := hQ19
    have N19 := Fr.app N18 Nq19
    refine Goes.go (st19) ?_
    show Goes _ _ _ _ _ _ _ (T19.setTop (mkF m 245 _ [(.int (exF p0 (1 : Int32) (3 : Int32) (4 : Int32))), (.int (-1 : Int32))]))
    refine Goes.go (fun _ kk => XS.icmpNo X19.here hx rfl (hb hby at_245) rfl (XT.ii_ne_f (own_m (by decide))) kk) ?_
    show Goes _ _ _ _ _ _ _ (T19.setTop (mkF m 248 _ []))
    refine Goes.go (fun _ kk => XS.iconst X19.here hx rfl (hb hby at_248) kk) ?_
    show Goes _ _ _ _ _ _ _ (T19.setTop (mkF m 249 _ [(.int (1 : Int32))]))
    refine Goes.go (fun _ kk => XS.goto X19.here hx rfl (pc0 := 249) (pc' := 253) rfl (hb hby at_249) (by decide) (by decide) kk) ?_
    show Goes _ _ _ _ _ _ _ (T19.setTop (mkF m 253 _ [(.int (1 : Int32))]))
    refine Goes.go (fun _ kk => XS.istore X19.here hx rfl (hb hby at_253) rfl (l' := #[.val (.int p0), .val (.int p1), .val (.int p2), .val (.ref ar1), .val (.int (1 : Int32)), .val (.int (3 : Int32)), .val (.ref ob52), .val (.int (1 : Int32)), .val (.int ((((p0).toUInt32 >>> ((8 : Int32) &&& 31).toUInt32).toInt32).toInt8.toInt32 &&& (255 : Int32))), .val (.int ((((p0).toUInt32 >>> ((16 : Int32) &&& 31).toUInt32).toInt32).toInt8.toInt32 &&& (255 : Int32))), .val (.int ((((p0).toUInt32 >>> ((24 : Int32) &&& 31).toUInt32).toInt32).toInt8.toInt32 &&& (255 : Int32))), .val (.int (-1 : Int32)), .val (.int (-1 : Int32)), .val (.int (-1 : Int32))]) rfl kk) ?_
    show Goes _ _ _ _ _ _ _ (T19.setTop (mkF m 255 _ []))
    refine Goes.go (fun _ kk => XS.iload X19.here hx rfl (hb hby at_255) rfl kk) ?_
    show Goes _ _ _ _ _ _ _ (T19.setTop (mkF m 257 _ [(.int (1 : Int32))]))
    refine Goes.go (fun _ kk => XS.ifNo X19.here hx rfl (hb hby at_257) rfl (XT.i0_eq_f (by decide)) kk) ?_
    show Goes _ _ _ _ _ _ _ (T19.setTop (mkF m 260 _ []))
    refine Goes.go (fun _ kk => XS.iload X19.here hx rfl (hb hby at_260) rfl kk) ?_
    show Goes _ _ _ _ _ _ _ (T19.setTop (mkF m 262 _ [(.int (-1 : Int32))]))
    refine Goes.go (fun _ kk => XS.iloadN X19.here hx rfl (hb hby at_262) rfl kk) ?_
    show Goes _ _ _ _ _ _ _ (T19.setTop (mkF m 263 _ [(.int p0), (.int (-1 : Int32))]))
    refine Goes.go (fun _ kk => XS.iload X19.here hx rfl (hb hby at_263) rfl kk) ?_
    show Goes _ _ _ _ _ _ _ (T19.setTop (mkF m 265 _ [(.int (1 : Int32)), (.int p0), (.int (-1 : Int32))]))
    refine Goes.go (fun _ kk => XS.iload X19.here hx rfl (hb hby at_265) rfl kk) ?_
    show Goes _ _ _ _ _ _ _ (T19.setTop (mkF m 267 _ [(.int (3 : Int32)), (.int (1 : Int32)), (.int p0), (.int (-1 : Int32))]))
    refine Goes.go (fun _ kk => XS.iconst X19.here hx rfl (hb hby at_267) kk) ?_
    show Goes _ _ _ _ _ _ _ (T19.setTop (mkF m 268 _ [(.int (5 : Int32)), (.int (3 : Int32)), (.int (1 : Int32)), (.int p0), (.int (-1 : Int32))]))
    obtain ⟨_, _, ⟨T20, L20, k20, n20⟩, -, X20, ⟨Lc20, hQ20, l20, y20, z20⟩, st20⟩ := Jvm.LawKit.callS X19 hx (y := (⟨"com/example/wide_schema/wideschema/io/BytesInputReadPinLaw", "exp", "(IIII)I"⟩ : MethodName)) hown (mvT hZ (hw _ (List.mem_of_getElem? (i := 32) rfl))) (mvT hZ (hw _ (List.mem_of_getElem? (i := 33) rfl))) (mvT hZ (hw _ (List.mem_of_getElem? (i := 34) rfl))) (mvT hZ (hw _ (List.mem_of_getElem? (i := 35) rfl))) (by decide) (backOf (W := 1) (rm5 l Z a0 hw [] p0 (1 : Int32) (3 : Int32) (5 : Int32) T11.heap n0 Z11) hZ (hw _ (List.mem_of_getElem? (i := 35) rfl)) (hw _ (List.mem_of_getElem? (i := 34) rfl)) (by decide) (by decide)) (g := (mkF m 268 #[.val (.int p0), .val (.int p1), .val (.int p2), .val (.ref ar1), .val (.int (1 : Int32)), .val (.int (3 : Int32)), .val (.ref ob52), .val (.int (1 : Int32)), .val (.int ((((p0).toUInt32 >>> ((8 : Int32) &&& 31).toUInt32).toInt32).toInt8.toInt32 &&& (255 : Int32))), .val (.int ((((p0).toUInt32 >>> ((16 : Int32) &&& 31).toUInt32).toInt32).toInt8.toInt32 &&& (255 : Int32))), .val (.int ((((p0).toUInt32 >>> ((24 : Int32) &&& 31).toUInt32).toInt32).toInt8.toInt32 &&& (255 : Int32))), .val (.int (-1 : Int32)), .val (.int (-1 : Int32)), .val (.int (-1 : Int32))] [(.int (5 : Int32)), (.int (3 : Int32)), (.int (1 : Int32)), (.int p0), (.int (-1 : Int32))])) rfl (by rw [hml]; rfl) (argsL := [(.int p0), (.int (1 : Int32)), (.int (3 : Int32)), (.int (5 : Int32))]) (rest := [(.int (-1 : Int32))]) (lenOf pd3 rfl) rfl (by show 2 * 0 + _ ≤ _; exact Nat.le_of_eq rfl) (hb hby at_268) (fun _ _ => ⟨rfl, hh19, (by decide : 2 + 0 ≤ _), (by decide : 7 + 0 ≤ _)⟩)
    dsimp only [Pt.U, Pt.locs, Pt.cells, Pt.slots] at X20 l20 y20 z20 st20 hQ20
    subst l20 y20 z20
    obtain ⟨rfl, Nq20, hh20⟩ := hQ20
    have N20 := Fr.app N19 Nq20
    refine Goes.go (st20) ?_
    show Goes _ _ _ _ _ _ _ (T20.setTop (mkF m 271 _ [(.int (exF p0 (1 : Int32) (3 : Int32) (5 : Int32))), (.int (-1 : Int32))]))
    refine Goes.go (fun _ kk => XS.icmpNo X20.here hx rfl (hb hby at_271) rfl (XT.ii_ne_f (own_m (by decide))) kk) ?_
    show Goes _ _ _ _ _ _ _ (T20.setTop (mkF m 274 _ []))
    refine Goes.go (fun _ kk => XS.iconst X20.here hx rfl (hb hby at_274) kk) ?_
    show Goes _ _ _ _ _ _ _ (T20.setTop (mkF m 275 _ [(.int (1 : Int32))]))
    refine Goes.go (fun _ kk => XS.goto X20.here hx rfl (pc0 := 275) (pc' := 279) rfl (hb hby at_275) (by decide) (by decide) kk) ?_
    show Goes _ _ _ _ _ _ _ (T20.setTop (mkF m 279 _ [(.int (1 : Int32))]))
    refine Goes.go (fun _ kk => XS.istore X20.here hx rfl (hb hby at_279) rfl (l' := #[.val (.int p0), .val (.int p1), .val (.int p2), .val (.ref ar1), .val (.int (1 : Int32)), .val (.int (3 : Int32)), .val (.ref ob52), .val (.int (1 : Int32)), .val (.int ((((p0).toUInt32 >>> ((8 : Int32) &&& 31).toUInt32).toInt32).toInt8.toInt32 &&& (255 : Int32))), .val (.int ((((p0).toUInt32 >>> ((16 : Int32) &&& 31).toUInt32).toInt32).toInt8.toInt32 &&& (255 : Int32))), .val (.int ((((p0).toUInt32 >>> ((24 : Int32) &&& 31).toUInt32).toInt32).toInt8.toInt32 &&& (255 : Int32))), .val (.int (-1 : Int32)), .val (.int (-1 : Int32)), .val (.int (-1 : Int32))]) rfl kk) ?_
    show Goes _ _ _ _ _ _ _ (T20.setTop (mkF m 281 _ []))
    refine Goes.go (fun _ kk => XS.iload X20.here hx rfl (hb hby at_281) rfl kk) ?_
    show Goes _ _ _ _ _ _ _ (T20.setTop (mkF m 283 _ [(.int (1 : Int32))]))
    refine Goes.go (fun _ kk => XS.ifNo X20.here hx rfl (hb hby at_283) rfl (XT.i0_eq_f (by decide)) kk) ?_
    show Goes _ _ _ _ _ _ _ (T20.setTop (mkF m 286 _ []))
    refine Goes.go (fun _ kk => XS.aload X20.here hx rfl (hb hby at_286) rfl rfl kk) ?_
    show Goes _ _ _ _ _ _ _ (T20.setTop (mkF m 288 _ [(.ref ob52)]))
    obtain ⟨cq21, kq21, qa21, qb21, qc21⟩ := isOf hZ hh20 Eq11
    obtain ⟨_, _, ⟨T21, L21, k21, n21⟩, -, X21, ⟨Lc21, hQ21, l21, y21, z21⟩, st21⟩ := X20.virtualBack hx (y := (⟨"com/example/wide_schema/wideschema/io/BytesInput", "available", "()I"⟩ : MethodName)) (z := (⟨"com/example/wide_schema/wideschema/io/BytesInput", "available", "()I"⟩ : MethodName)) hown (mvT hZ (hw _ (List.mem_of_getElem? (i := 22) rfl))) (mvT hZ (hw _ (List.mem_of_getElem? (i := 23) rfl))) (notFace_of_selects (args := #[]) (mvT hZ (hw _ (List.mem_of_getElem? (i := 25) rfl)))) (mvT hZ (hw _ (List.mem_of_getElem? (i := 25) rfl))) (mvT hZ (hw _ (List.mem_of_getElem? (i := 24) rfl))) (by decide) (backOf (W := 0) (rm3 l Z a0 hw [] ob52 (4 : Int32) (4 : Int32) T11.heap n0 Z11 Fq11_1 Fq11_2) hZ (hw _ (List.mem_of_getElem? (i := 26) rfl)) (hw _ (List.mem_of_getElem? (i := 4) rfl)) (by decide) (by decide)) qa21 qc21 (g := (mkF m 288 #[.val (.int p0), .val (.int p1), .val (.int p2), .val (.ref ar1), .val (.int (1 : Int32)), .val (.int (3 : Int32)), .val (.ref ob52), .val (.int (1 : Int32)), .val (.int ((((p0).toUInt32 >>> ((8 : Int32) &&& 31).toUInt32).toInt32).toInt8.toInt32 &&& (255 : Int32))), .val (.int ((((p0).toUInt32 >>> ((16 : Int32) &&& 31).toUInt32).toInt32).toInt8.toInt32 &&& (255 : Int32))), .val (.int ((((p0).toUInt32 >>> ((24 : Int32) &&& 31).toUInt32).toInt32).toInt8.toInt32 &&& (255 : Int32))), .val (.int (-1 : Int32)), .val (.int (-1 : Int32)), .val (.int (-1 : Int32))] [(.ref ob52)])) rfl (by rw [hml]; rfl) (Steps.refl _) (argsL := []) (rest := []) (lenOf pd2 rfl) rfl (by show 2 * 0 + _ ≤ _; exact Nat.le_of_eq rfl) (hb hby at_288) (fun _ _ => ⟨rfl, hh20, (by decide : 2 + 0 ≤ _), (by decide : 7 + 0 ≤ _)⟩)
    dsimp only [Pt.U, Pt.locs, Pt.cells, Pt.slots] at X21 l21 y21 z21 st21 hQ21
    subst l21 y21 z21
    obtain ⟨rfl, Nq21, hh21⟩ := hQ21
    have N21 := Fr.app N20 Nq21
    refine Goes.go (fun _ kk => st21.trans kk) ?_
    show Goes _ _ _ _ _ _ _ (T21.setTop (mkF m 291 _ [(.int (0 : Int32))]))
    refine Goes.go (fun _ kk => XS.ifNo X21.here hx rfl (hb hby at_291) rfl (XT.i0_ne_f (by decide)) kk) ?_
    show Goes _ _ _ _ _ _ _ (T21.setTop (mkF m 294 _ []))
    refine Goes.go (fun _ kk => XS.iconst X21.here hx rfl (hb hby at_294) kk) ?_
    show Goes _ _ _ _ _ _ _ (T21.setTop (mkF m 295 _ [(.int (1 : Int32))]))
    refine Goes.go (fun _ kk => XS.goto X21.here hx rfl (pc0 := 295) (pc' := 299) rfl (hb hby at_295) (by decide) (by decide) kk) ?_
    show Goes _ _ _ _ _ _ _ (T21.setTop (mkF m 299 _ [(.int (1 : Int32))]))
    refine Goes.go (fun _ kk => XS.istore X21.here hx rfl (hb hby at_299) rfl (l' := #[.val (.int p0), .val (.int p1), .val (.int p2), .val (.ref ar1), .val (.int (1 : Int32)), .val (.int (3 : Int32)), .val (.ref ob52), .val (.int (1 : Int32)), .val (.int ((((p0).toUInt32 >>> ((8 : Int32) &&& 31).toUInt32).toInt32).toInt8.toInt32 &&& (255 : Int32))), .val (.int ((((p0).toUInt32 >>> ((16 : Int32) &&& 31).toUInt32).toInt32).toInt8.toInt32 &&& (255 : Int32))), .val (.int ((((p0).toUInt32 >>> ((24 : Int32) &&& 31).toUInt32).toInt32).toInt8.toInt32 &&& (255 : Int32))), .val (.int (-1 : Int32)), .val (.int (-1 : Int32)), .val (.int (-1 : Int32))]) rfl kk) ?_
    show Goes _ _ _ _ _ _ _ (T21.setTop (mkF m 301 _ []))
    refine Goes.go (fun _ kk => XS.iload X21.here hx rfl (hb hby at_301) rfl kk) ?_
    show Goes _ _ _ _ _ _ _ (T21.setTop (mkF m 303 _ [(.int (1 : Int32))]))
    exact Goes.outZ X21 hx hlk hret rfl (hb hby at_303) hh21 ⟨rfl, N21⟩ (by decide) (by decide)
  · skip
    show Goes _ _ _ _ _ _ _ (T5.setTop (mkF m 52 #[.val (.int p0), .val (.int p1), .val (.int p2), .val (.ref ar1), .val (.int (2 : Int32)), .val (.int (0 : Int32)), .unset, .unset, .unset, .unset, .unset, .unset, .unset, .unset] []))
    obtain ⟨T6, h6, X6, e6, E6, A6, D6, -, st6⟩ := newO X5 hx hZ hown (hw _ (List.mem_of_getElem? (i := 2) rfl)) (hw _ (List.mem_of_getElem? (i := 3) rfl)) (hw _ (List.mem_of_getElem? (i := 4) rfl)) e5 (g := (mkF m 52 #[.val (.int p0), .val (.int p1), .val (.int p2), .val (.ref ar1), .val (.int (2 : Int32)), .val (.int (0 : Int32)), .unset, .unset, .unset, .unset, .unset, .unset, .unset, .unset] [])) rfl (hb hby at_52) (by decide) (by decide)
    obtain ⟨ob52, gob52⟩ : ∃ z, z = h5.size := ⟨_, rfl⟩
    rw [← gob52] at A6 D6 st6
    have ne_ar1_ob52 : ar1 ≠ ob52 := by rw [gob52]; exact Nat.ne_of_lt f_4.lt
    have f_5 := f_4.ext E6
    have Z6 : n0 ≤ h6.size := Nat.le_trans Z5 E6.1
    have ge_ob52 : n0 ≤ ob52 := Nat.le_trans Z5 (Nat.le_of_eq gob52.symm)
    have f_6 : Fld Z h6 ob52 "com/example/wide_schema/wideschema/io/BytesInput" "_bytes" "[B" .null := D6 (Or.inr (hw _ (List.mem_of_getElem? (i := 17) rfl))) (ty := (.array .byte)) (by decide)
    have f_7 : Fld Z h6 ob52 "com/example/wide_schema/wideschema/io/BytesInput" "_next" "I" (.int (0 : Int32)) := D6 (Or.inl (hw _ (List.mem_of_getElem? (i := 19) rfl))) (ty := .int) (by decide)
    have f_8 : Fld Z h6 ob52 "com/example/wide_schema/wideschema/io/BytesInput" "_end" "I" (.int (0 : Int32)) := D6 (Or.inr (hw _ (List.mem_of_getElem? (i := 21) rfl))) (ty := .int) (by decide)
    refine Goes.go (st6) ?_
    show Goes _ _ _ _ _ _ _ (T6.setTop (mkF m 55 _ [(.ref ob52)]))
    refine Goes.go (fun _ kk => XS.dup X6.here hx rfl (hb hby at_55) rfl rfl kk) ?_
    show Goes _ _ _ _ _ _ _ (T6.setTop (mkF m 56 _ [(.ref ob52), (.ref ob52)]))
    refine Goes.go (fun _ kk => XS.aloadN X6.here hx rfl (hb hby at_56) rfl rfl kk) ?_
    show Goes _ _ _ _ _ _ _ (T6.setTop (mkF m 57 _ [(.ref ar1), (.ref ob52), (.ref ob52)]))
    refine Goes.go (fun _ kk => XS.iload X6.here hx rfl (hb hby at_57) rfl kk) ?_
    show Goes _ _ _ _ _ _ _ (T6.setTop (mkF m 59 _ [(.int (2 : Int32)), (.ref ar1), (.ref ob52), (.ref ob52)]))
    refine Goes.go (fun _ kk => XS.iload X6.here hx rfl (hb hby at_59) rfl kk) ?_
    show Goes _ _ _ _ _ _ _ (T6.setTop (mkF m 61 _ [(.int (0 : Int32)), (.int (2 : Int32)), (.ref ar1), (.ref ob52), (.ref ob52)]))
    obtain ⟨_, _, ⟨T7, L7, k7, n7⟩, -, X7, ⟨Lc7, hQ7, l7, y7, z7⟩, st7⟩ := X6.specialBack hx (y := (⟨"com/example/wide_schema/wideschema/io/BytesInput", "<init>", "([BII)V"⟩ : MethodName)) rfl hown (mvT hZ (hw _ (List.mem_of_getElem? (i := 5) rfl))) (mvT hZ (hw _ (List.mem_of_getElem? (i := 6) rfl))) (mvT hZ (hw _ (List.mem_of_getElem? (i := 7) rfl))) (by decide) (backOf (W := 1) (rm1 l Z a0 hw [] ob52 ar1 (2 : Int32) (0 : Int32) h6 n0 Z6 A6 f_6 f_7 f_8 ge_ob52) hZ (hw _ (List.mem_of_getElem? (i := 7) rfl)) (hw _ (List.mem_of_getElem? (i := 4) rfl)) (by decide) (by decide)) (g := (mkF m 61 #[.val (.int p0), .val (.int p1), .val (.int p2), .val (.ref ar1), .val (.int (2 : Int32)), .val (.int (0 : Int32)), .unset, .unset, .unset, .unset, .unset, .unset, .unset, .unset] [(.int (0 : Int32)), (.int (2 : Int32)), (.ref ar1), (.ref ob52), (.ref ob52)])) rfl (by rw [hml]; rfl) (Steps.refl _) (a := ob52) (argsL := [(.ref ar1), (.int (2 : Int32)), (.int (0 : Int32))]) (rest := [(.ref ob52)]) (lenOf pd0 rfl) rfl (by show 2 * 0 + _ ≤ _; exact Nat.le_of_eq rfl) (hb hby at_61) (fun _ _ => ⟨rfl, e6, (by decide : 2 + 0 ≤ _), (by decide : 7 + 0 ≤ _)⟩)
    dsimp only [Pt.U, Pt.locs, Pt.cells, Pt.slots] at X7 l7 y7 z7 st7 hQ7
    subst l7 y7 z7
    obtain ⟨rfl, Nq7, Kq7, Eq7, Fq7_0, Fq7_1, Fq7_2⟩ := hQ7
    have N7 := Fr.app N5 Nq7
    have Z7 : n0 ≤ T7.heap.size := Nat.le_trans Z6 Kq7.1
    have f_9 := Arl.keep f_5 Kq7 (ninS ne_ar1_ob52 nin0)
    refine Goes.go (fun _ kk => st7.trans kk) ?_
    show Goes _ _ _ _ _ _ _ (T7.setTop (mkF m 64 _ [(.ref ob52)]))
    refine Goes.go (fun _ kk => XS.astore X7.here hx rfl (hb hby at_64) rfl rfl (l' := #[.val (.int p0), .val (.int p1), .val (.int p2), .val (.ref ar1), .val (.int (2 : Int32)), .val (.int (0 : Int32)), .val (.ref ob52), .unset, .unset, .unset, .unset, .unset, .unset, .unset]) rfl kk) ?_
    show Goes _ _ _ _ _ _ _ (T7.setTop (mkF m 66 #[.val (.int p0), .val (.int p1), .val (.int p2), .val (.ref ar1), .val (.int (2 : Int32)), .val (.int (0 : Int32)), .val (.ref ob52), .unset, .unset, .unset, .unset, .unset, .unset, .unset] []))
    refine Goes.go (fun _ kk => XS.aload X7.here hx rfl (hb hby at_66) rfl rfl kk) ?_
    show Goes _ _ _ _ _ _ _ (T7.setTop (mkF m 68 _ [(.ref ob52)]))
    obtain ⟨cq8, kq8, qa8, qb8, qc8⟩ := isOf hZ rfl Eq7
    obtain ⟨_, _, ⟨T8, L8, k8, n8⟩, -, X8, ⟨Lc8, hQ8, l8, y8, z8⟩, st8⟩ := X7.virtualBack hx (y := (⟨"com/example/wide_schema/wideschema/io/BytesInput", "available", "()I"⟩ : MethodName)) (z := (⟨"com/example/wide_schema/wideschema/io/BytesInput", "available", "()I"⟩ : MethodName)) hown (mvT hZ (hw _ (List.mem_of_getElem? (i := 22) rfl))) (mvT hZ (hw _ (List.mem_of_getElem? (i := 23) rfl))) (notFace_of_selects (args := #[]) (mvT hZ (hw _ (List.mem_of_getElem? (i := 25) rfl)))) (mvT hZ (hw _ (List.mem_of_getElem? (i := 25) rfl))) (mvT hZ (hw _ (List.mem_of_getElem? (i := 24) rfl))) (by decide) (backOf (W := 0) (rm3 l Z a0 hw [] ob52 (2 : Int32) (2 : Int32) T7.heap n0 Z7 Fq7_1 Fq7_2) hZ (hw _ (List.mem_of_getElem? (i := 26) rfl)) (hw _ (List.mem_of_getElem? (i := 4) rfl)) (by decide) (by decide)) qa8 qc8 (g := (mkF m 68 #[.val (.int p0), .val (.int p1), .val (.int p2), .val (.ref ar1), .val (.int (2 : Int32)), .val (.int (0 : Int32)), .val (.ref ob52), .unset, .unset, .unset, .unset, .unset, .unset, .unset] [(.ref ob52)])) rfl (by rw [hml]; rfl) (Steps.refl _) (argsL := []) (rest := []) (lenOf pd2 rfl) rfl (by show 2 * 0 + _ ≤ _; exact Nat.le_of_eq rfl) (hb hby at_68) (fun _ _ => ⟨rfl, rfl, (by decide : 2 + 0 ≤ _), (by decide : 7 + 0 ≤ _)⟩)
    dsimp only [Pt.U, Pt.locs, Pt.cells, Pt.slots] at X8 l8 y8 z8 st8 hQ8
    subst l8 y8 z8
    obtain ⟨rfl, Nq8, hh8⟩ := hQ8
    have N8 := Fr.app N7 Nq8
    refine Goes.go (fun _ kk => st8.trans kk) ?_
    show Goes _ _ _ _ _ _ _ (T8.setTop (mkF m 71 _ [(.int (0 : Int32))]))
    refine Goes.go (fun _ kk => XS.iload X8.here hx rfl (hb hby at_71) rfl kk) ?_
    show Goes _ _ _ _ _ _ _ (T8.setTop (mkF m 73 _ [(.int (0 : Int32)), (.int (0 : Int32))]))
    refine Goes.go (fun _ kk => XS.icmpNo X8.here hx rfl (hb hby at_73) rfl (XT.ii_ne_f (by decide)) kk) ?_
    show Goes _ _ _ _ _ _ _ (T8.setTop (mkF m 76 _ []))
    refine Goes.go (fun _ kk => XS.iconst X8.here hx rfl (hb hby at_76) kk) ?_
    show Goes _ _ _ _ _ _ _ (T8.setTop (mkF m 77 _ [(.int (1 : Int32))]))
    refine Goes.go (fun _ kk => XS.goto X8.here hx rfl (pc0 := 77) (pc' := 81) rfl (hb hby at_77) (by decide) (by decide) kk) ?_
    show Goes _ _ _ _ _ _ _ (T8.setTop (mkF m 81 _ [(.int (1 : Int32))]))
    refine Goes.go (fun _ kk => XS.istore X8.here hx rfl (hb hby at_81) rfl (l' := #[.val (.int p0), .val (.int p1), .val (.int p2), .val (.ref ar1), .val (.int (2 : Int32)), .val (.int (0 : Int32)), .val (.ref ob52), .val (.int (1 : Int32)), .unset, .unset, .unset, .unset, .unset, .unset]) rfl kk) ?_
    show Goes _ _ _ _ _ _ _ (T8.setTop (mkF m 83 #[.val (.int p0), .val (.int p1), .val (.int p2), .val (.ref ar1), .val (.int (2 : Int32)), .val (.int (0 : Int32)), .val (.ref ob52), .val (.int (1 : Int32)), .unset, .unset, .unset, .unset, .unset, .unset] []))
    refine Goes.go (fun _ kk => XS.aload X8.here hx rfl (hb hby at_83) rfl rfl kk) ?_
    show Goes _ _ _ _ _ _ _ (T8.setTop (mkF m 85 _ [(.ref ob52)]))
    obtain ⟨cq9, kq9, qa9, qb9, qc9⟩ := isOf hZ hh8 Eq7
    obtain ⟨_, _, ⟨T9, L9, k9, n9⟩, -, X9, ⟨Lc9, hQ9, l9, y9, z9⟩, st9⟩ := X8.virtualBack hx (y := (⟨"com/example/wide_schema/wideschema/io/BytesInput", "read", "()I"⟩ : MethodName)) (z := (⟨"com/example/wide_schema/wideschema/io/BytesInput", "read", "()I"⟩ : MethodName)) hown (mvT hZ (hw _ (List.mem_of_getElem? (i := 27) rfl))) (mvT hZ (hw _ (List.mem_of_getElem? (i := 28) rfl))) (notFace_of_selects (args := #[]) (mvT hZ (hw _ (List.mem_of_getElem? (i := 30) rfl)))) (mvT hZ (hw _ (List.mem_of_getElem? (i := 30) rfl))) (mvT hZ (hw _ (List.mem_of_getElem? (i := 29) rfl))) (by decide) (backOf (W := 0) (rmN l Z a0 hw [] ob52 (2 : Int32) (2 : Int32) T7.heap n0 Z7 Fq7_1 Fq7_2 (by decide)) hZ (hw _ (List.mem_of_getElem? (i := 31) rfl)) (hw _ (List.mem_of_getElem? (i := 4) rfl)) (by decide) (by decide)) qa9 qc9 (g := (mkF m 85 #[.val (.int p0), .val (.int p1), .val (.int p2), .val (.ref ar1), .val (.int (2 : Int32)), .val (.int (0 : Int32)), .val (.ref ob52), .val (.int (1 : Int32)), .unset, .unset, .unset, .unset, .unset, .unset] [(.ref ob52)])) rfl (by rw [hml]; rfl) (Steps.refl _) (argsL := []) (rest := []) (lenOf pd2 rfl) rfl (by show 2 * 0 + _ ≤ _; exact Nat.le_of_eq rfl) (hb hby at_85) (fun _ _ => ⟨rfl, hh8, (by decide : 2 + 0 ≤ _), (by decide : 7 + 0 ≤ _)⟩)
    dsimp only [Pt.U, Pt.locs, Pt.cells, Pt.slots] at X9 l9 y9 z9 st9 hQ9
    subst l9 y9 z9
    obtain ⟨rfl, Nq9, hh9⟩ := hQ9
    have N9 := Fr.app N8 Nq9
    refine Goes.go (fun _ kk => st9.trans kk) ?_
    show Goes _ _ _ _ _ _ _ (T9.setTop (mkF m 88 _ [(.int (-1 : Int32))]))
    refine Goes.go (fun _ kk => XS.istore X9.here hx rfl (hb hby at_88) rfl (l' := #[.val (.int p0), .val (.int p1), .val (.int p2), .val (.ref ar1), .val (.int (2 : Int32)), .val (.int (0 : Int32)), .val (.ref ob52), .val (.int (1 : Int32)), .val (.int (-1 : Int32)), .unset, .unset, .unset, .unset, .unset]) rfl kk) ?_
    show Goes _ _ _ _ _ _ _ (T9.setTop (mkF m 90 #[.val (.int p0), .val (.int p1), .val (.int p2), .val (.ref ar1), .val (.int (2 : Int32)), .val (.int (0 : Int32)), .val (.ref ob52), .val (.int (1 : Int32)), .val (.int (-1 : Int32)), .unset, .unset, .unset, .unset, .unset] []))
    refine Goes.go (fun _ kk => XS.aload X9.here hx rfl (hb hby at_90) rfl rfl kk) ?_
    show Goes _ _ _ _ _ _ _ (T9.setTop (mkF m 92 _ [(.ref ob52)]))
    obtain ⟨cq10, kq10, qa10, qb10, qc10⟩ := isOf hZ hh9 Eq7
    obtain ⟨_, _, ⟨T10, L10, k10, n10⟩, -, X10, ⟨Lc10, hQ10, l10, y10, z10⟩, st10⟩ := X9.virtualBack hx (y := (⟨"com/example/wide_schema/wideschema/io/BytesInput", "read", "()I"⟩ : MethodName)) (z := (⟨"com/example/wide_schema/wideschema/io/BytesInput", "read", "()I"⟩ : MethodName)) hown (mvT hZ (hw _ (List.mem_of_getElem? (i := 27) rfl))) (mvT hZ (hw _ (List.mem_of_getElem? (i := 28) rfl))) (notFace_of_selects (args := #[]) (mvT hZ (hw _ (List.mem_of_getElem? (i := 30) rfl)))) (mvT hZ (hw _ (List.mem_of_getElem? (i := 30) rfl))) (mvT hZ (hw _ (List.mem_of_getElem? (i := 29) rfl))) (by decide) (backOf (W := 0) (rmN l Z a0 hw [] ob52 (2 : Int32) (2 : Int32) T7.heap n0 Z7 Fq7_1 Fq7_2 (by decide)) hZ (hw _ (List.mem_of_getElem? (i := 31) rfl)) (hw _ (List.mem_of_getElem? (i := 4) rfl)) (by decide) (by decide)) qa10 qc10 (g := (mkF m 92 #[.val (.int p0), .val (.int p1), .val (.int p2), .val (.ref ar1), .val (.int (2 : Int32)), .val (.int (0 : Int32)), .val (.ref ob52), .val (.int (1 : Int32)), .val (.int (-1 : Int32)), .unset, .unset, .unset, .unset, .unset] [(.ref ob52)])) rfl (by rw [hml]; rfl) (Steps.refl _) (argsL := []) (rest := []) (lenOf pd2 rfl) rfl (by show 2 * 0 + _ ≤ _; exact Nat.le_of_eq rfl) (hb hby at_92) (fun _ _ => ⟨rfl, hh9, (by decide : 2 + 0 ≤ _), (by decide : 7 + 0 ≤ _)⟩)
    dsimp only [Pt.U, Pt.locs, Pt.cells, Pt.slots] at X10 l10 y10 z10 st10 hQ10
    subst l10 y10 z10
    obtain ⟨rfl, Nq10, hh10⟩ := hQ10
    have N10 := Fr.app N9 Nq10
    refine Goes.go (fun _ kk => st10.trans kk) ?_
    show Goes _ _ _ _ _ _ _ (T10.setTop (mkF m 95 _ [(.int (-1 : Int32))]))
    refine Goes.go (fun _ kk => XS.istore X10.here hx rfl (hb hby at_95) rfl (l' := #[.val (.int p0), .val (.int p1), .val (.int p2), .val (.ref ar1), .val (.int (2 : Int32)), .val (.int (0 : Int32)), .val (.ref ob52), .val (.int (1 : Int32)), .val (.int (-1 : Int32)), .val (.int (-1 : Int32)), .unset, .unset, .unset, .unset]) rfl kk) ?_
    show Goes _ _ _ _ _ _ _ (T10.setTop (mkF m 97 #[.val (.int p0), .val (.int p1), .val (.int p2), .val (.ref ar1), .val (.int (2 : Int32)), .val (.int (0 : Int32)), .val (.ref ob52), .val (.int (1 : Int32)), .val (.int (-1 : Int32)), .val (.int (-1 : Int32)), .unset, .unset, .unset, .unset] []))
    refine Goes.go (fun _ kk => XS.aload X10.here hx rfl (hb hby at_97) rfl rfl kk) ?_
    show Goes _ _ _ _ _ _ _ (T10.setTop (mkF m 99 _ [(.ref ob52)]))
    obtain ⟨cq11, kq11, qa11, qb11, qc11⟩ := isOf hZ hh10 Eq7
    obtain ⟨_, _, ⟨T11, L11, k11, n11⟩, -, X11, ⟨Lc11, hQ11, l11, y11, z11⟩, st11⟩ := X10.virtualBack hx (y := (⟨"com/example/wide_schema/wideschema/io/BytesInput", "read", "()I"⟩ : MethodName)) (z := (⟨"com/example/wide_schema/wideschema/io/BytesInput", "read", "()I"⟩ : MethodName)) hown (mvT hZ (hw _ (List.mem_of_getElem? (i := 27) rfl))) (mvT hZ (hw _ (List.mem_of_getElem? (i := 28) rfl))) (notFace_of_selects (args := #[]) (mvT hZ (hw _ (List.mem_of_getElem? (i := 30) rfl)))) (mvT hZ (hw _ (List.mem_of_getElem? (i := 30) rfl))) (mvT hZ (hw _ (List.mem_of_getElem? (i := 29) rfl))) (by decide) (backOf (W := 0) (rmN l Z a0 hw [] ob52 (2 : Int32) (2 : Int32) T7.heap n0 Z7 Fq7_1 Fq7_2 (by decide)) hZ (hw _ (List.mem_of_getElem? (i := 31) rfl)) (hw _ (List.mem_of_getElem? (i := 4) rfl)) (by decide) (by decide)) qa11 qc11 (g := (mkF m 99 #[.val (.int p0), .val (.int p1), .val (.int p2), .val (.ref ar1), .val (.int (2 : Int32)), .val (.int (0 : Int32)), .val (.ref ob52), .val (.int (1 : Int32)), .val (.int (-1 : Int32)), .val (.int (-1 : Int32)), .unset, .unset, .unset, .unset] [(.ref ob52)])) rfl (by rw [hml]; rfl) (Steps.refl _) (argsL := []) (rest := []) (lenOf pd2 rfl) rfl (by show 2 * 0 + _ ≤ _; exact Nat.le_of_eq rfl) (hb hby at_99) (fun _ _ => ⟨rfl, hh10, (by decide : 2 + 0 ≤ _), (by decide : 7 + 0 ≤ _)⟩)
    dsimp only [Pt.U, Pt.locs, Pt.cells, Pt.slots] at X11 l11 y11 z11 st11 hQ11
    subst l11 y11 z11
    obtain ⟨rfl, Nq11, hh11⟩ := hQ11
    have N11 := Fr.app N10 Nq11
    refine Goes.go (fun _ kk => st11.trans kk) ?_
    show Goes _ _ _ _ _ _ _ (T11.setTop (mkF m 102 _ [(.int (-1 : Int32))]))
    refine Goes.go (fun _ kk => XS.istore X11.here hx rfl (hb hby at_102) rfl (l' := #[.val (.int p0), .val (.int p1), .val (.int p2), .val (.ref ar1), .val (.int (2 : Int32)), .val (.int (0 : Int32)), .val (.ref ob52), .val (.int (1 : Int32)), .val (.int (-1 : Int32)), .val (.int (-1 : Int32)), .val (.int (-1 : Int32)), .unset, .unset, .unset]) rfl kk) ?_
    show Goes _ _ _ _ _ _ _ (T11.setTop (mkF m 104 #[.val (.int p0), .val (.int p1), .val (.int p2), .val (.ref ar1), .val (.int (2 : Int32)), .val (.int (0 : Int32)), .val (.ref ob52), .val (.int (1 : Int32)), .val (.int (-1 : Int32)), .val (.int (-1 : Int32)), .val (.int (-1 : Int32)), .unset, .unset, .unset] []))
    refine Goes.go (fun _ kk => XS.aload X11.here hx rfl (hb hby at_104) rfl rfl kk) ?_
    show Goes _ _ _ _ _ _ _ (T11.setTop (mkF m 106 _ [(.ref ob52)]))
    obtain ⟨cq12, kq12, qa12, qb12, qc12⟩ := isOf hZ hh11 Eq7
    obtain ⟨_, _, ⟨T12, L12, k12, n12⟩, -, X12, ⟨Lc12, hQ12, l12, y12, z12⟩, st12⟩ := X11.virtualBack hx (y := (⟨"com/example/wide_schema/wideschema/io/BytesInput", "read", "()I"⟩ : MethodName)) (z := (⟨"com/example/wide_schema/wideschema/io/BytesInput", "read", "()I"⟩ : MethodName)) hown (mvT hZ (hw _ (List.mem_of_getElem? (i := 27) rfl))) (mvT hZ (hw _ (List.mem_of_getElem? (i := 28) rfl))) (notFace_of_selects (args := #[]) (mvT hZ (hw _ (List.mem_of_getElem? (i := 30) rfl)))) (mvT hZ (hw _ (List.mem_of_getElem? (i := 30) rfl))) (mvT hZ (hw _ (List.mem_of_getElem? (i := 29) rfl))) (by decide) (backOf (W := 0) (rmN l Z a0 hw [] ob52 (2 : Int32) (2 : Int32) T7.heap n0 Z7 Fq7_1 Fq7_2 (by decide)) hZ (hw _ (List.mem_of_getElem? (i := 31) rfl)) (hw _ (List.mem_of_getElem? (i := 4) rfl)) (by decide) (by decide)) qa12 qc12 (g := (mkF m 106 #[.val (.int p0), .val (.int p1), .val (.int p2), .val (.ref ar1), .val (.int (2 : Int32)), .val (.int (0 : Int32)), .val (.ref ob52), .val (.int (1 : Int32)), .val (.int (-1 : Int32)), .val (.int (-1 : Int32)), .val (.int (-1 : Int32)), .unset, .unset, .unset] [(.ref ob52)])) rfl (by rw [hml]; rfl) (Steps.refl _) (argsL := []) (rest := []) (lenOf pd2 rfl) rfl (by show 2 * 0 + _ ≤ _; exact Nat.le_of_eq rfl) (hb hby at_106) (fun _ _ => ⟨rfl, hh11, (by decide : 2 + 0 ≤ _), (by decide : 7 + 0 ≤ _)⟩)
    dsimp only [Pt.U, Pt.locs, Pt.cells, Pt.slots] at X12 l12 y12 z12 st12 hQ12
    subst l12 y12 z12
    obtain ⟨rfl, Nq12, hh12⟩ := hQ12
    have N12 := Fr.app N11 Nq12
    refine Goes.go (fun _ kk => st12.trans kk) ?_
    show Goes _ _ _ _ _ _ _ (T12.setTop (mkF m 109 _ [(.int (-1 : Int32))]))
    refine Goes.go (fun _ kk => XS.istore X12.here hx rfl (hb hby at_109) rfl (l' := #[.val (.int p0), .val (.int p1), .val (.int p2), .val (.ref ar1), .val (.int (2 : Int32)), .val (.int (0 : Int32)), .val (.ref ob52), .val (.int (1 : Int32)), .val (.int (-1 : Int32)), .val (.int (-1 : Int32)), .val (.int (-1 : Int32)), .val (.int (-1 : Int32)), .unset, .unset]) rfl kk) ?_
    show Goes _ _ _ _ _ _ _ (T12.setTop (mkF m 111 #[.val (.int p0), .val (.int p1), .val (.int p2), .val (.ref ar1), .val (.int (2 : Int32)), .val (.int (0 : Int32)), .val (.ref ob52), .val (.int (1 : Int32)), .val (.int (-1 : Int32)), .val (.int (-1 : Int32)), .val (.int (-1 : Int32)), .val (.int (-1 : Int32)), .unset, .unset] []))
    refine Goes.go (fun _ kk => XS.aload X12.here hx rfl (hb hby at_111) rfl rfl kk) ?_
    show Goes _ _ _ _ _ _ _ (T12.setTop (mkF m 113 _ [(.ref ob52)]))
    obtain ⟨cq13, kq13, qa13, qb13, qc13⟩ := isOf hZ hh12 Eq7
    obtain ⟨_, _, ⟨T13, L13, k13, n13⟩, -, X13, ⟨Lc13, hQ13, l13, y13, z13⟩, st13⟩ := X12.virtualBack hx (y := (⟨"com/example/wide_schema/wideschema/io/BytesInput", "read", "()I"⟩ : MethodName)) (z := (⟨"com/example/wide_schema/wideschema/io/BytesInput", "read", "()I"⟩ : MethodName)) hown (mvT hZ (hw _ (List.mem_of_getElem? (i := 27) rfl))) (mvT hZ (hw _ (List.mem_of_getElem? (i := 28) rfl))) (notFace_of_selects (args := #[]) (mvT hZ (hw _ (List.mem_of_getElem? (i := 30) rfl)))) (mvT hZ (hw _ (List.mem_of_getElem? (i := 30) rfl))) (mvT hZ (hw _ (List.mem_of_getElem? (i := 29) rfl))) (by decide) (backOf (W := 0) (rmN l Z a0 hw [] ob52 (2 : Int32) (2 : Int32) T7.heap n0 Z7 Fq7_1 Fq7_2 (by decide)) hZ (hw _ (List.mem_of_getElem? (i := 31) rfl)) (hw _ (List.mem_of_getElem? (i := 4) rfl)) (by decide) (by decide)) qa13 qc13 (g := (mkF m 113 #[.val (.int p0), .val (.int p1), .val (.int p2), .val (.ref ar1), .val (.int (2 : Int32)), .val (.int (0 : Int32)), .val (.ref ob52), .val (.int (1 : Int32)), .val (.int (-1 : Int32)), .val (.int (-1 : Int32)), .val (.int (-1 : Int32)), .val (.int (-1 : Int32)), .unset, .unset] [(.ref ob52)])) rfl (by rw [hml]; rfl) (Steps.refl _) (argsL := []) (rest := []) (lenOf pd2 rfl) rfl (by show 2 * 0 + _ ≤ _; exact Nat.le_of_eq rfl) (hb hby at_113) (fun _ _ => ⟨rfl, hh12, (by decide : 2 + 0 ≤ _), (by decide : 7 + 0 ≤ _)⟩)
    dsimp only [Pt.U, Pt.locs, Pt.cells, Pt.slots] at X13 l13 y13 z13 st13 hQ13
    subst l13 y13 z13
    obtain ⟨rfl, Nq13, hh13⟩ := hQ13
    have N13 := Fr.app N12 Nq13
    refine Goes.go (fun _ kk => st13.trans kk) ?_
    show Goes _ _ _ _ _ _ _ (T13.setTop (mkF m 116 _ [(.int (-1 : Int32))]))
    refine Goes.go (fun _ kk => XS.istore X13.here hx rfl (hb hby at_116) rfl (l' := #[.val (.int p0), .val (.int p1), .val (.int p2), .val (.ref ar1), .val (.int (2 : Int32)), .val (.int (0 : Int32)), .val (.ref ob52), .val (.int (1 : Int32)), .val (.int (-1 : Int32)), .val (.int (-1 : Int32)), .val (.int (-1 : Int32)), .val (.int (-1 : Int32)), .val (.int (-1 : Int32)), .unset]) rfl kk) ?_
    show Goes _ _ _ _ _ _ _ (T13.setTop (mkF m 118 #[.val (.int p0), .val (.int p1), .val (.int p2), .val (.ref ar1), .val (.int (2 : Int32)), .val (.int (0 : Int32)), .val (.ref ob52), .val (.int (1 : Int32)), .val (.int (-1 : Int32)), .val (.int (-1 : Int32)), .val (.int (-1 : Int32)), .val (.int (-1 : Int32)), .val (.int (-1 : Int32)), .unset] []))
    refine Goes.go (fun _ kk => XS.aload X13.here hx rfl (hb hby at_118) rfl rfl kk) ?_
    show Goes _ _ _ _ _ _ _ (T13.setTop (mkF m 120 _ [(.ref ob52)]))
    obtain ⟨cq14, kq14, qa14, qb14, qc14⟩ := isOf hZ hh13 Eq7
    obtain ⟨_, _, ⟨T14, L14, k14, n14⟩, -, X14, ⟨Lc14, hQ14, l14, y14, z14⟩, st14⟩ := X13.virtualBack hx (y := (⟨"com/example/wide_schema/wideschema/io/BytesInput", "read", "()I"⟩ : MethodName)) (z := (⟨"com/example/wide_schema/wideschema/io/BytesInput", "read", "()I"⟩ : MethodName)) hown (mvT hZ (hw _ (List.mem_of_getElem? (i := 27) rfl))) (mvT hZ (hw _ (List.mem_of_getElem? (i := 28) rfl))) (notFace_of_selects (args := #[]) (mvT hZ (hw _ (List.mem_of_getElem? (i := 30) rfl)))) (mvT hZ (hw _ (List.mem_of_getElem? (i := 30) rfl))) (mvT hZ (hw _ (List.mem_of_getElem? (i := 29) rfl))) (by decide) (backOf (W := 0) (rmN l Z a0 hw [] ob52 (2 : Int32) (2 : Int32) T7.heap n0 Z7 Fq7_1 Fq7_2 (by decide)) hZ (hw _ (List.mem_of_getElem? (i := 31) rfl)) (hw _ (List.mem_of_getElem? (i := 4) rfl)) (by decide) (by decide)) qa14 qc14 (g := (mkF m 120 #[.val (.int p0), .val (.int p1), .val (.int p2), .val (.ref ar1), .val (.int (2 : Int32)), .val (.int (0 : Int32)), .val (.ref ob52), .val (.int (1 : Int32)), .val (.int (-1 : Int32)), .val (.int (-1 : Int32)), .val (.int (-1 : Int32)), .val (.int (-1 : Int32)), .val (.int (-1 : Int32)), .unset] [(.ref ob52)])) rfl (by rw [hml]; rfl) (Steps.refl _) (argsL := []) (rest := []) (lenOf pd2 rfl) rfl (by show 2 * 0 + _ ≤ _; exact Nat.le_of_eq rfl) (hb hby at_120) (fun _ _ => ⟨rfl, hh13, (by decide : 2 + 0 ≤ _), (by decide : 7 + 0 ≤ _)⟩)
    dsimp only [Pt.U, Pt.locs, Pt.cells, Pt.slots] at X14 l14 y14 z14 st14 hQ14
    subst l14 y14 z14
    obtain ⟨rfl, Nq14, hh14⟩ := hQ14
    have N14 := Fr.app N13 Nq14
    refine Goes.go (fun _ kk => st14.trans kk) ?_
    show Goes _ _ _ _ _ _ _ (T14.setTop (mkF m 123 _ [(.int (-1 : Int32))]))
    refine Goes.go (fun _ kk => XS.istore X14.here hx rfl (hb hby at_123) rfl (l' := #[.val (.int p0), .val (.int p1), .val (.int p2), .val (.ref ar1), .val (.int (2 : Int32)), .val (.int (0 : Int32)), .val (.ref ob52), .val (.int (1 : Int32)), .val (.int (-1 : Int32)), .val (.int (-1 : Int32)), .val (.int (-1 : Int32)), .val (.int (-1 : Int32)), .val (.int (-1 : Int32)), .val (.int (-1 : Int32))]) rfl kk) ?_
    show Goes _ _ _ _ _ _ _ (T14.setTop (mkF m 125 #[.val (.int p0), .val (.int p1), .val (.int p2), .val (.ref ar1), .val (.int (2 : Int32)), .val (.int (0 : Int32)), .val (.ref ob52), .val (.int (1 : Int32)), .val (.int (-1 : Int32)), .val (.int (-1 : Int32)), .val (.int (-1 : Int32)), .val (.int (-1 : Int32)), .val (.int (-1 : Int32)), .val (.int (-1 : Int32))] []))
    refine Goes.go (fun _ kk => XS.iload X14.here hx rfl (hb hby at_125) rfl kk) ?_
    show Goes _ _ _ _ _ _ _ (T14.setTop (mkF m 127 _ [(.int (1 : Int32))]))
    refine Goes.go (fun _ kk => XS.ifNo X14.here hx rfl (hb hby at_127) rfl (XT.i0_eq_f (by decide)) kk) ?_
    show Goes _ _ _ _ _ _ _ (T14.setTop (mkF m 130 _ []))
    refine Goes.go (fun _ kk => XS.iload X14.here hx rfl (hb hby at_130) rfl kk) ?_
    show Goes _ _ _ _ _ _ _ (T14.setTop (mkF m 132 _ [(.int (-1 : Int32))]))
    refine Goes.go (fun _ kk => XS.iloadN X14.here hx rfl (hb hby at_132) rfl kk) ?_
    show Goes _ _ _ _ _ _ _ (T14.setTop (mkF m 133 _ [(.int p0), (.int (-1 : Int32))]))
    refine Goes.go (fun _ kk => XS.iload X14.here hx rfl (hb hby at_133) rfl kk) ?_
    show Goes _ _ _ _ _ _ _ (T14.setTop (mkF m 135 _ [(.int (2 : Int32)), (.int p0), (.int (-1 : Int32))]))
    refine Goes.go (fun _ kk => XS.iload X14.here hx rfl (hb hby at_135) rfl kk) ?_
    show Goes _ _ _ _ _ _ _ (T14.setTop (mkF m 137 _ [(.int (0 : Int32)), (.int (2 : Int32)), (.int p0), (.int (-1 : Int32))]))
    refine Goes.go (fun _ kk => XS.iconst X14.here hx rfl (hb hby at_137) kk) ?_
    show Goes _ _ _ _ _ _ _ (T14.setTop (mkF m 138 _ [(.int (0 : Int32)), (.int (0 : Int32)), (.int (2 : Int32)), (.int p0), (.int (-1 : Int32))]))
    obtain ⟨_, _, ⟨T15, L15, k15, n15⟩, -, X15, ⟨Lc15, hQ15, l15, y15, z15⟩, st15⟩ := Jvm.LawKit.callS X14 hx (y := (⟨"com/example/wide_schema/wideschema/io/BytesInputReadPinLaw", "exp", "(IIII)I"⟩ : MethodName)) hown (mvT hZ (hw _ (List.mem_of_getElem? (i := 32) rfl))) (mvT hZ (hw _ (List.mem_of_getElem? (i := 33) rfl))) (mvT hZ (hw _ (List.mem_of_getElem? (i := 34) rfl))) (mvT hZ (hw _ (List.mem_of_getElem? (i := 35) rfl))) (by decide) (backOf (W := 1) (rm5 l Z a0 hw [] p0 (2 : Int32) (0 : Int32) (0 : Int32) T7.heap n0 Z7) hZ (hw _ (List.mem_of_getElem? (i := 35) rfl)) (hw _ (List.mem_of_getElem? (i := 34) rfl)) (by decide) (by decide)) (g := (mkF m 138 #[.val (.int p0), .val (.int p1), .val (.int p2), .val (.ref ar1), .val (.int (2 : Int32)), .val (.int (0 : Int32)), .val (.ref ob52), .val (.int (1 : Int32)), .val (.int (-1 : Int32)), .val (.int (-1 : Int32)), .val (.int (-1 : Int32)), .val (.int (-1 : Int32)), .val (.int (-1 : Int32)), .val (.int (-1 : Int32))] [(.int (0 : Int32)), (.int (0 : Int32)), (.int (2 : Int32)), (.int p0), (.int (-1 : Int32))])) rfl (by rw [hml]; rfl) (argsL := [(.int p0), (.int (2 : Int32)), (.int (0 : Int32)), (.int (0 : Int32))]) (rest := [(.int (-1 : Int32))]) (lenOf pd3 rfl) rfl (by show 2 * 0 + _ ≤ _; exact Nat.le_of_eq rfl) (hb hby at_138) (fun _ _ => ⟨rfl, hh14, (by decide : 2 + 0 ≤ _), (by decide : 7 + 0 ≤ _)⟩)
    dsimp only [Pt.U, Pt.locs, Pt.cells, Pt.slots] at X15 l15 y15 z15 st15 hQ15
    subst l15 y15 z15
    obtain ⟨rfl, Nq15, hh15⟩ := hQ15
    have N15 := Fr.app N14 Nq15
    refine Goes.go (st15) ?_
    show Goes _ _ _ _ _ _ _ (T15.setTop (mkF m 141 _ [(.int (exF p0 (2 : Int32) (0 : Int32) (0 : Int32))), (.int (-1 : Int32))]))
    refine Goes.go (fun _ kk => XS.icmpNo X15.here hx rfl (hb hby at_141) rfl (XT.ii_ne_f (own_m (by decide))) kk) ?_
    show Goes _ _ _ _ _ _ _ (T15.setTop (mkF m 144 _ []))
    refine Goes.go (fun _ kk => XS.iconst X15.here hx rfl (hb hby at_144) kk) ?_
    show Goes _ _ _ _ _ _ _ (T15.setTop (mkF m 145 _ [(.int (1 : Int32))]))
    refine Goes.go (fun _ kk => XS.goto X15.here hx rfl (pc0 := 145) (pc' := 149) rfl (hb hby at_145) (by decide) (by decide) kk) ?_
    show Goes _ _ _ _ _ _ _ (T15.setTop (mkF m 149 _ [(.int (1 : Int32))]))
    refine Goes.go (fun _ kk => XS.istore X15.here hx rfl (hb hby at_149) rfl (l' := #[.val (.int p0), .val (.int p1), .val (.int p2), .val (.ref ar1), .val (.int (2 : Int32)), .val (.int (0 : Int32)), .val (.ref ob52), .val (.int (1 : Int32)), .val (.int (-1 : Int32)), .val (.int (-1 : Int32)), .val (.int (-1 : Int32)), .val (.int (-1 : Int32)), .val (.int (-1 : Int32)), .val (.int (-1 : Int32))]) rfl kk) ?_
    show Goes _ _ _ _ _ _ _ (T15.setTop (mkF m 151 _ []))
    refine Goes.go (fun _ kk => XS.iload X15.here hx rfl (hb hby at_151) rfl kk) ?_
    show Goes _ _ _ _ _ _ _ (T15.setTop (mkF m 153 _ [(.int (1 : Int32))]))
    refine Goes.go (fun _ kk => XS.ifNo X15.here hx rfl (hb hby at_153) rfl (XT.i0_eq_f (by decide)) kk) ?_
    show Goes _ _ _ _ _ _ _ (T15.setTop (mkF m 156 _ []))
    refine Goes.go (fun _ kk => XS.iload X15.here hx rfl (hb hby at_156) rfl kk) ?_
    show Goes _ _ _ _ _ _ _ (T15.setTop (mkF m 158 _ [(.int (-1 : Int32))]))
    refine Goes.go (fun _ kk => XS.iloadN X15.here hx rfl (hb hby at_158) rfl kk) ?_
    show Goes _ _ _ _ _ _ _ (T15.setTop (mkF m 159 _ [(.int p0), (.int (-1 : Int32))]))
    refine Goes.go (fun _ kk => XS.iload X15.here hx rfl (hb hby at_159) rfl kk) ?_
    show Goes _ _ _ _ _ _ _ (T15.setTop (mkF m 161 _ [(.int (2 : Int32)), (.int p0), (.int (-1 : Int32))]))
    refine Goes.go (fun _ kk => XS.iload X15.here hx rfl (hb hby at_161) rfl kk) ?_
    show Goes _ _ _ _ _ _ _ (T15.setTop (mkF m 163 _ [(.int (0 : Int32)), (.int (2 : Int32)), (.int p0), (.int (-1 : Int32))]))
    refine Goes.go (fun _ kk => XS.iconst X15.here hx rfl (hb hby at_163) kk) ?_
    show Goes _ _ _ _ _ _ _ (T15.setTop (mkF m 164 _ [(.int (1 : Int32)), (.int (0 : Int32)), (.int (2 : Int32)), (.int p0), (.int (-1 : Int32))]))
    obtain ⟨_, _, ⟨T16, L16, k16, n16⟩, -, X16, ⟨Lc16, hQ16, l16, y16, z16⟩, st16⟩ := Jvm.LawKit.callS X15 hx (y := (⟨"com/example/wide_schema/wideschema/io/BytesInputReadPinLaw", "exp", "(IIII)I"⟩ : MethodName)) hown (mvT hZ (hw _ (List.mem_of_getElem? (i := 32) rfl))) (mvT hZ (hw _ (List.mem_of_getElem? (i := 33) rfl))) (mvT hZ (hw _ (List.mem_of_getElem? (i := 34) rfl))) (mvT hZ (hw _ (List.mem_of_getElem? (i := 35) rfl))) (by decide) (backOf (W := 1) (rm5 l Z a0 hw [] p0 (2 : Int32) (0 : Int32) (1 : Int32) T7.heap n0 Z7) hZ (hw _ (List.mem_of_getElem? (i := 35) rfl)) (hw _ (List.mem_of_getElem? (i := 34) rfl)) (by decide) (by decide)) (g := (mkF m 164 #[.val (.int p0), .val (.int p1), .val (.int p2), .val (.ref ar1), .val (.int (2 : Int32)), .val (.int (0 : Int32)), .val (.ref ob52), .val (.int (1 : Int32)), .val (.int (-1 : Int32)), .val (.int (-1 : Int32)), .val (.int (-1 : Int32)), .val (.int (-1 : Int32)), .val (.int (-1 : Int32)), .val (.int (-1 : Int32))] [(.int (1 : Int32)), (.int (0 : Int32)), (.int (2 : Int32)), (.int p0), (.int (-1 : Int32))])) rfl (by rw [hml]; rfl) (argsL := [(.int p0), (.int (2 : Int32)), (.int (0 : Int32)), (.int (1 : Int32))]) (rest := [(.int (-1 : Int32))]) (lenOf pd3 rfl) rfl (by show 2 * 0 + _ ≤ _; exact Nat.le_of_eq rfl) (hb hby at_164) (fun _ _ => ⟨rfl, hh15, (by decide : 2 + 0 ≤ _), (by decide : 7 + 0 ≤ _)⟩)
    dsimp only [Pt.U, Pt.locs, Pt.cells, Pt.slots] at X16 l16 y16 z16 st16 hQ16
    subst l16 y16 z16
    obtain ⟨rfl, Nq16, hh16⟩ := hQ16
    have N16 := Fr.app N15 Nq16
    refine Goes.go (st16) ?_
    show Goes _ _ _ _ _ _ _ (T16.setTop (mkF m 167 _ [(.int (exF p0 (2 : Int32) (0 : Int32) (1 : Int32))), (.int (-1 : Int32))]))
    refine Goes.go (fun _ kk => XS.icmpNo X16.here hx rfl (hb hby at_167) rfl (XT.ii_ne_f (own_m (by decide))) kk) ?_
    show Goes _ _ _ _ _ _ _ (T16.setTop (mkF m 170 _ []))
    refine Goes.go (fun _ kk => XS.iconst X16.here hx rfl (hb hby at_170) kk) ?_
    show Goes _ _ _ _ _ _ _ (T16.setTop (mkF m 171 _ [(.int (1 : Int32))]))
    refine Goes.go (fun _ kk => XS.goto X16.here hx rfl (pc0 := 171) (pc' := 175) rfl (hb hby at_171) (by decide) (by decide) kk) ?_
    show Goes _ _ _ _ _ _ _ (T16.setTop (mkF m 175 _ [(.int (1 : Int32))]))
    refine Goes.go (fun _ kk => XS.istore X16.here hx rfl (hb hby at_175) rfl (l' := #[.val (.int p0), .val (.int p1), .val (.int p2), .val (.ref ar1), .val (.int (2 : Int32)), .val (.int (0 : Int32)), .val (.ref ob52), .val (.int (1 : Int32)), .val (.int (-1 : Int32)), .val (.int (-1 : Int32)), .val (.int (-1 : Int32)), .val (.int (-1 : Int32)), .val (.int (-1 : Int32)), .val (.int (-1 : Int32))]) rfl kk) ?_
    show Goes _ _ _ _ _ _ _ (T16.setTop (mkF m 177 _ []))
    refine Goes.go (fun _ kk => XS.iload X16.here hx rfl (hb hby at_177) rfl kk) ?_
    show Goes _ _ _ _ _ _ _ (T16.setTop (mkF m 179 _ [(.int (1 : Int32))]))
    refine Goes.go (fun _ kk => XS.ifNo X16.here hx rfl (hb hby at_179) rfl (XT.i0_eq_f (by decide)) kk) ?_
    show Goes _ _ _ _ _ _ _ (T16.setTop (mkF m 182 _ []))
    refine Goes.go (fun _ kk => XS.iload X16.here hx rfl (hb hby at_182) rfl kk) ?_
    show Goes _ _ _ _ _ _ _ (T16.setTop (mkF m 184 _ [(.int (-1 : Int32))]))
    refine Goes.go (fun _ kk => XS.iloadN X16.here hx rfl (hb hby at_184) rfl kk) ?_
    show Goes _ _ _ _ _ _ _ (T16.setTop (mkF m 185 _ [(.int p0), (.int (-1 : Int32))]))
    refine Goes.go (fun _ kk => XS.iload X16.here hx rfl (hb hby at_185) rfl kk) ?_
    show Goes _ _ _ _ _ _ _ (T16.setTop (mkF m 187 _ [(.int (2 : Int32)), (.int p0), (.int (-1 : Int32))]))
    refine Goes.go (fun _ kk => XS.iload X16.here hx rfl (hb hby at_187) rfl kk) ?_
    show Goes _ _ _ _ _ _ _ (T16.setTop (mkF m 189 _ [(.int (0 : Int32)), (.int (2 : Int32)), (.int p0), (.int (-1 : Int32))]))
    refine Goes.go (fun _ kk => XS.iconst X16.here hx rfl (hb hby at_189) kk) ?_
    show Goes _ _ _ _ _ _ _ (T16.setTop (mkF m 190 _ [(.int (2 : Int32)), (.int (0 : Int32)), (.int (2 : Int32)), (.int p0), (.int (-1 : Int32))]))
    obtain ⟨_, _, ⟨T17, L17, k17, n17⟩, -, X17, ⟨Lc17, hQ17, l17, y17, z17⟩, st17⟩ := Jvm.LawKit.callS X16 hx (y := (⟨"com/example/wide_schema/wideschema/io/BytesInputReadPinLaw", "exp", "(IIII)I"⟩ : MethodName)) hown (mvT hZ (hw _ (List.mem_of_getElem? (i := 32) rfl))) (mvT hZ (hw _ (List.mem_of_getElem? (i := 33) rfl))) (mvT hZ (hw _ (List.mem_of_getElem? (i := 34) rfl))) (mvT hZ (hw _ (List.mem_of_getElem? (i := 35) rfl))) (by decide) (backOf (W := 1) (rm5 l Z a0 hw [] p0 (2 : Int32) (0 : Int32) (2 : Int32) T7.heap n0 Z7) hZ (hw _ (List.mem_of_getElem? (i := 35) rfl)) (hw _ (List.mem_of_getElem? (i := 34) rfl)) (by decide) (by decide)) (g := (mkF m 190 #[.val (.int p0), .val (.int p1), .val (.int p2), .val (.ref ar1), .val (.int (2 : Int32)), .val (.int (0 : Int32)), .val (.ref ob52), .val (.int (1 : Int32)), .val (.int (-1 : Int32)), .val (.int (-1 : Int32)), .val (.int (-1 : Int32)), .val (.int (-1 : Int32)), .val (.int (-1 : Int32)), .val (.int (-1 : Int32))] [(.int (2 : Int32)), (.int (0 : Int32)), (.int (2 : Int32)), (.int p0), (.int (-1 : Int32))])) rfl (by rw [hml]; rfl) (argsL := [(.int p0), (.int (2 : Int32)), (.int (0 : Int32)), (.int (2 : Int32))]) (rest := [(.int (-1 : Int32))]) (lenOf pd3 rfl) rfl (by show 2 * 0 + _ ≤ _; exact Nat.le_of_eq rfl) (hb hby at_190) (fun _ _ => ⟨rfl, hh16, (by decide : 2 + 0 ≤ _), (by decide : 7 + 0 ≤ _)⟩)
    dsimp only [Pt.U, Pt.locs, Pt.cells, Pt.slots] at X17 l17 y17 z17 st17 hQ17
    subst l17 y17 z17
    obtain ⟨rfl, Nq17, hh17⟩ := hQ17
    have N17 := Fr.app N16 Nq17
    refine Goes.go (st17) ?_
    show Goes _ _ _ _ _ _ _ (T17.setTop (mkF m 193 _ [(.int (exF p0 (2 : Int32) (0 : Int32) (2 : Int32))), (.int (-1 : Int32))]))
    refine Goes.go (fun _ kk => XS.icmpNo X17.here hx rfl (hb hby at_193) rfl (XT.ii_ne_f (own_m (by decide))) kk) ?_
    show Goes _ _ _ _ _ _ _ (T17.setTop (mkF m 196 _ []))
    refine Goes.go (fun _ kk => XS.iconst X17.here hx rfl (hb hby at_196) kk) ?_
    show Goes _ _ _ _ _ _ _ (T17.setTop (mkF m 197 _ [(.int (1 : Int32))]))
    refine Goes.go (fun _ kk => XS.goto X17.here hx rfl (pc0 := 197) (pc' := 201) rfl (hb hby at_197) (by decide) (by decide) kk) ?_
    show Goes _ _ _ _ _ _ _ (T17.setTop (mkF m 201 _ [(.int (1 : Int32))]))
    refine Goes.go (fun _ kk => XS.istore X17.here hx rfl (hb hby at_201) rfl (l' := #[.val (.int p0), .val (.int p1), .val (.int p2), .val (.ref ar1), .val (.int (2 : Int32)), .val (.int (0 : Int32)), .val (.ref ob52), .val (.int (1 : Int32)), .val (.int (-1 : Int32)), .val (.int (-1 : Int32)), .val (.int (-1 : Int32)), .val (.int (-1 : Int32)), .val (.int (-1 : Int32)), .val (.int (-1 : Int32))]) rfl kk) ?_
    show Goes _ _ _ _ _ _ _ (T17.setTop (mkF m 203 _ []))
    refine Goes.go (fun _ kk => XS.iload X17.here hx rfl (hb hby at_203) rfl kk) ?_
    show Goes _ _ _ _ _ _ _ (T17.setTop (mkF m 205 _ [(.int (1 : Int32))]))
    refine Goes.go (fun _ kk => XS.ifNo X17.here hx rfl (hb hby at_205) rfl (XT.i0_eq_f (by decide)) kk) ?_
    show Goes _ _ _ _ _ _ _ (T17.setTop (mkF m 208 _ []))
    refine Goes.go (fun _ kk => XS.iload X17.here hx rfl (hb hby at_208) rfl kk) ?_
    show Goes _ _ _ _ _ _ _ (T17.setTop (mkF m 210 _ [(.int (-1 : Int32))]))
    refine Goes.go (fun _ kk => XS.iloadN X17.here hx rfl (hb hby at_210) rfl kk) ?_
    show Goes _ _ _ _ _ _ _ (T17.setTop (mkF m 211 _ [(.int p0), (.int (-1 : Int32))]))
    refine Goes.go (fun _ kk => XS.iload X17.here hx rfl (hb hby at_211) rfl kk) ?_
    show Goes _ _ _ _ _ _ _ (T17.setTop (mkF m 213 _ [(.int (2 : Int32)), (.int p0), (.int (-1 : Int32))]))
    refine Goes.go (fun _ kk => XS.iload X17.here hx rfl (hb hby at_213) rfl kk) ?_
    show Goes _ _ _ _ _ _ _ (T17.setTop (mkF m 215 _ [(.int (0 : Int32)), (.int (2 : Int32)), (.int p0), (.int (-1 : Int32))]))
    refine Goes.go (fun _ kk => XS.iconst X17.here hx rfl (hb hby at_215) kk) ?_
    show Goes _ _ _ _ _ _ _ (T17.setTop (mkF m 216 _ [(.int (3 : Int32)), (.int (0 : Int32)), (.int (2 : Int32)), (.int p0), (.int (-1 : Int32))]))
    obtain ⟨_, _, ⟨T18, L18, k18, n18⟩, -, X18, ⟨Lc18, hQ18, l18, y18, z18⟩, st18⟩ := Jvm.LawKit.callS X17 hx (y := (⟨"com/example/wide_schema/wideschema/io/BytesInputReadPinLaw", "exp", "(IIII)I"⟩ : MethodName)) hown (mvT hZ (hw _ (List.mem_of_getElem? (i := 32) rfl))) (mvT hZ (hw _ (List.mem_of_getElem? (i := 33) rfl))) (mvT hZ (hw _ (List.mem_of_getElem? (i := 34) rfl))) (mvT hZ (hw _ (List.mem_of_getElem? (i := 35) rfl))) (by decide) (backOf (W := 1) (rm5 l Z a0 hw [] p0 (2 : Int32) (0 : Int32) (3 : Int32) T7.heap n0 Z7) hZ (hw _ (List.mem_of_getElem? (i := 35) rfl)) (hw _ (List.mem_of_getElem? (i := 34) rfl)) (by decide) (by decide)) (g := (mkF m 216 #[.val (.int p0), .val (.int p1), .val (.int p2), .val (.ref ar1), .val (.int (2 : Int32)), .val (.int (0 : Int32)), .val (.ref ob52), .val (.int (1 : Int32)), .val (.int (-1 : Int32)), .val (.int (-1 : Int32)), .val (.int (-1 : Int32)), .val (.int (-1 : Int32)), .val (.int (-1 : Int32)), .val (.int (-1 : Int32))] [(.int (3 : Int32)), (.int (0 : Int32)), (.int (2 : Int32)), (.int p0), (.int (-1 : Int32))])) rfl (by rw [hml]; rfl) (argsL := [(.int p0), (.int (2 : Int32)), (.int (0 : Int32)), (.int (3 : Int32))]) (rest := [(.int (-1 : Int32))]) (lenOf pd3 rfl) rfl (by show 2 * 0 + _ ≤ _; exact Nat.le_of_eq rfl) (hb hby at_216) (fun _ _ => ⟨rfl, hh17, (by decide : 2 + 0 ≤ _), (by decide : 7 + 0 ≤ _)⟩)
    dsimp only [Pt.U, Pt.locs, Pt.cells, Pt.slots] at X18 l18 y18 z18 st18 hQ18
    subst l18 y18 z18
    obtain ⟨rfl, Nq18, hh18⟩ := hQ18
    have N18 := Fr.app N17 Nq18
    refine Goes.go (st18) ?_
    show Goes _ _ _ _ _ _ _ (T18.setTop (mkF m 219 _ [(.int (exF p0 (2 : Int32) (0 : Int32) (3 : Int32))), (.int (-1 : Int32))]))
    refine Goes.go (fun _ kk => XS.icmpNo X18.here hx rfl (hb hby at_219) rfl (XT.ii_ne_f (own_m (by decide))) kk) ?_
    show Goes _ _ _ _ _ _ _ (T18.setTop (mkF m 222 _ []))
    refine Goes.go (fun _ kk => XS.iconst X18.here hx rfl (hb hby at_222) kk) ?_
    show Goes _ _ _ _ _ _ _ (T18.setTop (mkF m 223 _ [(.int (1 : Int32))]))
    refine Goes.go (fun _ kk => XS.goto X18.here hx rfl (pc0 := 223) (pc' := 227) rfl (hb hby at_223) (by decide) (by decide) kk) ?_
    show Goes _ _ _ _ _ _ _ (T18.setTop (mkF m 227 _ [(.int (1 : Int32))]))
    refine Goes.go (fun _ kk => XS.istore X18.here hx rfl (hb hby at_227) rfl (l' := #[.val (.int p0), .val (.int p1), .val (.int p2), .val (.ref ar1), .val (.int (2 : Int32)), .val (.int (0 : Int32)), .val (.ref ob52), .val (.int (1 : Int32)), .val (.int (-1 : Int32)), .val (.int (-1 : Int32)), .val (.int (-1 : Int32)), .val (.int (-1 : Int32)), .val (.int (-1 : Int32)), .val (.int (-1 : Int32))]) rfl kk) ?_
    show Goes _ _ _ _ _ _ _ (T18.setTop (mkF m 229 _ []))
    refine Goes.go (fun _ kk => XS.iload X18.here hx rfl (hb hby at_229) rfl kk) ?_
    show Goes _ _ _ _ _ _ _ (T18.setTop (mkF m 231 _ [(.int (1 : Int32))]))
    refine Goes.go (fun _ kk => XS.ifNo X18.here hx rfl (hb hby at_231) rfl (XT.i0_eq_f (by decide)) kk) ?_
    show Goes _ _ _ _ _ _ _ (T18.setTop (mkF m 234 _ []))
    refine Goes.go (fun _ kk => XS.iload X18.here hx rfl (hb hby at_234) rfl kk) ?_
    show Goes _ _ _ _ _ _ _ (T18.setTop (mkF m 236 _ [(.int (-1 : Int32))]))
    refine Goes.go (fun _ kk => XS.iloadN X18.here hx rfl (hb hby at_236) rfl kk) ?_
    show Goes _ _ _ _ _ _ _ (T18.setTop (mkF m 237 _ [(.int p0), (.int (-1 : Int32))]))
    refine Goes.go (fun _ kk => XS.iload X18.here hx rfl (hb hby at_237) rfl kk) ?_
    show Goes _ _ _ _ _ _ _ (T18.setTop (mkF m 239 _ [(.int (2 : Int32)), (.int p0), (.int (-1 : Int32))]))
    refine Goes.go (fun _ kk => XS.iload X18.here hx rfl (hb hby at_239) rfl kk) ?_
    show Goes _ _ _ _ _ _ _ (T18.setTop (mkF m 241 _ [(.int (0 : Int32)), (.int (2 : Int32)), (.int p0), (.int (-1 : Int32))]))
    refine Goes.go (fun _ kk => XS.iconst X18.here hx rfl (hb hby at_241) kk) ?_
    show Goes _ _ _ _ _ _ _ (T18.setTop (mkF m 242 _ [(.int (4 : Int32)), (.int (0 : Int32)), (.int (2 : Int32)), (.int p0), (.int (-1 : Int32))]))
    obtain ⟨_, _, ⟨T19, L19, k19, n19⟩, -, X19, ⟨Lc19, hQ19, l19, y19, z19⟩, st19⟩ := Jvm.LawKit.callS X18 hx (y := (⟨"com/example/wide_schema/wideschema/io/BytesInputReadPinLaw", "exp", "(IIII)I"⟩ : MethodName)) hown (mvT hZ (hw _ (List.mem_of_getElem? (i := 32) rfl))) (mvT hZ (hw _ (List.mem_of_getElem? (i := 33) rfl))) (mvT hZ (hw _ (List.mem_of_getElem? (i := 34) rfl))) (mvT hZ (hw _ (List.mem_of_getElem? (i := 35) rfl))) (by decide) (backOf (W := 1) (rm5 l Z a0 hw [] p0 (2 : Int32) (0 : Int32) (4 : Int32) T7.heap n0 Z7) hZ (hw _ (List.mem_of_getElem? (i := 35) rfl)) (hw _ (List.mem_of_getElem? (i := 34) rfl)) (by decide) (by decide)) (g := (mkF m 242 #[.val (.int p0), .val (.int p1), .val (.int p2), .val (.ref ar1), .val (.int (2 : Int32)), .val (.int (0 : Int32)), .val (.ref ob52), .val (.int (1 : Int32)), .val (.int (-1 : Int32)), .val (.int (-1 : Int32)), .val (.int (-1 : Int32)), .val (.int (-1 : Int32)), .val (.int (-1 : Int32)), .val (.int (-1 : Int32))] [(.int (4 : Int32)), (.int (0 : Int32)), (.int (2 : Int32)), (.int p0), (.int (-1 : Int32))])) rfl (by rw [hml]; rfl) (argsL := [(.int p0), (.int (2 : Int32)), (.int (0 : Int32)), (.int (4 : Int32))]) (rest := [(.int (-1 : Int32))]) (lenOf pd3 rfl) rfl (by show 2 * 0 + _ ≤ _; exact Nat.le_of_eq rfl) (hb hby at_242) (fun _ _ => ⟨rfl, hh18, (by decide : 2 + 0 ≤ _), (by decide : 7 + 0 ≤ _)⟩)
    dsimp only [Pt.U, Pt.locs, Pt.cells, Pt.slots] at X19 l19 y19 z19 st19 hQ19
    subst l19 y19 z19
    obtain ⟨rfl, Nq19, hh19⟩ := hQ19
    have N19 := Fr.app N18 Nq19
    refine Goes.go (st19) ?_
    show Goes _ _ _ _ _ _ _ (T19.setTop (mkF m 245 _ [(.int (exF p0 (2 : Int32) (0 : Int32) (4 : Int32))), (.int (-1 : Int32))]))
    refine Goes.go (fun _ kk => XS.icmpNo X19.here hx rfl (hb hby at_245) rfl (XT.ii_ne_f (own_m (by decide))) kk) ?_
    show Goes _ _ _ _ _ _ _ (T19.setTop (mkF m 248 _ []))
    refine Goes.go (fun _ kk => XS.iconst X19.here hx rfl (hb hby at_248) kk) ?_
    show Goes _ _ _ _ _ _ _ (T19.setTop (mkF m 249 _ [(.int (1 : Int32))]))
    refine Goes.go (fun _ kk => XS.goto X19.here hx rfl (pc0 := 249) (pc' := 253) rfl (hb hby at_249) (by decide) (by decide) kk) ?_
    show Goes _ _ _ _ _ _ _ (T19.setTop (mkF m 253 _ [(.int (1 : Int32))]))
    refine Goes.go (fun _ kk => XS.istore X19.here hx rfl (hb hby at_253) rfl (l' := #[.val (.int p0), .val (.int p1), .val (.int p2), .val (.ref ar1), .val (.int (2 : Int32)), .val (.int (0 : Int32)), .val (.ref ob52), .val (.int (1 : Int32)), .val (.int (-1 : Int32)), .val (.int (-1 : Int32)), .val (.int (-1 : Int32)), .val (.int (-1 : Int32)), .val (.int (-1 : Int32)), .val (.int (-1 : Int32))]) rfl kk) ?_
    show Goes _ _ _ _ _ _ _ (T19.setTop (mkF m 255 _ []))
    refine Goes.go (fun _ kk => XS.iload X19.here hx rfl (hb hby at_255) rfl kk) ?_
    show Goes _ _ _ _ _ _ _ (T19.setTop (mkF m 257 _ [(.int (1 : Int32))]))
    refine Goes.go (fun _ kk => XS.ifNo X19.here hx rfl (hb hby at_257) rfl (XT.i0_eq_f (by decide)) kk) ?_
    show Goes _ _ _ _ _ _ _ (T19.setTop (mkF m 260 _ []))
    refine Goes.go (fun _ kk => XS.iload X19.here hx rfl (hb hby at_260) rfl kk) ?_
    show Goes _ _ _ _ _ _ _ (T19.setTop (mkF m 262 _ [(.int (-1 : Int32))]))
    refine Goes.go (fun _ kk => XS.iloadN X19.here hx rfl (hb hby at_262) rfl kk) ?_
    show Goes _ _ _ _ _ _ _ (T19.setTop (mkF m 263 _ [(.int p0), (.int (-1 : Int32))]))
    refine Goes.go (fun _ kk => XS.iload X19.here hx rfl (hb hby at_263) rfl kk) ?_
    show Goes _ _ _ _ _ _ _ (T19.setTop (mkF m 265 _ [(.int (2 : Int32)), (.int p0), (.int (-1 : Int32))]))
    refine Goes.go (fun _ kk => XS.iload X19.here hx rfl (hb hby at_265) rfl kk) ?_
    show Goes _ _ _ _ _ _ _ (T19.setTop (mkF m 267 _ [(.int (0 : Int32)), (.int (2 : Int32)), (.int p0), (.int (-1 : Int32))]))
    refine Goes.go (fun _ kk => XS.iconst X19.here hx rfl (hb hby at_267) kk) ?_
    show Goes _ _ _ _ _ _ _ (T19.setTop (mkF m 268 _ [(.int (5 : Int32)), (.int (0 : Int32)), (.int (2 : Int32)), (.int p0), (.int (-1 : Int32))]))
    obtain ⟨_, _, ⟨T20, L20, k20, n20⟩, -, X20, ⟨Lc20, hQ20, l20, y20, z20⟩, st20⟩ := Jvm.LawKit.callS X19 hx (y := (⟨"com/example/wide_schema/wideschema/io/BytesInputReadPinLaw", "exp", "(IIII)I"⟩ : MethodName)) hown (mvT hZ (hw _ (List.mem_of_getElem? (i := 32) rfl))) (mvT hZ (hw _ (List.mem_of_getElem? (i := 33) rfl))) (mvT hZ (hw _ (List.mem_of_getElem? (i := 34) rfl))) (mvT hZ (hw _ (List.mem_of_getElem? (i := 35) rfl))) (by decide) (backOf (W := 1) (rm5 l Z a0 hw [] p0 (2 : Int32) (0 : Int32) (5 : Int32) T7.heap n0 Z7) hZ (hw _ (List.mem_of_getElem? (i := 35) rfl)) (hw _ (List.mem_of_getElem? (i := 34) rfl)) (by decide) (by decide)) (g := (mkF m 268 #[.val (.int p0), .val (.int p1), .val (.int p2), .val (.ref ar1), .val (.int (2 : Int32)), .val (.int (0 : Int32)), .val (.ref ob52), .val (.int (1 : Int32)), .val (.int (-1 : Int32)), .val (.int (-1 : Int32)), .val (.int (-1 : Int32)), .val (.int (-1 : Int32)), .val (.int (-1 : Int32)), .val (.int (-1 : Int32))] [(.int (5 : Int32)), (.int (0 : Int32)), (.int (2 : Int32)), (.int p0), (.int (-1 : Int32))])) rfl (by rw [hml]; rfl) (argsL := [(.int p0), (.int (2 : Int32)), (.int (0 : Int32)), (.int (5 : Int32))]) (rest := [(.int (-1 : Int32))]) (lenOf pd3 rfl) rfl (by show 2 * 0 + _ ≤ _; exact Nat.le_of_eq rfl) (hb hby at_268) (fun _ _ => ⟨rfl, hh19, (by decide : 2 + 0 ≤ _), (by decide : 7 + 0 ≤ _)⟩)
    dsimp only [Pt.U, Pt.locs, Pt.cells, Pt.slots] at X20 l20 y20 z20 st20 hQ20
    subst l20 y20 z20
    obtain ⟨rfl, Nq20, hh20⟩ := hQ20
    have N20 := Fr.app N19 Nq20
    refine Goes.go (st20) ?_
    show Goes _ _ _ _ _ _ _ (T20.setTop (mkF m 271 _ [(.int (exF p0 (2 : Int32) (0 : Int32) (5 : Int32))), (.int (-1 : Int32))]))
    refine Goes.go (fun _ kk => XS.icmpNo X20.here hx rfl (hb hby at_271) rfl (XT.ii_ne_f (own_m (by decide))) kk) ?_
    show Goes _ _ _ _ _ _ _ (T20.setTop (mkF m 274 _ []))
    refine Goes.go (fun _ kk => XS.iconst X20.here hx rfl (hb hby at_274) kk) ?_
    show Goes _ _ _ _ _ _ _ (T20.setTop (mkF m 275 _ [(.int (1 : Int32))]))
    refine Goes.go (fun _ kk => XS.goto X20.here hx rfl (pc0 := 275) (pc' := 279) rfl (hb hby at_275) (by decide) (by decide) kk) ?_
    show Goes _ _ _ _ _ _ _ (T20.setTop (mkF m 279 _ [(.int (1 : Int32))]))
    refine Goes.go (fun _ kk => XS.istore X20.here hx rfl (hb hby at_279) rfl (l' := #[.val (.int p0), .val (.int p1), .val (.int p2), .val (.ref ar1), .val (.int (2 : Int32)), .val (.int (0 : Int32)), .val (.ref ob52), .val (.int (1 : Int32)), .val (.int (-1 : Int32)), .val (.int (-1 : Int32)), .val (.int (-1 : Int32)), .val (.int (-1 : Int32)), .val (.int (-1 : Int32)), .val (.int (-1 : Int32))]) rfl kk) ?_
    show Goes _ _ _ _ _ _ _ (T20.setTop (mkF m 281 _ []))
    refine Goes.go (fun _ kk => XS.iload X20.here hx rfl (hb hby at_281) rfl kk) ?_
    show Goes _ _ _ _ _ _ _ (T20.setTop (mkF m 283 _ [(.int (1 : Int32))]))
    refine Goes.go (fun _ kk => XS.ifNo X20.here hx rfl (hb hby at_283) rfl (XT.i0_eq_f (by decide)) kk) ?_
    show Goes _ _ _ _ _ _ _ (T20.setTop (mkF m 286 _ []))
    refine Goes.go (fun _ kk => XS.aload X20.here hx rfl (hb hby at_286) rfl rfl kk) ?_
    show Goes _ _ _ _ _ _ _ (T20.setTop (mkF m 288 _ [(.ref ob52)]))
    obtain ⟨cq21, kq21, qa21, qb21, qc21⟩ := isOf hZ hh20 Eq7
    obtain ⟨_, _, ⟨T21, L21, k21, n21⟩, -, X21, ⟨Lc21, hQ21, l21, y21, z21⟩, st21⟩ := X20.virtualBack hx (y := (⟨"com/example/wide_schema/wideschema/io/BytesInput", "available", "()I"⟩ : MethodName)) (z := (⟨"com/example/wide_schema/wideschema/io/BytesInput", "available", "()I"⟩ : MethodName)) hown (mvT hZ (hw _ (List.mem_of_getElem? (i := 22) rfl))) (mvT hZ (hw _ (List.mem_of_getElem? (i := 23) rfl))) (notFace_of_selects (args := #[]) (mvT hZ (hw _ (List.mem_of_getElem? (i := 25) rfl)))) (mvT hZ (hw _ (List.mem_of_getElem? (i := 25) rfl))) (mvT hZ (hw _ (List.mem_of_getElem? (i := 24) rfl))) (by decide) (backOf (W := 0) (rm3 l Z a0 hw [] ob52 (2 : Int32) (2 : Int32) T7.heap n0 Z7 Fq7_1 Fq7_2) hZ (hw _ (List.mem_of_getElem? (i := 26) rfl)) (hw _ (List.mem_of_getElem? (i := 4) rfl)) (by decide) (by decide)) qa21 qc21 (g := (mkF m 288 #[.val (.int p0), .val (.int p1), .val (.int p2), .val (.ref ar1), .val (.int (2 : Int32)), .val (.int (0 : Int32)), .val (.ref ob52), .val (.int (1 : Int32)), .val (.int (-1 : Int32)), .val (.int (-1 : Int32)), .val (.int (-1 : Int32)), .val (.int (-1 : Int32)), .val (.int (-1 : Int32)), .val (.int (-1 : Int32))] [(.ref ob52)])) rfl (by rw [hml]; rfl) (Steps.refl _) (argsL := []) (rest := []) (lenOf pd2 rfl) rfl (by show 2 * 0 + _ ≤ _; exact Nat.le_of_eq rfl) (hb hby at_288) (fun _ _ => ⟨rfl, hh20, (by decide : 2 + 0 ≤ _), (by decide : 7 + 0 ≤ _)⟩)
    dsimp only [Pt.U, Pt.locs, Pt.cells, Pt.slots] at X21 l21 y21 z21 st21 hQ21
    subst l21 y21 z21
    obtain ⟨rfl, Nq21, hh21⟩ := hQ21
    have N21 := Fr.app N20 Nq21
    refine Goes.go (fun _ kk => st21.trans kk) ?_
    show Goes _ _ _ _ _ _ _ (T21.setTop (mkF m 291 _ [(.int (0 : Int32))]))
    refine Goes.go (fun _ kk => XS.ifNo X21.here hx rfl (hb hby at_291) rfl (XT.i0_ne_f (by decide)) kk) ?_
    show Goes _ _ _ _ _ _ _ (T21.setTop (mkF m 294 _ []))
    refine Goes.go (fun _ kk => XS.iconst X21.here hx rfl (hb hby at_294) kk) ?_
    show Goes _ _ _ _ _ _ _ (T21.setTop (mkF m 295 _ [(.int (1 : Int32))]))
    refine Goes.go (fun _ kk => XS.goto X21.here hx rfl (pc0 := 295) (pc' := 299) rfl (hb hby at_295) (by decide) (by decide) kk) ?_
    show Goes _ _ _ _ _ _ _ (T21.setTop (mkF m 299 _ [(.int (1 : Int32))]))
    refine Goes.go (fun _ kk => XS.istore X21.here hx rfl (hb hby at_299) rfl (l' := #[.val (.int p0), .val (.int p1), .val (.int p2), .val (.ref ar1), .val (.int (2 : Int32)), .val (.int (0 : Int32)), .val (.ref ob52), .val (.int (1 : Int32)), .val (.int (-1 : Int32)), .val (.int (-1 : Int32)), .val (.int (-1 : Int32)), .val (.int (-1 : Int32)), .val (.int (-1 : Int32)), .val (.int (-1 : Int32))]) rfl kk) ?_
    show Goes _ _ _ _ _ _ _ (T21.setTop (mkF m 301 _ []))
    refine Goes.go (fun _ kk => XS.iload X21.here hx rfl (hb hby at_301) rfl kk) ?_
    show Goes _ _ _ _ _ _ _ (T21.setTop (mkF m 303 _ [(.int (1 : Int32))]))
    exact Goes.outZ X21 hx hlk hret rfl (hb hby at_303) hh21 ⟨rfl, N21⟩ (by decide) (by decide)
  · skip
    show Goes _ _ _ _ _ _ _ (T5.setTop (mkF m 52 #[.val (.int p0), .val (.int p1), .val (.int p2), .val (.ref ar1), .val (.int (2 : Int32)), .val (.int (1 : Int32)), .unset, .unset, .unset, .unset, .unset, .unset, .unset, .unset] []))
    obtain ⟨T6, h6, X6, e6, E6, A6, D6, -, st6⟩ := newO X5 hx hZ hown (hw _ (List.mem_of_getElem? (i := 2) rfl)) (hw _ (List.mem_of_getElem? (i := 3) rfl)) (hw _ (List.mem_of_getElem? (i := 4) rfl)) e5 (g := (mkF m 52 #[.val (.int p0), .val (.int p1), .val (.int p2), .val (.ref ar1), .val (.int (2 : Int32)), .val (.int (1 : Int32)), .unset, .unset, .unset, .unset, .unset, .unset, .unset, .unset] [])) rfl (hb hby at_52) (by decide) (by decide)
    obtain ⟨ob52, gob52⟩ : ∃ z, z = h5.size := ⟨_, rfl⟩
    rw [← gob52] at A6 D6 st6
    have ne_ar1_ob52 : ar1 ≠ ob52 := by rw [gob52]; exact Nat.ne_of_lt f_4.lt
    have f_5 := f_4.ext E6
    have Z6 : n0 ≤ h6.size := Nat.le_trans Z5 E6.1
    have ge_ob52 : n0 ≤ ob52 := Nat.le_trans Z5 (Nat.le_of_eq gob52.symm)
    have f_6 : Fld Z h6 ob52 "com/example/wide_schema/wideschema/io/BytesInput" "_bytes" "[B" .null := D6 (Or.inr (hw _ (List.mem_of_getElem? (i := 17) rfl))) (ty := (.array .byte)) (by decide)
    have f_7 : Fld Z h6 ob52 "com/example/wide_schema/wideschema/io/BytesInput" "_next" "I" (.int (0 : Int32)) := D6 (Or.inl (hw _ (List.mem_of_getElem? (i := 19) rfl))) (ty := .int) (by decide)
    have f_8 : Fld Z h6 ob52 "com/example/wide_schema/wideschema/io/BytesInput" "_end" "I" (.int (0 : Int32)) := D6 (Or.inr (hw _ (List.mem_of_getElem? (i := 21) rfl))) (ty := .int) (by decide)
    refine Goes.go (st6) ?_
    show Goes _ _ _ _ _ _ _ (T6.setTop (mkF m 55 _ [(.ref ob52)]))
    refine Goes.go (fun _ kk => XS.dup X6.here hx rfl (hb hby at_55) rfl rfl kk) ?_
    show Goes _ _ _ _ _ _ _ (T6.setTop (mkF m 56 _ [(.ref ob52), (.ref ob52)]))
    refine Goes.go (fun _ kk => XS.aloadN X6.here hx rfl (hb hby at_56) rfl rfl kk) ?_
    show Goes _ _ _ _ _ _ _ (T6.setTop (mkF m 57 _ [(.ref ar1), (.ref ob52), (.ref ob52)]))
    refine Goes.go (fun _ kk => XS.iload X6.here hx rfl (hb hby at_57) rfl kk) ?_
    show Goes _ _ _ _ _ _ _ (T6.setTop (mkF m 59 _ [(.int (2 : Int32)), (.ref ar1), (.ref ob52), (.ref ob52)]))
    refine Goes.go (fun _ kk => XS.iload X6.here hx rfl (hb hby at_59) rfl kk) ?_
    show Goes _ _ _ _ _ _ _ (T6.setTop (mkF m 61 _ [(.int (1 : Int32)), (.int (2 : Int32)), (.ref ar1), (.ref ob52), (.ref ob52)]))
    obtain ⟨_, _, ⟨T7, L7, k7, n7⟩, -, X7, ⟨Lc7, hQ7, l7, y7, z7⟩, st7⟩ := X6.specialBack hx (y := (⟨"com/example/wide_schema/wideschema/io/BytesInput", "<init>", "([BII)V"⟩ : MethodName)) rfl hown (mvT hZ (hw _ (List.mem_of_getElem? (i := 5) rfl))) (mvT hZ (hw _ (List.mem_of_getElem? (i := 6) rfl))) (mvT hZ (hw _ (List.mem_of_getElem? (i := 7) rfl))) (by decide) (backOf (W := 1) (rm1 l Z a0 hw [] ob52 ar1 (2 : Int32) (1 : Int32) h6 n0 Z6 A6 f_6 f_7 f_8 ge_ob52) hZ (hw _ (List.mem_of_getElem? (i := 7) rfl)) (hw _ (List.mem_of_getElem? (i := 4) rfl)) (by decide) (by decide)) (g := (mkF m 61 #[.val (.int p0), .val (.int p1), .val (.int p2), .val (.ref ar1), .val (.int (2 : Int32)), .val (.int (1 : Int32)), .unset, .unset, .unset, .unset, .unset, .unset, .unset, .unset] [(.int (1 : Int32)), (.int (2 : Int32)), (.ref ar1), (.ref ob52), (.ref ob52)])) rfl (by rw [hml]; rfl) (Steps.refl _) (a := ob52) (argsL := [(.ref ar1), (.int (2 : Int32)), (.int (1 : Int32))]) (rest := [(.ref ob52)]) (lenOf pd0 rfl) rfl (by show 2 * 0 + _ ≤ _; exact Nat.le_of_eq rfl) (hb hby at_61) (fun _ _ => ⟨rfl, e6, (by decide : 2 + 0 ≤ _), (by decide : 7 + 0 ≤ _)⟩)
    dsimp only [Pt.U, Pt.locs, Pt.cells, Pt.slots] at X7 l7 y7 z7 st7 hQ7
    subst l7 y7 z7
    obtain ⟨rfl, Nq7, Kq7, Eq7, Fq7_0, Fq7_1, Fq7_2⟩ := hQ7
    have N7 := Fr.app N5 Nq7
    have Z7 : n0 ≤ T7.heap.size := Nat.le_trans Z6 Kq7.1
    have f_9 := Arl.keep f_5 Kq7 (ninS ne_ar1_ob52 nin0)
    refine Goes.go (fun _ kk => st7.trans kk) ?_
    show Goes _ _ _ _ _ _ _ (T7.setTop (mkF m 64 _ [(.ref ob52)]))
    refine Goes.go (fun _ kk => XS.astore X7.here hx rfl (hb hby at_64) rfl rfl (l' := #[.val (.int p0), .val (.int p1), .val (.int p2), .val (.ref ar1), .val (.int (2 : Int32)), .val (.int (1 : Int32)), .val (.ref ob52), .unset, .unset, .unset, .unset, .unset, .unset, .unset]) rfl kk) ?_
    show Goes _ _ _ _ _ _ _ (T7.setTop (mkF m 66 #[.val (.int p0), .val (.int p1), .val (.int p2), .val (.ref ar1), .val (.int (2 : Int32)), .val (.int (1 : Int32)), .val (.ref ob52), .unset, .unset, .unset, .unset, .unset, .unset, .unset] []))
    refine Goes.go (fun _ kk => XS.aload X7.here hx rfl (hb hby at_66) rfl rfl kk) ?_
    show Goes _ _ _ _ _ _ _ (T7.setTop (mkF m 68 _ [(.ref ob52)]))
    obtain ⟨cq8, kq8, qa8, qb8, qc8⟩ := isOf hZ rfl Eq7
    obtain ⟨_, _, ⟨T8, L8, k8, n8⟩, -, X8, ⟨Lc8, hQ8, l8, y8, z8⟩, st8⟩ := X7.virtualBack hx (y := (⟨"com/example/wide_schema/wideschema/io/BytesInput", "available", "()I"⟩ : MethodName)) (z := (⟨"com/example/wide_schema/wideschema/io/BytesInput", "available", "()I"⟩ : MethodName)) hown (mvT hZ (hw _ (List.mem_of_getElem? (i := 22) rfl))) (mvT hZ (hw _ (List.mem_of_getElem? (i := 23) rfl))) (notFace_of_selects (args := #[]) (mvT hZ (hw _ (List.mem_of_getElem? (i := 25) rfl)))) (mvT hZ (hw _ (List.mem_of_getElem? (i := 25) rfl))) (mvT hZ (hw _ (List.mem_of_getElem? (i := 24) rfl))) (by decide) (backOf (W := 0) (rm3 l Z a0 hw [] ob52 (2 : Int32) (3 : Int32) T7.heap n0 Z7 Fq7_1 Fq7_2) hZ (hw _ (List.mem_of_getElem? (i := 26) rfl)) (hw _ (List.mem_of_getElem? (i := 4) rfl)) (by decide) (by decide)) qa8 qc8 (g := (mkF m 68 #[.val (.int p0), .val (.int p1), .val (.int p2), .val (.ref ar1), .val (.int (2 : Int32)), .val (.int (1 : Int32)), .val (.ref ob52), .unset, .unset, .unset, .unset, .unset, .unset, .unset] [(.ref ob52)])) rfl (by rw [hml]; rfl) (Steps.refl _) (argsL := []) (rest := []) (lenOf pd2 rfl) rfl (by show 2 * 0 + _ ≤ _; exact Nat.le_of_eq rfl) (hb hby at_68) (fun _ _ => ⟨rfl, rfl, (by decide : 2 + 0 ≤ _), (by decide : 7 + 0 ≤ _)⟩)
    dsimp only [Pt.U, Pt.locs, Pt.cells, Pt.slots] at X8 l8 y8 z8 st8 hQ8
    subst l8 y8 z8
    obtain ⟨rfl, Nq8, hh8⟩ := hQ8
    have N8 := Fr.app N7 Nq8
    refine Goes.go (fun _ kk => st8.trans kk) ?_
    show Goes _ _ _ _ _ _ _ (T8.setTop (mkF m 71 _ [(.int (1 : Int32))]))
    refine Goes.go (fun _ kk => XS.iload X8.here hx rfl (hb hby at_71) rfl kk) ?_
    show Goes _ _ _ _ _ _ _ (T8.setTop (mkF m 73 _ [(.int (1 : Int32)), (.int (1 : Int32))]))
    refine Goes.go (fun _ kk => XS.icmpNo X8.here hx rfl (hb hby at_73) rfl (XT.ii_ne_f (by decide)) kk) ?_
    show Goes _ _ _ _ _ _ _ (T8.setTop (mkF m 76 _ []))
    refine Goes.go (fun _ kk => XS.iconst X8.here hx rfl (hb hby at_76) kk) ?_
    show Goes _ _ _ _ _ _ _ (T8.setTop (mkF m 77 _ [(.int (1 : Int32))]))
    refine Goes.go (fun _ kk => XS.goto X8.here hx rfl (pc0 := 77) (pc' := 81) rfl (hb hby at_77) (by decide) (by decide) kk) ?_
    show Goes _ _ _ _ _ _ _ (T8.setTop (mkF m 81 _ [(.int (1 : Int32))]))
    refine Goes.go (fun _ kk => XS.istore X8.here hx rfl (hb hby at_81) rfl (l' := #[.val (.int p0), .val (.int p1), .val (.int p2), .val (.ref ar1), .val (.int (2 : Int32)), .val (.int (1 : Int32)), .val (.ref ob52), .val (.int (1 : Int32)), .unset, .unset, .unset, .unset, .unset, .unset]) rfl kk) ?_
    show Goes _ _ _ _ _ _ _ (T8.setTop (mkF m 83 #[.val (.int p0), .val (.int p1), .val (.int p2), .val (.ref ar1), .val (.int (2 : Int32)), .val (.int (1 : Int32)), .val (.ref ob52), .val (.int (1 : Int32)), .unset, .unset, .unset, .unset, .unset, .unset] []))
    refine Goes.go (fun _ kk => XS.aload X8.here hx rfl (hb hby at_83) rfl rfl kk) ?_
    show Goes _ _ _ _ _ _ _ (T8.setTop (mkF m 85 _ [(.ref ob52)]))
    obtain ⟨cq9, kq9, qa9, qb9, qc9⟩ := isOf hZ hh8 Eq7
    obtain ⟨_, _, ⟨T9, L9, k9, n9⟩, -, X9, ⟨Lc9, hQ9, l9, y9, z9⟩, st9⟩ := X8.virtualBack hx (y := (⟨"com/example/wide_schema/wideschema/io/BytesInput", "read", "()I"⟩ : MethodName)) (z := (⟨"com/example/wide_schema/wideschema/io/BytesInput", "read", "()I"⟩ : MethodName)) hown (mvT hZ (hw _ (List.mem_of_getElem? (i := 27) rfl))) (mvT hZ (hw _ (List.mem_of_getElem? (i := 28) rfl))) (notFace_of_selects (args := #[]) (mvT hZ (hw _ (List.mem_of_getElem? (i := 30) rfl)))) (mvT hZ (hw _ (List.mem_of_getElem? (i := 30) rfl))) (mvT hZ (hw _ (List.mem_of_getElem? (i := 29) rfl))) (by decide) (backOf (W := 0) (rmY l Z a0 hw [] ob52 ar1 _ (2 : Int32) (3 : Int32) (((p0).toUInt32 >>> ((16 : Int32) &&& 31).toUInt32).toInt32).toInt8.toInt32 T7.heap n0 Z7 Eq7 Fq7_0 Fq7_1 Fq7_2 ge_ob52 f_9 (by decide) (by decide) rfl) hZ (hw _ (List.mem_of_getElem? (i := 31) rfl)) (hw _ (List.mem_of_getElem? (i := 4) rfl)) (by decide) (by decide)) qa9 qc9 (g := (mkF m 85 #[.val (.int p0), .val (.int p1), .val (.int p2), .val (.ref ar1), .val (.int (2 : Int32)), .val (.int (1 : Int32)), .val (.ref ob52), .val (.int (1 : Int32)), .unset, .unset, .unset, .unset, .unset, .unset] [(.ref ob52)])) rfl (by rw [hml]; rfl) (Steps.refl _) (argsL := []) (rest := []) (lenOf pd2 rfl) rfl (by show 2 * 0 + _ ≤ _; exact Nat.le_of_eq rfl) (hb hby at_85) (fun _ _ => ⟨rfl, hh8, (by decide : 2 + 0 ≤ _), (by decide : 7 + 0 ≤ _)⟩)
    dsimp only [Pt.U, Pt.locs, Pt.cells, Pt.slots] at X9 l9 y9 z9 st9 hQ9
    subst l9 y9 z9
    obtain ⟨rfl, Nq9, Kq9, Eq9, Fq9_0, Fq9_1, Fq9_2⟩ := hQ9
    have N9 := Fr.app N8 Nq9
    have Z9 : n0 ≤ T9.heap.size := Nat.le_trans Z7 Kq9.1
    have f_10 := Arl.keep f_9 Kq9 (ninS ne_ar1_ob52 nin0)
    refine Goes.go (fun _ kk => st9.trans kk) ?_
    show Goes _ _ _ _ _ _ _ (T9.setTop (mkF m 88 _ [(.int ((((p0).toUInt32 >>> ((16 : Int32) &&& 31).toUInt32).toInt32).toInt8.toInt32 &&& (255 : Int32)))]))
    refine Goes.go (fun _ kk => XS.istore X9.here hx rfl (hb hby at_88) rfl (l' := #[.val (.int p0), .val (.int p1), .val (.int p2), .val (.ref ar1), .val (.int (2 : Int32)), .val (.int (1 : Int32)), .val (.ref ob52), .val (.int (1 : Int32)), .val (.int ((((p0).toUInt32 >>> ((16 : Int32) &&& 31).toUInt32).toInt32).toInt8.toInt32 &&& (255 : Int32))), .unset, .unset, .unset, .unset, .unset]) rfl kk) ?_
    show Goes _ _ _ _ _ _ _ (T9.setTop (mkF m 90 #[.val (.int p0), .val (.int p1), .val (.int p2), .val (.ref ar1), .val (.int (2 : Int32)), .val (.int (1 : Int32)), .val (.ref ob52), .val (.int (1 : Int32)), .val (.int ((((p0).toUInt32 >>> ((16 : Int32) &&& 31).toUInt32).toInt32).toInt8.toInt32 &&& (255 : Int32))), .unset, .unset, .unset, .unset, .unset] []))
    refine Goes.go (fun _ kk => XS.aload X9.here hx rfl (hb hby at_90) rfl rfl kk) ?_
    show Goes _ _ _ _ _ _ _ (T9.setTop (mkF m 92 _ [(.ref ob52)]))
    obtain ⟨cq10, kq10, qa10, qb10, qc10⟩ := isOf hZ rfl Eq9
    obtain ⟨_, _, ⟨T10, L10, k10, n10⟩, -, X10, ⟨Lc10, hQ10, l10, y10, z10⟩, st10⟩ := X9.virtualBack hx (y := (⟨"com/example/wide_schema/wideschema/io/BytesInput", "read", "()I"⟩ : MethodName)) (z := (⟨"com/example/wide_schema/wideschema/io/BytesInput", "read", "()I"⟩ : MethodName)) hown (mvT hZ (hw _ (List.mem_of_getElem? (i := 27) rfl))) (mvT hZ (hw _ (List.mem_of_getElem? (i := 28) rfl))) (notFace_of_selects (args := #[]) (mvT hZ (hw _ (List.mem_of_getElem? (i := 30) rfl)))) (mvT hZ (hw _ (List.mem_of_getElem? (i := 30) rfl))) (mvT hZ (hw _ (List.mem_of_getElem? (i := 29) rfl))) (by decide) (backOf (W := 0) (rmN l Z a0 hw [] ob52 (3 : Int32) (3 : Int32) T9.heap n0 Z9 Fq9_1 Fq9_2 (by decide)) hZ (hw _ (List.mem_of_getElem? (i := 31) rfl)) (hw _ (List.mem_of_getElem? (i := 4) rfl)) (by decide) (by decide)) qa10 qc10 (g := (mkF m 92 #[.val (.int p0), .val (.int p1), .val (.int p2), .val (.ref ar1), .val (.int (2 : Int32)), .val (.int (1 : Int32)), .val (.ref ob52), .val (.int (1 : Int32)), .val (.int ((((p0).toUInt32 >>> ((16 : Int32) &&& 31).toUInt32).toInt32).toInt8.toInt32 &&& (255 : Int32))), .unset, .unset, .unset, .unset, .unset] [(.ref ob52)])) rfl (by rw [hml]; rfl) (Steps.refl _) (argsL := []) (rest := []) (lenOf pd2 rfl) rfl (by show 2 * 0 + _ ≤ _; exact Nat.le_of_eq rfl) (hb hby at_92) (fun _ _ => ⟨rfl, rfl, (by decide : 2 + 0 ≤ _), (by decide : 7 + 0 ≤ _)⟩)
    dsimp only [Pt.U, Pt.locs, Pt.cells, Pt.slots] at X10 l10 y10 z10 st10 hQ10
    subst l10 y10 z10
    obtain ⟨rfl, Nq10, hh10⟩ := hQ10
    have N10 := Fr.app N9 Nq10
    refine Goes.go (fun _ kk => st10.trans kk) ?_
    show Goes _ _ _ _ _ _ _ (T10.setTop (mkF m 95 _ [(.int (-1 : Int32))]))
    refine Goes.go (fun _ kk => XS.istore X10.here hx rfl (hb hby at_95) rfl (l' := #[.val (.int p0), .val (.int p1), .val (.int p2), .val (.ref ar1), .val (.int (2 : Int32)), .val (.int (1 : Int32)), .val (.ref ob52), .val (.int (1 : Int32)), .val (.int ((((p0).toUInt32 >>> ((16 : Int32) &&& 31).toUInt32).toInt32).toInt8.toInt32 &&& (255 : Int32))), .val (.int (-1 : Int32)), .unset, .unset, .unset, .unset]) rfl kk) ?_
    show Goes _ _ _ _ _ _ _ (T10.setTop (mkF m 97 #[.val (.int p0), .val (.int p1), .val (.int p2), .val (.ref ar1), .val (.int (2 : Int32)), .val (.int (1 : Int32)), .val (.ref ob52), .val (.int (1 : Int32)), .val (.int ((((p0).toUInt32 >>> ((16 : Int32) &&& 31).toUInt32).toInt32).toInt8.toInt32 &&& (255 : Int32))), .val (.int (-1 : Int32)), .unset, .unset, .unset, .unset] []))
    refine Goes.go (fun _ kk => XS.aload X10.here hx rfl (hb hby at_97) rfl rfl kk) ?_
    show Goes _ _ _ _ _ _ _ (T10.setTop (mkF m 99 _ [(.ref ob52)]))
    obtain ⟨cq11, kq11, qa11, qb11, qc11⟩ := isOf hZ hh10 Eq9
    obtain ⟨_, _, ⟨T11, L11, k11, n11⟩, -, X11, ⟨Lc11, hQ11, l11, y11, z11⟩, st11⟩ := X10.virtualBack hx (y := (⟨"com/example/wide_schema/wideschema/io/BytesInput", "read", "()I"⟩ : MethodName)) (z := (⟨"com/example/wide_schema/wideschema/io/BytesInput", "read", "()I"⟩ : MethodName)) hown (mvT hZ (hw _ (List.mem_of_getElem? (i := 27) rfl))) (mvT hZ (hw _ (List.mem_of_getElem? (i := 28) rfl))) (notFace_of_selects (args := #[]) (mvT hZ (hw _ (List.mem_of_getElem? (i := 30) rfl)))) (mvT hZ (hw _ (List.mem_of_getElem? (i := 30) rfl))) (mvT hZ (hw _ (List.mem_of_getElem? (i := 29) rfl))) (by decide) (backOf (W := 0) (rmN l Z a0 hw [] ob52 (3 : Int32) (3 : Int32) T9.heap n0 Z9 Fq9_1 Fq9_2 (by decide)) hZ (hw _ (List.mem_of_getElem? (i := 31) rfl)) (hw _ (List.mem_of_getElem? (i := 4) rfl)) (by decide) (by decide)) qa11 qc11 (g := (mkF m 99 #[.val (.int p0), .val (.int p1), .val (.int p2), .val (.ref ar1), .val (.int (2 : Int32)), .val (.int (1 : Int32)), .val (.ref ob52), .val (.int (1 : Int32)), .val (.int ((((p0).toUInt32 >>> ((16 : Int32) &&& 31).toUInt32).toInt32).toInt8.toInt32 &&& (255 : Int32))), .val (.int (-1 : Int32)), .unset, .unset, .unset, .unset] [(.ref ob52)])) rfl (by rw [hml]; rfl) (Steps.refl _) (argsL := []) (rest := []) (lenOf pd2 rfl) rfl (by show 2 * 0 + _ ≤ _; exact Nat.le_of_eq rfl) (hb hby at_99) (fun _ _ => ⟨rfl, hh10, (by decide : 2 + 0 ≤ _), (by decide : 7 + 0 ≤ _)⟩)
    dsimp only [Pt.U, Pt.locs, Pt.cells, Pt.slots] at X11 l11 y11 z11 st11 hQ11
    subst l11 y11 z11
    obtain ⟨rfl, Nq11, hh11⟩ := hQ11
    have N11 := Fr.app N10 Nq11
    refine Goes.go (fun _ kk => st11.trans kk) ?_
    show Goes _ _ _ _ _ _ _ (T11.setTop (mkF m 102 _ [(.int (-1 : Int32))]))
    refine Goes.go (fun _ kk => XS.istore X11.here hx rfl (hb hby at_102) rfl (l' := #[.val (.int p0), .val (.int p1), .val (.int p2), .val (.ref ar1), .val (.int (2 : Int32)), .val (.int (1 : Int32)), .val (.ref ob52), .val (.int (1 : Int32)), .val (.int ((((p0).toUInt32 >>> ((16 : Int32) &&& 31).toUInt32).toInt32).toInt8.toInt32 &&& (255 : Int32))), .val (.int (-1 : Int32)), .val (.int (-1 : Int32)), .unset, .unset, .unset]) rfl kk) ?_
    show Goes _ _ _ _ _ _ _ (T11.setTop (mkF m 104 #[.val (.int p0), .val (.int p1), .val (.int p2), .val (.ref ar1), .val (.int (2 : Int32)), .val (.int (1 : Int32)), .val (.ref ob52), .val (.int (1 : Int32)), .val (.int ((((p0).toUInt32 >>> ((16 : Int32) &&& 31).toUInt32).toInt32).toInt8.toInt32 &&& (255 : Int32))), .val (.int (-1 : Int32)), .val (.int (-1 : Int32)), .unset, .unset, .unset] []))
    refine Goes.go (fun _ kk => XS.aload X11.here hx rfl (hb hby at_104) rfl rfl kk) ?_
    show Goes _ _ _ _ _ _ _ (T11.setTop (mkF m 106 _ [(.ref ob52)]))
    obtain ⟨cq12, kq12, qa12, qb12, qc12⟩ := isOf hZ hh11 Eq9
    obtain ⟨_, _, ⟨T12, L12, k12, n12⟩, -, X12, ⟨Lc12, hQ12, l12, y12, z12⟩, st12⟩ := X11.virtualBack hx (y := (⟨"com/example/wide_schema/wideschema/io/BytesInput", "read", "()I"⟩ : MethodName)) (z := (⟨"com/example/wide_schema/wideschema/io/BytesInput", "read", "()I"⟩ : MethodName)) hown (mvT hZ (hw _ (List.mem_of_getElem? (i := 27) rfl))) (mvT hZ (hw _ (List.mem_of_getElem? (i := 28) rfl))) (notFace_of_selects (args := #[]) (mvT hZ (hw _ (List.mem_of_getElem? (i := 30) rfl)))) (mvT hZ (hw _ (List.mem_of_getElem? (i := 30) rfl))) (mvT hZ (hw _ (List.mem_of_getElem? (i := 29) rfl))) (by decide) (backOf (W := 0) (rmN l Z a0 hw [] ob52 (3 : Int32) (3 : Int32) T9.heap n0 Z9 Fq9_1 Fq9_2 (by decide)) hZ (hw _ (List.mem_of_getElem? (i := 31) rfl)) (hw _ (List.mem_of_getElem? (i := 4) rfl)) (by decide) (by decide)) qa12 qc12 (g := (mkF m 106 #[.val (.int p0), .val (.int p1), .val (.int p2), .val (.ref ar1), .val (.int (2 : Int32)), .val (.int (1 : Int32)), .val (.ref ob52), .val (.int (1 : Int32)), .val (.int ((((p0).toUInt32 >>> ((16 : Int32) &&& 31).toUInt32).toInt32).toInt8.toInt32 &&& (255 : Int32))), .val (.int (-1 : Int32)), .val (.int (-1 : Int32)), .unset, .unset, .unset] [(.ref ob52)])) rfl (by rw [hml]; rfl) (Steps.refl _) (argsL := []) (rest := []) (lenOf pd2 rfl) rfl (by show 2 * 0 + _ ≤ _; exact Nat.le_of_eq rfl) (hb hby at_106) (fun _ _ => ⟨rfl, hh11, (by decide : 2 + 0 ≤ _), (by decide : 7 + 0 ≤ _)⟩)
    dsimp only [Pt.U, Pt.locs, Pt.cells, Pt.slots] at X12 l12 y12 z12 st12 hQ12
    subst l12 y12 z12
    obtain ⟨rfl, Nq12, hh12⟩ := hQ12
    have N12 := Fr.app N11 Nq12
    refine Goes.go (fun _ kk => st12.trans kk) ?_
    show Goes _ _ _ _ _ _ _ (T12.setTop (mkF m 109 _ [(.int (-1 : Int32))]))
    refine Goes.go (fun _ kk => XS.istore X12.here hx rfl (hb hby at_109) rfl (l' := #[.val (.int p0), .val (.int p1), .val (.int p2), .val (.ref ar1), .val (.int (2 : Int32)), .val (.int (1 : Int32)), .val (.ref ob52), .val (.int (1 : Int32)), .val (.int ((((p0).toUInt32 >>> ((16 : Int32) &&& 31).toUInt32).toInt32).toInt8.toInt32 &&& (255 : Int32))), .val (.int (-1 : Int32)), .val (.int (-1 : Int32)), .val (.int (-1 : Int32)), .unset, .unset]) rfl kk) ?_
    show Goes _ _ _ _ _ _ _ (T12.setTop (mkF m 111 #[.val (.int p0), .val (.int p1), .val (.int p2), .val (.ref ar1), .val (.int (2 : Int32)), .val (.int (1 : Int32)), .val (.ref ob52), .val (.int (1 : Int32)), .val (.int ((((p0).toUInt32 >>> ((16 : Int32) &&& 31).toUInt32).toInt32).toInt8.toInt32 &&& (255 : Int32))), .val (.int (-1 : Int32)), .val (.int (-1 : Int32)), .val (.int (-1 : Int32)), .unset, .unset] []))
    refine Goes.go (fun _ kk => XS.aload X12.here hx rfl (hb hby at_111) rfl rfl kk) ?_
    show Goes _ _ _ _ _ _ _ (T12.setTop (mkF m 113 _ [(.ref ob52)]))
    obtain ⟨cq13, kq13, qa13, qb13, qc13⟩ := isOf hZ hh12 Eq9
    obtain ⟨_, _, ⟨T13, L13, k13, n13⟩, -, X13, ⟨Lc13, hQ13, l13, y13, z13⟩, st13⟩ := X12.virtualBack hx (y := (⟨"com/example/wide_schema/wideschema/io/BytesInput", "read", "()I"⟩ : MethodName)) (z := (⟨"com/example/wide_schema/wideschema/io/BytesInput", "read", "()I"⟩ : MethodName)) hown (mvT hZ (hw _ (List.mem_of_getElem? (i := 27) rfl))) (mvT hZ (hw _ (List.mem_of_getElem? (i := 28) rfl))) (notFace_of_selects (args := #[]) (mvT hZ (hw _ (List.mem_of_getElem? (i := 30) rfl)))) (mvT hZ (hw _ (List.mem_of_getElem? (i := 30) rfl))) (mvT hZ (hw _ (List.mem_of_getElem? (i := 29) rfl))) (by decide) (backOf (W := 0) (rmN l Z a0 hw [] ob52 (3 : Int32) (3 : Int32) T9.heap n0 Z9 Fq9_1 Fq9_2 (by decide)) hZ (hw _ (List.mem_of_getElem? (i := 31) rfl)) (hw _ (List.mem_of_getElem? (i := 4) rfl)) (by decide) (by decide)) qa13 qc13 (g := (mkF m 113 #[.val (.int p0), .val (.int p1), .val (.int p2), .val (.ref ar1), .val (.int (2 : Int32)), .val (.int (1 : Int32)), .val (.ref ob52), .val (.int (1 : Int32)), .val (.int ((((p0).toUInt32 >>> ((16 : Int32) &&& 31).toUInt32).toInt32).toInt8.toInt32 &&& (255 : Int32))), .val (.int (-1 : Int32)), .val (.int (-1 : Int32)), .val (.int (-1 : Int32)), .unset, .unset] [(.ref ob52)])) rfl (by rw [hml]; rfl) (Steps.refl _) (argsL := []) (rest := []) (lenOf pd2 rfl) rfl (by show 2 * 0 + _ ≤ _; exact Nat.le_of_eq rfl) (hb hby at_113) (fun _ _ => ⟨rfl, hh12, (by decide : 2 + 0 ≤ _), (by decide : 7 + 0 ≤ _)⟩)
    dsimp only [Pt.U, Pt.locs, Pt.cells, Pt.slots] at X13 l13 y13 z13 st13 hQ13
    subst l13 y13 z13
    obtain ⟨rfl, Nq13, hh13⟩ := hQ13
    have N13 := Fr.app N12 Nq13
    refine Goes.go (fun _ kk => st13.trans kk) ?_
    show Goes _ _ _ _ _ _ _ (T13.setTop (mkF m 116 _ [(.int (-1 : Int32))]))
    refine Goes.go (fun _ kk => XS.istore X13.here hx rfl (hb hby at_116) rfl (l' := #[.val (.int p0), .val (.int p1), .val (.int p2), .val (.ref ar1), .val (.int (2 : Int32)), .val (.int (1 : Int32)), .val (.ref ob52), .val (.int (1 : Int32)), .val (.int ((((p0).toUInt32 >>> ((16 : Int32) &&& 31).toUInt32).toInt32).toInt8.toInt32 &&& (255 : Int32))), .val (.int (-1 : Int32)), .val (.int (-1 : Int32)), .val (.int (-1 : Int32)), .val (.int (-1 : Int32)), .unset]) rfl kk) ?_
    show Goes _ _ _ _ _ _ _ (T13.setTop (mkF m 118 #[.val (.int p0), .val (.int p1), .val (.int p2), .val (.ref ar1), .val (.int (2 : Int32)), .val (.int (1 : Int32)), .val (.ref ob52), .val (.int (1 : Int32)), .val (.int ((((p0).toUInt32 >>> ((16 : Int32) &&& 31).toUInt32).toInt32).toInt8.toInt32 &&& (255 : Int32))), .val (.int (-1 : Int32)), .val (.int (-1 : Int32)), .val (.int (-1 : Int32)), .val (.int (-1 : Int32)), .unset] []))
    refine Goes.go (fun _ kk => XS.aload X13.here hx rfl (hb hby at_118) rfl rfl kk) ?_
    show Goes _ _ _ _ _ _ _ (T13.setTop (mkF m 120 _ [(.ref ob52)]))
    obtain ⟨cq14, kq14, qa14, qb14, qc14⟩ := isOf hZ hh13 Eq9
    obtain ⟨_, _, ⟨T14, L14, k14, n14⟩, -, X14, ⟨Lc14, hQ14, l14, y14, z14⟩, st14⟩ := X13.virtualBack hx (y := (⟨"com/example/wide_schema/wideschema/io/BytesInput", "read", "()I"⟩ : MethodName)) (z := (⟨"com/example/wide_schema/wideschema/io/BytesInput", "read", "()I"⟩ : MethodName)) hown (mvT hZ (hw _ (List.mem_of_getElem? (i := 27) rfl))) (mvT hZ (hw _ (List.mem_of_getElem? (i := 28) rfl))) (notFace_of_selects (args := #[]) (mvT hZ (hw _ (List.mem_of_getElem? (i := 30) rfl)))) (mvT hZ (hw _ (List.mem_of_getElem? (i := 30) rfl))) (mvT hZ (hw _ (List.mem_of_getElem? (i := 29) rfl))) (by decide) (backOf (W := 0) (rmN l Z a0 hw [] ob52 (3 : Int32) (3 : Int32) T9.heap n0 Z9 Fq9_1 Fq9_2 (by decide)) hZ (hw _ (List.mem_of_getElem? (i := 31) rfl)) (hw _ (List.mem_of_getElem? (i := 4) rfl)) (by decide) (by decide)) qa14 qc14 (g := (mkF m 120 #[.val (.int p0), .val (.int p1), .val (.int p2), .val (.ref ar1), .val (.int (2 : Int32)), .val (.int (1 : Int32)), .val (.ref ob52), .val (.int (1 : Int32)), .val (.int ((((p0).toUInt32 >>> ((16 : Int32) &&& 31).toUInt32).toInt32).toInt8.toInt32 &&& (255 : Int32))), .val (.int (-1 : Int32)), .val (.int (-1 : Int32)), .val (.int (-1 : Int32)), .val (.int (-1 : Int32)), .unset] [(.ref ob52)])) rfl (by rw [hml]; rfl) (Steps.refl _) (argsL := []) (rest := []) (lenOf pd2 rfl) rfl (by show 2 * 0 + _ ≤ _; exact Nat.le_of_eq rfl) (hb hby at_120) (fun _ _ => ⟨rfl, hh13, (by decide : 2 + 0 ≤ _), (by decide : 7 + 0 ≤ _)⟩)
    dsimp only [Pt.U, Pt.locs, Pt.cells, Pt.slots] at X14 l14 y14 z14 st14 hQ14
    subst l14 y14 z14
    obtain ⟨rfl, Nq14, hh14⟩ := hQ14
    have N14 := Fr.app N13 Nq14
    refine Goes.go (fun _ kk => st14.trans kk) ?_
    show Goes _ _ _ _ _ _ _ (T14.setTop (mkF m 123 _ [(.int (-1 : Int32))]))
    refine Goes.go (fun _ kk => XS.istore X14.here hx rfl (hb hby at_123) rfl (l' := #[.val (.int p0), .val (.int p1), .val (.int p2), .val (.ref ar1), .val (.int (2 : Int32)), .val (.int (1 : Int32)), .val (.ref ob52), .val (.int (1 : Int32)), .val (.int ((((p0).toUInt32 >>> ((16 : Int32) &&& 31).toUInt32).toInt32).toInt8.toInt32 &&& (255 : Int32))), .val (.int (-1 : Int32)), .val (.int (-1 : Int32)), .val (.int (-1 : Int32)), .val (.int (-1 : Int32)), .val (.int (-1 : Int32))]) rfl kk) ?_
    show Goes _ _ _ _ _ _ _ (T14.setTop (mkF m 125 #[.val (.int p0), .val (.int p1), .val (.int p2), .val (.ref ar1), .val (.int (2 : Int32)), .val (.int (1 : Int32)), .val (.ref ob52), .val (.int (1 : Int32)), .val (.int ((((p0).toUInt32 >>> ((16 : Int32) &&& 31).toUInt32).toInt32).toInt8.toInt32 &&& (255 : Int32))), .val (.int (-1 : Int32)), .val (.int (-1 : Int32)), .val (.int (-1 : Int32)), .val (.int (-1 : Int32)), .val (.int (-1 : Int32))] []))
    refine Goes.go (fun _ kk => XS.iload X14.here hx rfl (hb hby at_125) rfl kk) ?_
    show Goes _ _ _ _ _ _ _ (T14.setTop (mkF m 127 _ [(.int (1 : Int32))]))
    refine Goes.go (fun _ kk => XS.ifNo X14.here hx rfl (hb hby at_127) rfl (XT.i0_eq_f (by decide)) kk) ?_
    show Goes _ _ _ _ _ _ _ (T14.setTop (mkF m 130 _ []))
    refine Goes.go (fun _ kk => XS.iload X14.here hx rfl (hb hby at_130) rfl kk) ?_
    show Goes _ _ _ _ _ _ _ (T14.setTop (mkF m 132 _ [(.int ((((p0).toUInt32 >>> ((16 : Int32) &&& 31).toUInt32).toInt32).toInt8.toInt32 &&& (255 : Int32)))]))
    refine Goes.go (fun _ kk => XS.iloadN X14.here hx rfl (hb hby at_132) rfl kk) ?_
    show Goes _ _ _ _ _ _ _ (T14.setTop (mkF m 133 _ [(.int p0), (.int ((((p0).toUInt32 >>> ((16 : Int32) &&& 31).toUInt32).toInt32).toInt8.toInt32 &&& (255 : Int32)))]))
    refine Goes.go (fun _ kk => XS.iload X14.here hx rfl (hb hby at_133) rfl kk) ?_
    show Goes _ _ _ _ _ _ _ (T14.setTop (mkF m 135 _ [(.int (2 : Int32)), (.int p0), (.int ((((p0).toUInt32 >>> ((16 : Int32) &&& 31).toUInt32).toInt32).toInt8.toInt32 &&& (255 : Int32)))]))
    refine Goes.go (fun _ kk => XS.iload X14.here hx rfl (hb hby at_135) rfl kk) ?_
    show Goes _ _ _ _ _ _ _ (T14.setTop (mkF m 137 _ [(.int (1 : Int32)), (.int (2 : Int32)), (.int p0), (.int ((((p0).toUInt32 >>> ((16 : Int32) &&& 31).toUInt32).toInt32).toInt8.toInt32 &&& (255 : Int32)))]))
    refine Goes.go (fun _ kk => XS.iconst X14.here hx rfl (hb hby at_137) kk) ?_
    show Goes _ _ _ _ _ _ _ (T14.setTop (mkF m 138 _ [(.int (0 : Int32)), (.int (1 : Int32)), (.int (2 : Int32)), (.int p0), (.int ((((p0).toUInt32 >>> ((16 : Int32) &&& 31).toUInt32).toInt32).toInt8.toInt32 &&& (255 : Int32)))]))
    obtain ⟨_, _, ⟨T15, L15, k15, n15⟩, -, X15, ⟨Lc15, hQ15, l15, y15, z15⟩, st15⟩ := Jvm.LawKit.callS X14 hx (y := (⟨"com/example/wide_schema/wideschema/io/BytesInputReadPinLaw", "exp", "(IIII)I"⟩ : MethodName)) hown (mvT hZ (hw _ (List.mem_of_getElem? (i := 32) rfl))) (mvT hZ (hw _ (List.mem_of_getElem? (i := 33) rfl))) (mvT hZ (hw _ (List.mem_of_getElem? (i := 34) rfl))) (mvT hZ (hw _ (List.mem_of_getElem? (i := 35) rfl))) (by decide) (backOf (W := 1) (rm5 l Z a0 hw [] p0 (2 : Int32) (1 : Int32) (0 : Int32) T9.heap n0 Z9) hZ (hw _ (List.mem_of_getElem? (i := 35) rfl)) (hw _ (List.mem_of_getElem? (i := 34) rfl)) (by decide) (by decide)) (g := (mkF m 138 #[.val (.int p0), .val (.int p1), .val (.int p2), .val (.ref ar1), .val (.int (2 : Int32)), .val (.int (1 : Int32)), .val (.ref ob52), .val (.int (1 : Int32)), .val (.int ((((p0).toUInt32 >>> ((16 : Int32) &&& 31).toUInt32).toInt32).toInt8.toInt32 &&& (255 : Int32))), .val (.int (-1 : Int32)), .val (.int (-1 : Int32)), .val (.int (-1 : Int32)), .val (.int (-1 : Int32)), .val (.int (-1 : Int32))] [(.int (0 : Int32)), (.int (1 : Int32)), (.int (2 : Int32)), (.int p0), (.int ((((p0).toUInt32 >>> ((16 : Int32) &&& 31).toUInt32).toInt32).toInt8.toInt32 &&& (255 : Int32)))])) rfl (by rw [hml]; rfl) (argsL := [(.int p0), (.int (2 : Int32)), (.int (1 : Int32)), (.int (0 : Int32))]) (rest := [(.int ((((p0).toUInt32 >>> ((16 : Int32) &&& 31).toUInt32).toInt32).toInt8.toInt32 &&& (255 : Int32)))]) (lenOf pd3 rfl) rfl (by show 2 * 0 + _ ≤ _; exact Nat.le_of_eq rfl) (hb hby at_138) (fun _ _ => ⟨rfl, hh14, (by decide : 2 + 0 ≤ _), (by decide : 7 + 0 ≤ _)⟩)
    dsimp only [Pt.U, Pt.locs, Pt.cells, Pt.slots] at X15 l15 y15 z15 st15 hQ15
    subst l15 y15 z15
    obtain ⟨rfl, Nq15, hh15⟩ := hQ15
    have N15 := Fr.app N14 Nq15
    refine Goes.go (st15) ?_
    show Goes _ _ _ _ _ _ _ (T15.setTop (mkF m 141 _ [(.int (exF p0 (2 : Int32) (1 : Int32) (0 : Int32))), (.int ((((p0).toUInt32 >>> ((16 : Int32) &&& 31).toUInt32).toInt32).toInt8.toInt32 &&& (255 : Int32)))]))
    refine Goes.go (fun _ kk => XS.icmpNo X15.here hx rfl (hb hby at_141) rfl (XT.ii_ne_f (own_n (16 : Int32) (by decide) (by decide))) kk) ?_
    show Goes _ _ _ _ _ _ _ (T15.setTop (mkF m 144 _ []))
    refine Goes.go (fun _ kk => XS.iconst X15.here hx rfl (hb hby at_144) kk) ?_
    show Goes _ _ _ _ _ _ _ (T15.setTop (mkF m 145 _ [(.int (1 : Int32))]))
    refine Goes.go (fun _ kk => XS.goto X15.here hx rfl (pc0 := 145) (pc' := 149) rfl (hb hby at_145) (by decide) (by decide) kk) ?_
    show Goes _ _ _ _ _ _ _ (T15.setTop (mkF m 149 _ [(.int (1 : Int32))]))
    refine Goes.go (fun _ kk => XS.istore X15.here hx rfl (hb hby at_149) rfl (l' := #[.val (.int p0), .val (.int p1), .val (.int p2), .val (.ref ar1), .val (.int (2 : Int32)), .val (.int (1 : Int32)), .val (.ref ob52), .val (.int (1 : Int32)), .val (.int ((((p0).toUInt32 >>> ((16 : Int32) &&& 31).toUInt32).toInt32).toInt8.toInt32 &&& (255 : Int32))), .val (.int (-1 : Int32)), .val (.int (-1 : Int32)), .val (.int (-1 : Int32)), .val (.int (-1 : Int32)), .val (.int (-1 : Int32))]) rfl kk) ?_
    show Goes _ _ _ _ _ _ _ (T15.setTop (mkF m 151 _ []))
    refine Goes.go (fun _ kk => XS.iload X15.here hx rfl (hb hby at_151) rfl kk) ?_
    show Goes _ _ _ _ _ _ _ (T15.setTop (mkF m 153 _ [(.int (1 : Int32))]))
    refine Goes.go (fun _ kk => XS.ifNo X15.here hx rfl (hb hby at_153) rfl (XT.i0_eq_f (by decide)) kk) ?_
    show Goes _ _ _ _ _ _ _ (T15.setTop (mkF m 156 _ []))
    refine Goes.go (fun _ kk => XS.iload X15.here hx rfl (hb hby at_156) rfl kk) ?_
    show Goes _ _ _ _ _ _ _ (T15.setTop (mkF m 158 _ [(.int (-1 : Int32))]))
    refine Goes.go (fun _ kk => XS.iloadN X15.here hx rfl (hb hby at_158) rfl kk) ?_
    show Goes _ _ _ _ _ _ _ (T15.setTop (mkF m 159 _ [(.int p0), (.int (-1 : Int32))]))
    refine Goes.go (fun _ kk => XS.iload X15.here hx rfl (hb hby at_159) rfl kk) ?_
    show Goes _ _ _ _ _ _ _ (T15.setTop (mkF m 161 _ [(.int (2 : Int32)), (.int p0), (.int (-1 : Int32))]))
    refine Goes.go (fun _ kk => XS.iload X15.here hx rfl (hb hby at_161) rfl kk) ?_
    show Goes _ _ _ _ _ _ _ (T15.setTop (mkF m 163 _ [(.int (1 : Int32)), (.int (2 : Int32)), (.int p0), (.int (-1 : Int32))]))
    refine Goes.go (fun _ kk => XS.iconst X15.here hx rfl (hb hby at_163) kk) ?_
    show Goes _ _ _ _ _ _ _ (T15.setTop (mkF m 164 _ [(.int (1 : Int32)), (.int (1 : Int32)), (.int (2 : Int32)), (.int p0), (.int (-1 : Int32))]))
    obtain ⟨_, _, ⟨T16, L16, k16, n16⟩, -, X16, ⟨Lc16, hQ16, l16, y16, z16⟩, st16⟩ := Jvm.LawKit.callS X15 hx (y := (⟨"com/example/wide_schema/wideschema/io/BytesInputReadPinLaw", "exp", "(IIII)I"⟩ : MethodName)) hown (mvT hZ (hw _ (List.mem_of_getElem? (i := 32) rfl))) (mvT hZ (hw _ (List.mem_of_getElem? (i := 33) rfl))) (mvT hZ (hw _ (List.mem_of_getElem? (i := 34) rfl))) (mvT hZ (hw _ (List.mem_of_getElem? (i := 35) rfl))) (by decide) (backOf (W := 1) (rm5 l Z a0 hw [] p0 (2 : Int32) (1 : Int32) (1 : Int32) T9.heap n0 Z9) hZ (hw _ (List.mem_of_getElem? (i := 35) rfl)) (hw _ (List.mem_of_getElem? (i := 34) rfl)) (by decide) (by decide)) (g := (mkF m 164 #[.val (.int p0), .val (.int p1), .val (.int p2), .val (.ref ar1), .val (.int (2 : Int32)), .val (.int (1 : Int32)), .val (.ref ob52), .val (.int (1 : Int32)), .val (.int ((((p0).toUInt32 >>> ((16 : Int32) &&& 31).toUInt32).toInt32).toInt8.toInt32 &&& (255 : Int32))), .val (.int (-1 : Int32)), .val (.int (-1 : Int32)), .val (.int (-1 : Int32)), .val (.int (-1 : Int32)), .val (.int (-1 : Int32))] [(.int (1 : Int32)), (.int (1 : Int32)), (.int (2 : Int32)), (.int p0), (.int (-1 : Int32))])) rfl (by rw [hml]; rfl) (argsL := [(.int p0), (.int (2 : Int32)), (.int (1 : Int32)), (.int (1 : Int32))]) (rest := [(.int (-1 : Int32))]) (lenOf pd3 rfl) rfl (by show 2 * 0 + _ ≤ _; exact Nat.le_of_eq rfl) (hb hby at_164) (fun _ _ => ⟨rfl, hh15, (by decide : 2 + 0 ≤ _), (by decide : 7 + 0 ≤ _)⟩)
    dsimp only [Pt.U, Pt.locs, Pt.cells, Pt.slots] at X16 l16 y16 z16 st16 hQ16
    subst l16 y16 z16
    obtain ⟨rfl, Nq16, hh16⟩ := hQ16
    have N16 := Fr.app N15 Nq16
    refine Goes.go (st16) ?_
    show Goes _ _ _ _ _ _ _ (T16.setTop (mkF m 167 _ [(.int (exF p0 (2 : Int32) (1 : Int32) (1 : Int32))), (.int (-1 : Int32))]))
    refine Goes.go (fun _ kk => XS.icmpNo X16.here hx rfl (hb hby at_167) rfl (XT.ii_ne_f (own_m (by decide))) kk) ?_
    show Goes _ _ _ _ _ _ _ (T16.setTop (mkF m 170 _ []))
    refine Goes.go (fun _ kk => XS.iconst X16.here hx rfl (hb hby at_170) kk) ?_
    show Goes _ _ _ _ _ _ _ (T16.setTop (mkF m 171 _ [(.int (1 : Int32))]))
    refine Goes.go (fun _ kk => XS.goto X16.here hx rfl (pc0 := 171) (pc' := 175) rfl (hb hby at_171) (by decide) (by decide) kk) ?_
    show Goes _ _ _ _ _ _ _ (T16.setTop (mkF m 175 _ [(.int (1 : Int32))]))
    refine Goes.go (fun _ kk => XS.istore X16.here hx rfl (hb hby at_175) rfl (l' := #[.val (.int p0), .val (.int p1), .val (.int p2), .val (.ref ar1), .val (.int (2 : Int32)), .val (.int (1 : Int32)), .val (.ref ob52), .val (.int (1 : Int32)), .val (.int ((((p0).toUInt32 >>> ((16 : Int32) &&& 31).toUInt32).toInt32).toInt8.toInt32 &&& (255 : Int32))), .val (.int (-1 : Int32)), .val (.int (-1 : Int32)), .val (.int (-1 : Int32)), .val (.int (-1 : Int32)), .val (.int (-1 : Int32))]) rfl kk) ?_
    show Goes _ _ _ _ _ _ _ (T16.setTop (mkF m 177 _ []))
    refine Goes.go (fun _ kk => XS.iload X16.here hx rfl (hb hby at_177) rfl kk) ?_
    show Goes _ _ _ _ _ _ _ (T16.setTop (mkF m 179 _ [(.int (1 : Int32))]))
    refine Goes.go (fun _ kk => XS.ifNo X16.here hx rfl (hb hby at_179) rfl (XT.i0_eq_f (by decide)) kk) ?_
    show Goes _ _ _ _ _ _ _ (T16.setTop (mkF m 182 _ []))
    refine Goes.go (fun _ kk => XS.iload X16.here hx rfl (hb hby at_182) rfl kk) ?_
    show Goes _ _ _ _ _ _ _ (T16.setTop (mkF m 184 _ [(.int (-1 : Int32))]))
    refine Goes.go (fun _ kk => XS.iloadN X16.here hx rfl (hb hby at_184) rfl kk) ?_
    show Goes _ _ _ _ _ _ _ (T16.setTop (mkF m 185 _ [(.int p0), (.int (-1 : Int32))]))
    refine Goes.go (fun _ kk => XS.iload X16.here hx rfl (hb hby at_185) rfl kk) ?_
    show Goes _ _ _ _ _ _ _ (T16.setTop (mkF m 187 _ [(.int (2 : Int32)), (.int p0), (.int (-1 : Int32))]))
    refine Goes.go (fun _ kk => XS.iload X16.here hx rfl (hb hby at_187) rfl kk) ?_
    show Goes _ _ _ _ _ _ _ (T16.setTop (mkF m 189 _ [(.int (1 : Int32)), (.int (2 : Int32)), (.int p0), (.int (-1 : Int32))]))
    refine Goes.go (fun _ kk => XS.iconst X16.here hx rfl (hb hby at_189) kk) ?_
    show Goes _ _ _ _ _ _ _ (T16.setTop (mkF m 190 _ [(.int (2 : Int32)), (.int (1 : Int32)), (.int (2 : Int32)), (.int p0), (.int (-1 : Int32))]))
    obtain ⟨_, _, ⟨T17, L17, k17, n17⟩, -, X17, ⟨Lc17, hQ17, l17, y17, z17⟩, st17⟩ := Jvm.LawKit.callS X16 hx (y := (⟨"com/example/wide_schema/wideschema/io/BytesInputReadPinLaw", "exp", "(IIII)I"⟩ : MethodName)) hown (mvT hZ (hw _ (List.mem_of_getElem? (i := 32) rfl))) (mvT hZ (hw _ (List.mem_of_getElem? (i := 33) rfl))) (mvT hZ (hw _ (List.mem_of_getElem? (i := 34) rfl))) (mvT hZ (hw _ (List.mem_of_getElem? (i := 35) rfl))) (by decide) (backOf (W := 1) (rm5 l Z a0 hw [] p0 (2 : Int32) (1 : Int32) (2 : Int32) T9.heap n0 Z9) hZ (hw _ (List.mem_of_getElem? (i := 35) rfl)) (hw _ (List.mem_of_getElem? (i := 34) rfl)) (by decide) (by decide)) (g := (mkF m 190 #[.val (.int p0), .val (.int p1), .val (.int p2), .val (.ref ar1), .val (.int (2 : Int32)), .val (.int (1 : Int32)), .val (.ref ob52), .val (.int (1 : Int32)), .val (.int ((((p0).toUInt32 >>> ((16 : Int32) &&& 31).toUInt32).toInt32).toInt8.toInt32 &&& (255 : Int32))), .val (.int (-1 : Int32)), .val (.int (-1 : Int32)), .val (.int (-1 : Int32)), .val (.int (-1 : Int32)), .val (.int (-1 : Int32))] [(.int (2 : Int32)), (.int (1 : Int32)), (.int (2 : Int32)), (.int p0), (.int (-1 : Int32))])) rfl (by rw [hml]; rfl) (argsL := [(.int p0), (.int (2 : Int32)), (.int (1 : Int32)), (.int (2 : Int32))]) (rest := [(.int (-1 : Int32))]) (lenOf pd3 rfl) rfl (by show 2 * 0 + _ ≤ _; exact Nat.le_of_eq rfl) (hb hby at_190) (fun _ _ => ⟨rfl, hh16, (by decide : 2 + 0 ≤ _), (by decide : 7 + 0 ≤ _)⟩)
    dsimp only [Pt.U, Pt.locs, Pt.cells, Pt.slots] at X17 l17 y17 z17 st17 hQ17
    subst l17 y17 z17
    obtain ⟨rfl, Nq17, hh17⟩ := hQ17
    have N17 := Fr.app N16 Nq17
    refine Goes.go (st17) ?_
    show Goes _ _ _ _ _ _ _ (T17.setTop (mkF m 193 _ [(.int (exF p0 (2 : Int32) (1 : Int32) (2 : Int32))), (.int (-1 : Int32))]))
    refine Goes.go (fun _ kk => XS.icmpNo X17.here hx rfl (hb hby at_193) rfl (XT.ii_ne_f (own_m (by decide))) kk) ?_
    show Goes _ _ _ _ _ _ _ (T17.setTop (mkF m 196 _ []))
    refine Goes.go (fun _ kk => XS.iconst X17.here hx rfl (hb hby at_196) kk) ?_
    show Goes _ _ _ _ _ _ _ (T17.setTop (mkF m 197 _ [(.int (1 : Int32))]))
    refine Goes.go (fun _ kk => XS.goto X17.here hx rfl (pc0 := 197) (pc' := 201) rfl (hb hby at_197) (by decide) (by decide) kk) ?_
    show Goes _ _ _ _ _ _ _ (T17.setTop (mkF m 201 _ [(.int (1 : Int32))]))
    refine Goes.go (fun _ kk => XS.istore X17.here hx rfl (hb hby at_201) rfl (l' := #[.val (.int p0), .val (.int p1), .val (.int p2), .val (.ref ar1), .val (.int (2 : Int32)), .val (.int (1 : Int32)), .val (.ref ob52), .val (.int (1 : Int32)), .val (.int ((((p0).toUInt32 >>> ((16 : Int32) &&& 31).toUInt32).toInt32).toInt8.toInt32 &&& (255 : Int32))), .val (.int (-1 : Int32)), .val (.int (-1 : Int32)), .val (.int (-1 : Int32)), .val (.int (-1 : Int32)), .val (.int (-1 : Int32))]) rfl kk) ?_
    show Goes _ _ _ _ _ _ _ (T17.setTop (mkF m 203 _ []))
    refine Goes.go (fun _ kk => XS.iload X17.here hx rfl (hb hby at_203) rfl kk) ?_
    show Goes _ _ _ _ _ _ _ (T17.setTop (mkF m 205 _ [(.int (1 : Int32))]))
    refine Goes.go (fun _ kk => XS.ifNo X17.here hx rfl (hb hby at_205) rfl (XT.i0_eq_f (by decide)) kk) ?_
    show Goes _ _ _ _ _ _ _ (T17.setTop (mkF m 208 _ []))
    refine Goes.go (fun _ kk => XS.iload X17.here hx rfl (hb hby at_208) rfl kk) ?_
    show Goes _ _ _ _ _ _ _ (T17.setTop (mkF m 210 _ [(.int (-1 : Int32))]))
    refine Goes.go (fun _ kk => XS.iloadN X17.here hx rfl (hb hby at_210) rfl kk) ?_
    show Goes _ _ _ _ _ _ _ (T17.setTop (mkF m 211 _ [(.int p0), (.int (-1 : Int32))]))
    refine Goes.go (fun _ kk => XS.iload X17.here hx rfl (hb hby at_211) rfl kk) ?_
    show Goes _ _ _ _ _ _ _ (T17.setTop (mkF m 213 _ [(.int (2 : Int32)), (.int p0), (.int (-1 : Int32))]))
    refine Goes.go (fun _ kk => XS.iload X17.here hx rfl (hb hby at_213) rfl kk) ?_
    show Goes _ _ _ _ _ _ _ (T17.setTop (mkF m 215 _ [(.int (1 : Int32)), (.int (2 : Int32)), (.int p0), (.int (-1 : Int32))]))
    refine Goes.go (fun _ kk => XS.iconst X17.here hx rfl (hb hby at_215) kk) ?_
    show Goes _ _ _ _ _ _ _ (T17.setTop (mkF m 216 _ [(.int (3 : Int32)), (.int (1 : Int32)), (.int (2 : Int32)), (.int p0), (.int (-1 : Int32))]))
    obtain ⟨_, _, ⟨T18, L18, k18, n18⟩, -, X18, ⟨Lc18, hQ18, l18, y18, z18⟩, st18⟩ := Jvm.LawKit.callS X17 hx (y := (⟨"com/example/wide_schema/wideschema/io/BytesInputReadPinLaw", "exp", "(IIII)I"⟩ : MethodName)) hown (mvT hZ (hw _ (List.mem_of_getElem? (i := 32) rfl))) (mvT hZ (hw _ (List.mem_of_getElem? (i := 33) rfl))) (mvT hZ (hw _ (List.mem_of_getElem? (i := 34) rfl))) (mvT hZ (hw _ (List.mem_of_getElem? (i := 35) rfl))) (by decide) (backOf (W := 1) (rm5 l Z a0 hw [] p0 (2 : Int32) (1 : Int32) (3 : Int32) T9.heap n0 Z9) hZ (hw _ (List.mem_of_getElem? (i := 35) rfl)) (hw _ (List.mem_of_getElem? (i := 34) rfl)) (by decide) (by decide)) (g := (mkF m 216 #[.val (.int p0), .val (.int p1), .val (.int p2), .val (.ref ar1), .val (.int (2 : Int32)), .val (.int (1 : Int32)), .val (.ref ob52), .val (.int (1 : Int32)), .val (.int ((((p0).toUInt32 >>> ((16 : Int32) &&& 31).toUInt32).toInt32).toInt8.toInt32 &&& (255 : Int32))), .val (.int (-1 : Int32)), .val (.int (-1 : Int32)), .val (.int (-1 : Int32)), .val (.int (-1 : Int32)), .val (.int (-1 : Int32))] [(.int (3 : Int32)), (.int (1 : Int32)), (.int (2 : Int32)), (.int p0), (.int (-1 : Int32))])) rfl (by rw [hml]; rfl) (argsL := [(.int p0), (.int (2 : Int32)), (.int (1 : Int32)), (.int (3 : Int32))]) (rest := [(.int (-1 : Int32))]) (lenOf pd3 rfl) rfl (by show 2 * 0 + _ ≤ _; exact Nat.le_of_eq rfl) (hb hby at_216) (fun _ _ => ⟨rfl, hh17, (by decide : 2 + 0 ≤ _), (by decide : 7 + 0 ≤ _)⟩)
    dsimp only [Pt.U, Pt.locs, Pt.cells, Pt.slots] at X18 l18 y18 z18 st18 hQ18
    subst l18 y18 z18
    obtain ⟨rfl, Nq18, hh18⟩ := hQ18
    have N18 := Fr.app N17 Nq18
    refine Goes.go (st18) ?_
    show Goes _ _ _ _ _ _ _ (T18.setTop (mkF m 219 _ [(.int (exF p0 (2 : Int32) (1 : Int32) (3 : Int32))), (.int (-1 : Int32))]))
    refine Goes.go (fun _ kk => XS.icmpNo X18.here hx rfl (hb hby at_219) rfl (XT.ii_ne_f (own_m (by decide))) kk) ?_
    show Goes _ _ _ _ _ _ _ (T18.setTop (mkF m 222 _ []))
    refine Goes.go (fun _ kk => XS.iconst X18.here hx rfl (hb hby at_222) kk) ?_
    show Goes _ _ _ _ _ _ _ (T18.setTop (mkF m 223 _ [(.int (1 : Int32))]))
    refine Goes.go (fun _ kk => XS.goto X18.here hx rfl (pc0 := 223) (pc' := 227) rfl (hb hby at_223) (by decide) (by decide) kk) ?_
    show Goes _ _ _ _ _ _ _ (T18.setTop (mkF m 227 _ [(.int (1 : Int32))]))
    refine Goes.go (fun _ kk => XS.istore X18.here hx rfl (hb hby at_227) rfl (l' := #[.val (.int p0), .val (.int p1), .val (.int p2), .val (.ref ar1), .val (.int (2 : Int32)), .val (.int (1 : Int32)), .val (.ref ob52), .val (.int (1 : Int32)), .val (.int ((((p0).toUInt32 >>> ((16 : Int32) &&& 31).toUInt32).toInt32).toInt8.toInt32 &&& (255 : Int32))), .val (.int (-1 : Int32)), .val (.int (-1 : Int32)), .val (.int (-1 : Int32)), .val (.int (-1 : Int32)), .val (.int (-1 : Int32))]) rfl kk) ?_
    show Goes _ _ _ _ _ _ _ (T18.setTop (mkF m 229 _ []))
    refine Goes.go (fun _ kk => XS.iload X18.here hx rfl (hb hby at_229) rfl kk) ?_
    show Goes _ _ _ _ _ _ _ (T18.setTop (mkF m 231 _ [(.int (1 : Int32))]))
    refine Goes.go (fun _ kk => XS.ifNo X18.here hx rfl (hb hby at_231) rfl (XT.i0_eq_f (by decide)) kk) ?_
    show Goes _ _ _ _ _ _ _ (T18.setTop (mkF m 234 _ []))
    refine Goes.go (fun _ kk => XS.iload X18.here hx rfl (hb hby at_234) rfl kk) ?_
    show Goes _ _ _ _ _ _ _ (T18.setTop (mkF m 236 _ [(.int (-1 : Int32))]))
    refine Goes.go (fun _ kk => XS.iloadN X18.here hx rfl (hb hby at_236) rfl kk) ?_
    show Goes _ _ _ _ _ _ _ (T18.setTop (mkF m 237 _ [(.int p0), (.int (-1 : Int32))]))
    refine Goes.go (fun _ kk => XS.iload X18.here hx rfl (hb hby at_237) rfl kk) ?_
    show Goes _ _ _ _ _ _ _ (T18.setTop (mkF m 239 _ [(.int (2 : Int32)), (.int p0), (.int (-1 : Int32))]))
    refine Goes.go (fun _ kk => XS.iload X18.here hx rfl (hb hby at_239) rfl kk) ?_
    show Goes _ _ _ _ _ _ _ (T18.setTop (mkF m 241 _ [(.int (1 : Int32)), (.int (2 : Int32)), (.int p0), (.int (-1 : Int32))]))
    refine Goes.go (fun _ kk => XS.iconst X18.here hx rfl (hb hby at_241) kk) ?_
    show Goes _ _ _ _ _ _ _ (T18.setTop (mkF m 242 _ [(.int (4 : Int32)), (.int (1 : Int32)), (.int (2 : Int32)), (.int p0), (.int (-1 : Int32))]))
    obtain ⟨_, _, ⟨T19, L19, k19, n19⟩, -, X19, ⟨Lc19, hQ19, l19, y19, z19⟩, st19⟩ := Jvm.LawKit.callS X18 hx (y := (⟨"com/example/wide_schema/wideschema/io/BytesInputReadPinLaw", "exp", "(IIII)I"⟩ : MethodName)) hown (mvT hZ (hw _ (List.mem_of_getElem? (i := 32) rfl))) (mvT hZ (hw _ (List.mem_of_getElem? (i := 33) rfl))) (mvT hZ (hw _ (List.mem_of_getElem? (i := 34) rfl))) (mvT hZ (hw _ (List.mem_of_getElem? (i := 35) rfl))) (by decide) (backOf (W := 1) (rm5 l Z a0 hw [] p0 (2 : Int32) (1 : Int32) (4 : Int32) T9.heap n0 Z9) hZ (hw _ (List.mem_of_getElem? (i := 35) rfl)) (hw _ (List.mem_of_getElem? (i := 34) rfl)) (by decide) (by decide)) (g := (mkF m 242 #[.val (.int p0), .val (.int p1), .val (.int p2), .val (.ref ar1), .val (.int (2 : Int32)), .val (.int (1 : Int32)), .val (.ref ob52), .val (.int (1 : Int32)), .val (.int ((((p0).toUInt32 >>> ((16 : Int32) &&& 31).toUInt32).toInt32).toInt8.toInt32 &&& (255 : Int32))), .val (.int (-1 : Int32)), .val (.int (-1 : Int32)), .val (.int (-1 : Int32)), .val (.int (-1 : Int32)), .val (.int (-1 : Int32))] [(.int (4 : Int32)), (.int (1 : Int32)), (.int (2 : Int32)), (.int p0), (.int (-1 : Int32))])) rfl (by rw [hml]; rfl) (argsL := [(.int p0), (.int (2 : Int32)), (.int (1 : Int32)), (.int (4 : Int32))]) (rest := [(.int (-1 : Int32))]) (lenOf pd3 rfl) rfl (by show 2 * 0 + _ ≤ _; exact Nat.le_of_eq rfl) (hb hby at_242) (fun _ _ => ⟨rfl, hh18, (by decide : 2 + 0 ≤ _), (by decide : 7 + 0 ≤ _)⟩)
    dsimp only [Pt.U, Pt.locs, Pt.cells, Pt.slots] at X19 l19 y19 z19 st19 hQ19
    subst l19 y19 z19
    obtain ⟨rfl, Nq19, hh19⟩ := hQ19
    have N19 := Fr.app N18 Nq19
    refine Goes.go (st19) ?_
    show Goes _ _ _ _ _ _ _ (T19.setTop (mkF m 245 _ [(.int (exF p0 (2 : Int32) (1 : Int32) (4 : Int32))), (.int (-1 : Int32))]))
    refine Goes.go (fun _ kk => XS.icmpNo X19.here hx rfl (hb hby at_245) rfl (XT.ii_ne_f (own_m (by decide))) kk) ?_
    show Goes _ _ _ _ _ _ _ (T19.setTop (mkF m 248 _ []))
    refine Goes.go (fun _ kk => XS.iconst X19.here hx rfl (hb hby at_248) kk) ?_
    show Goes _ _ _ _ _ _ _ (T19.setTop (mkF m 249 _ [(.int (1 : Int32))]))
    refine Goes.go (fun _ kk => XS.goto X19.here hx rfl (pc0 := 249) (pc' := 253) rfl (hb hby at_249) (by decide) (by decide) kk) ?_
    show Goes _ _ _ _ _ _ _ (T19.setTop (mkF m 253 _ [(.int (1 : Int32))]))
    refine Goes.go (fun _ kk => XS.istore X19.here hx rfl (hb hby at_253) rfl (l' := #[.val (.int p0), .val (.int p1), .val (.int p2), .val (.ref ar1), .val (.int (2 : Int32)), .val (.int (1 : Int32)), .val (.ref ob52), .val (.int (1 : Int32)), .val (.int ((((p0).toUInt32 >>> ((16 : Int32) &&& 31).toUInt32).toInt32).toInt8.toInt32 &&& (255 : Int32))), .val (.int (-1 : Int32)), .val (.int (-1 : Int32)), .val (.int (-1 : Int32)), .val (.int (-1 : Int32)), .val (.int (-1 : Int32))]) rfl kk) ?_
    show Goes _ _ _ _ _ _ _ (T19.setTop (mkF m 255 _ []))
    refine Goes.go (fun _ kk => XS.iload X19.here hx rfl (hb hby at_255) rfl kk) ?_
    show Goes _ _ _ _ _ _ _ (T19.setTop (mkF m 257 _ [(.int (1 : Int32))]))
    refine Goes.go (fun _ kk => XS.ifNo X19.here hx rfl (hb hby at_257) rfl (XT.i0_eq_f (by decide)) kk) ?_
    show Goes _ _ _ _ _ _ _ (T19.setTop (mkF m 260 _ []))
    refine Goes.go (fun _ kk => XS.iload X19.here hx rfl (hb hby at_260) rfl kk) ?_
    show Goes _ _ _ _ _ _ _ (T19.setTop (mkF m 262 _ [(.int (-1 : Int32))]))
    refine Goes.go (fun _ kk => XS.iloadN X19.here hx rfl (hb hby at_262) rfl kk) ?_
    show Goes _ _ _ _ _ _ _ (T19.setTop (mkF m 263 _ [(.int p0), (.int (-1 : Int32))]))
    refine Goes.go (fun _ kk => XS.iload X19.here hx rfl (hb hby at_263) rfl kk) ?_
    show Goes _ _ _ _ _ _ _ (T19.setTop (mkF m 265 _ [(.int (2 : Int32)), (.int p0), (.int (-1 : Int32))]))
    refine Goes.go (fun _ kk => XS.iload X19.here hx rfl (hb hby at_265) rfl kk) ?_
    show Goes _ _ _ _ _ _ _ (T19.setTop (mkF m 267 _ [(.int (1 : Int32)), (.int (2 : Int32)), (.int p0), (.int (-1 : Int32))]))
    refine Goes.go (fun _ kk => XS.iconst X19.here hx rfl (hb hby at_267) kk) ?_
    show Goes _ _ _ _ _ _ _ (T19.setTop (mkF m 268 _ [(.int (5 : Int32)), (.int (1 : Int32)), (.int (2 : Int32)), (.int p0), (.int (-1 : Int32))]))
    obtain ⟨_, _, ⟨T20, L20, k20, n20⟩, -, X20, ⟨Lc20, hQ20, l20, y20, z20⟩, st20⟩ := Jvm.LawKit.callS X19 hx (y := (⟨"com/example/wide_schema/wideschema/io/BytesInputReadPinLaw", "exp", "(IIII)I"⟩ : MethodName)) hown (mvT hZ (hw _ (List.mem_of_getElem? (i := 32) rfl))) (mvT hZ (hw _ (List.mem_of_getElem? (i := 33) rfl))) (mvT hZ (hw _ (List.mem_of_getElem? (i := 34) rfl))) (mvT hZ (hw _ (List.mem_of_getElem? (i := 35) rfl))) (by decide) (backOf (W := 1) (rm5 l Z a0 hw [] p0 (2 : Int32) (1 : Int32) (5 : Int32) T9.heap n0 Z9) hZ (hw _ (List.mem_of_getElem? (i := 35) rfl)) (hw _ (List.mem_of_getElem? (i := 34) rfl)) (by decide) (by decide)) (g := (mkF m 268 #[.val (.int p0), .val (.int p1), .val (.int p2), .val (.ref ar1), .val (.int (2 : Int32)), .val (.int (1 : Int32)), .val (.ref ob52), .val (.int (1 : Int32)), .val (.int ((((p0).toUInt32 >>> ((16 : Int32) &&& 31).toUInt32).toInt32).toInt8.toInt32 &&& (255 : Int32))), .val (.int (-1 : Int32)), .val (.int (-1 : Int32)), .val (.int (-1 : Int32)), .val (.int (-1 : Int32)), .val (.int (-1 : Int32))] [(.int (5 : Int32)), (.int (1 : Int32)), (.int (2 : Int32)), (.int p0), (.int (-1 : Int32))])) rfl (by rw [hml]; rfl) (argsL := [(.int p0), (.int (2 : Int32)), (.int (1 : Int32)), (.int (5 : Int32))]) (rest := [(.int (-1 : Int32))]) (lenOf pd3 rfl) rfl (by show 2 * 0 + _ ≤ _; exact Nat.le_of_eq rfl) (hb hby at_268) (fun _ _ => ⟨rfl, hh19, (by decide : 2 + 0 ≤ _), (by decide : 7 + 0 ≤ _)⟩)
    dsimp only [Pt.U, Pt.locs, Pt.cells, Pt.slots] at X20 l20 y20 z20 st20 hQ20
    subst l20 y20 z20
    obtain ⟨rfl, Nq20, hh20⟩ := hQ20
    have N20 := Fr.app N19 Nq20
    refine Goes.go (st20) ?_
    show Goes _ _ _ _ _ _ _ (T20.setTop (mkF m 271 _ [(.int (exF p0 (2 : Int32) (1 : Int32) (5 : Int32))), (.int (-1 : Int32))]))
    refine Goes.go (fun _ kk => XS.icmpNo X20.here hx rfl (hb hby at_271) rfl (XT.ii_ne_f (own_m (by decide))) kk) ?_
    show Goes _ _ _ _ _ _ _ (T20.setTop (mkF m 274 _ []))
    refine Goes.go (fun _ kk => XS.iconst X20.here hx rfl (hb hby at_274) kk) ?_
    show Goes _ _ _ _ _ _ _ (T20.setTop (mkF m 275 _ [(.int (1 : Int32))]))
    refine Goes.go (fun _ kk => XS.goto X20.here hx rfl (pc0 := 275) (pc' := 279) rfl (hb hby at_275) (by decide) (by decide) kk) ?_
    show Goes _ _ _ _ _ _ _ (T20.setTop (mkF m 279 _ [(.int (1 : Int32))]))
    refine Goes.go (fun _ kk => XS.istore X20.here hx rfl (hb hby at_279) rfl (l' := #[.val (.int p0), .val (.int p1), .val (.int p2), .val (.ref ar1), .val (.int (2 : Int32)), .val (.int (1 : Int32)), .val (.ref ob52), .val (.int (1 : Int32)), .val (.int ((((p0).toUInt32 >>> ((16 : Int32) &&& 31).toUInt32).toInt32).toInt8.toInt32 &&& (255 : Int32))), .val (.int (-1 : Int32)), .val (.int (-1 : Int32)), .val (.int (-1 : Int32)), .val (.int (-1 : Int32)), .val (.int (-1 : Int32))]) rfl kk) ?_
    show Goes _ _ _ _ _ _ _ (T20.setTop (mkF m 281 _ []))
    refine Goes.go (fun _ kk => XS.iload X20.here hx rfl (hb hby at_281) rfl kk) ?_
    show Goes _ _ _ _ _ _ _ (T20.setTop (mkF m 283 _ [(.int (1 : Int32))]))
    refine Goes.go (fun _ kk => XS.ifNo X20.here hx rfl (hb hby at_283) rfl (XT.i0_eq_f (by decide)) kk) ?_
    show Goes _ _ _ _ _ _ _ (T20.setTop (mkF m 286 _ []))
    refine Goes.go (fun _ kk => XS.aload X20.here hx rfl (hb hby at_286) rfl rfl kk) ?_
    show Goes _ _ _ _ _ _ _ (T20.setTop (mkF m 288 _ [(.ref ob52)]))
    obtain ⟨cq21, kq21, qa21, qb21, qc21⟩ := isOf hZ hh20 Eq9
    obtain ⟨_, _, ⟨T21, L21, k21, n21⟩, -, X21, ⟨Lc21, hQ21, l21, y21, z21⟩, st21⟩ := X20.virtualBack hx (y := (⟨"com/example/wide_schema/wideschema/io/BytesInput", "available", "()I"⟩ : MethodName)) (z := (⟨"com/example/wide_schema/wideschema/io/BytesInput", "available", "()I"⟩ : MethodName)) hown (mvT hZ (hw _ (List.mem_of_getElem? (i := 22) rfl))) (mvT hZ (hw _ (List.mem_of_getElem? (i := 23) rfl))) (notFace_of_selects (args := #[]) (mvT hZ (hw _ (List.mem_of_getElem? (i := 25) rfl)))) (mvT hZ (hw _ (List.mem_of_getElem? (i := 25) rfl))) (mvT hZ (hw _ (List.mem_of_getElem? (i := 24) rfl))) (by decide) (backOf (W := 0) (rm3 l Z a0 hw [] ob52 (3 : Int32) (3 : Int32) T9.heap n0 Z9 Fq9_1 Fq9_2) hZ (hw _ (List.mem_of_getElem? (i := 26) rfl)) (hw _ (List.mem_of_getElem? (i := 4) rfl)) (by decide) (by decide)) qa21 qc21 (g := (mkF m 288 #[.val (.int p0), .val (.int p1), .val (.int p2), .val (.ref ar1), .val (.int (2 : Int32)), .val (.int (1 : Int32)), .val (.ref ob52), .val (.int (1 : Int32)), .val (.int ((((p0).toUInt32 >>> ((16 : Int32) &&& 31).toUInt32).toInt32).toInt8.toInt32 &&& (255 : Int32))), .val (.int (-1 : Int32)), .val (.int (-1 : Int32)), .val (.int (-1 : Int32)), .val (.int (-1 : Int32)), .val (.int (-1 : Int32))] [(.ref ob52)])) rfl (by rw [hml]; rfl) (Steps.refl _) (argsL := []) (rest := []) (lenOf pd2 rfl) rfl (by show 2 * 0 + _ ≤ _; exact Nat.le_of_eq rfl) (hb hby at_288) (fun _ _ => ⟨rfl, hh20, (by decide : 2 + 0 ≤ _), (by decide : 7 + 0 ≤ _)⟩)
    dsimp only [Pt.U, Pt.locs, Pt.cells, Pt.slots] at X21 l21 y21 z21 st21 hQ21
    subst l21 y21 z21
    obtain ⟨rfl, Nq21, hh21⟩ := hQ21
    have N21 := Fr.app N20 Nq21
    refine Goes.go (fun _ kk => st21.trans kk) ?_
    show Goes _ _ _ _ _ _ _ (T21.setTop (mkF m 291 _ [(.int (0 : Int32))]))
    refine Goes.go (fun _ kk => XS.ifNo X21.here hx rfl (hb hby at_291) rfl (XT.i0_ne_f (by decide)) kk) ?_
    show Goes _ _ _ _ _ _ _ (T21.setTop (mkF m 294 _ []))
    refine Goes.go (fun _ kk => XS.iconst X21.here hx rfl (hb hby at_294) kk) ?_
    show Goes _ _ _ _ _ _ _ (T21.setTop (mkF m 295 _ [(.int (1 : Int32))]))
    refine Goes.go (fun _ kk => XS.goto X21.here hx rfl (pc0 := 295) (pc' := 299) rfl (hb hby at_295) (by decide) (by decide) kk) ?_
    show Goes _ _ _ _ _ _ _ (T21.setTop (mkF m 299 _ [(.int (1 : Int32))]))
    refine Goes.go (fun _ kk => XS.istore X21.here hx rfl (hb hby at_299) rfl (l' := #[.val (.int p0), .val (.int p1), .val (.int p2), .val (.ref ar1), .val (.int (2 : Int32)), .val (.int (1 : Int32)), .val (.ref ob52), .val (.int (1 : Int32)), .val (.int ((((p0).toUInt32 >>> ((16 : Int32) &&& 31).toUInt32).toInt32).toInt8.toInt32 &&& (255 : Int32))), .val (.int (-1 : Int32)), .val (.int (-1 : Int32)), .val (.int (-1 : Int32)), .val (.int (-1 : Int32)), .val (.int (-1 : Int32))]) rfl kk) ?_
    show Goes _ _ _ _ _ _ _ (T21.setTop (mkF m 301 _ []))
    refine Goes.go (fun _ kk => XS.iload X21.here hx rfl (hb hby at_301) rfl kk) ?_
    show Goes _ _ _ _ _ _ _ (T21.setTop (mkF m 303 _ [(.int (1 : Int32))]))
    exact Goes.outZ X21 hx hlk hret rfl (hb hby at_303) hh21 ⟨rfl, N21⟩ (by decide) (by decide)
  · skip
    show Goes _ _ _ _ _ _ _ (T5.setTop (mkF m 52 #[.val (.int p0), .val (.int p1), .val (.int p2), .val (.ref ar1), .val (.int (2 : Int32)), .val (.int (2 : Int32)), .unset, .unset, .unset, .unset, .unset, .unset, .unset, .unset] []))
    obtain ⟨T6, h6, X6, e6, E6, A6, D6, -, st6⟩ := newO X5 hx hZ hown (hw _ (List.mem_of_getElem? (i := 2) rfl)) (hw _ (List.mem_of_getElem? (i := 3) rfl)) (hw _ (List.mem_of_getElem? (i := 4) rfl)) e5 (g := (mkF m 52 #[.val (.int p0), .val (.int p1), .val (.int p2), .val (.ref ar1), .val (.int (2 : Int32)), .val (.int (2 : Int32)), .unset, .unset, .unset, .unset, .unset, .unset, .unset, .unset] [])) rfl (hb hby at_52) (by decide) (by decide)
    obtain ⟨ob52, gob52⟩ : ∃ z, z = h5.size := ⟨_, rfl⟩
    rw [← gob52] at A6 D6 st6
    have ne_ar1_ob52 : ar1 ≠ ob52 := by rw [gob52]; exact Nat.ne_of_lt f_4.lt
    have f_5 := f_4.ext E6
    have Z6 : n0 ≤ h6.size := Nat.le_trans Z5 E6.1
    have ge_ob52 : n0 ≤ ob52 := Nat.le_trans Z5 (Nat.le_of_eq gob52.symm)
    have f_6 : Fld Z h6 ob52 "com/example/wide_schema/wideschema/io/BytesInput" "_bytes" "[B" .null := D6 (Or.inr (hw _ (List.mem_of_getElem? (i := 17) rfl))) (ty := (.array .byte)) (by decide)
    have f_7 : Fld Z h6 ob52 "com/example/wide_schema/wideschema/io/BytesInput" "_next" "I" (.int (0 : Int32)) := D6 (Or.inl (hw _ (List.mem_of_getElem? (i := 19) rfl))) (ty := .int) (by decide)
    have f_8 : Fld Z h6 ob52 "com/example/wide_schema/wideschema/io/BytesInput" "_end" "I" (.int (0 : Int32)) := D6 (Or.inr (hw _ (List.mem_of_getElem? (i := 21) rfl))) (ty := .int) (by decide)
    refine Goes.go (st6) ?_
    show Goes _ _ _ _ _ _ _ (T6.setTop (mkF m 55 _ [(.ref ob52)]))
    refine Goes.go (fun _ kk => XS.dup X6.here hx rfl (hb hby at_55) rfl rfl kk) ?_
    show Goes _ _ _ _ _ _ _ (T6.setTop (mkF m 56 _ [(.ref ob52), (.ref ob52)]))
    refine Goes.go (fun _ kk => XS.aloadN X6.here hx rfl (hb hby at_56) rfl rfl kk) ?_
    show Goes _ _ _ _ _ _ _ (T6.setTop (mkF m 57 _ [(.ref ar1), (.ref ob52), (.ref ob52)]))
    refine Goes.go (fun _ kk => XS.iload X6.here hx rfl (hb hby at_57) rfl kk) ?_
    show Goes _ _ _ _ _ _ _ (T6.setTop (mkF m 59 _ [(.int (2 : Int32)), (.ref ar1), (.ref ob52), (.ref ob52)]))
    refine Goes.go (fun _ kk => XS.iload X6.here hx rfl (hb hby at_59) rfl kk) ?_
    show Goes _ _ _ _ _ _ _ (T6.setTop (mkF m 61 _ [(.int (2 : Int32)), (.int (2 : Int32)), (.ref ar1), (.ref ob52), (.ref ob52)]))
    obtain ⟨_, _, ⟨T7, L7, k7, n7⟩, -, X7, ⟨Lc7, hQ7, l7, y7, z7⟩, st7⟩ := X6.specialBack hx (y := (⟨"com/example/wide_schema/wideschema/io/BytesInput", "<init>", "([BII)V"⟩ : MethodName)) rfl hown (mvT hZ (hw _ (List.mem_of_getElem? (i := 5) rfl))) (mvT hZ (hw _ (List.mem_of_getElem? (i := 6) rfl))) (mvT hZ (hw _ (List.mem_of_getElem? (i := 7) rfl))) (by decide) (backOf (W := 1) (rm1 l Z a0 hw [] ob52 ar1 (2 : Int32) (2 : Int32) h6 n0 Z6 A6 f_6 f_7 f_8 ge_ob52) hZ (hw _ (List.mem_of_getElem? (i := 7) rfl)) (hw _ (List.mem_of_getElem? (i := 4) rfl)) (by decide) (by decide)) (g := (mkF m 61 #[.val (.int p0), .val (.int p1), .val (.int p2), .val (.ref ar1), .val (.int (2 : Int32)), .val (.int (2 : Int32)), .unset, .unset, .unset, .unset, .unset, .unset, .unset, .unset] [(.int (2 : Int32)), (.int (2 : Int32)), (.ref ar1), (.ref ob52), (.ref ob52)])) rfl (by rw [hml]; rfl) (Steps.refl _) (a := ob52) (argsL := [(.ref ar1), (.int (2 : Int32)), (.int (2 : Int32))]) (rest := [(.ref ob52)]) (lenOf pd0 rfl) rfl (by show 2 * 0 + _ ≤ _; exact Nat.le_of_eq rfl) (hb hby at_61) (fun _ _ => ⟨rfl, e6, (by decide : 2 + 0 ≤ _), (by decide : 7 + 0 ≤ _)⟩)
    dsimp only [Pt.U, Pt.locs, Pt.cells, Pt.slots] at X7 l7 y7 z7 st7 hQ7
    subst l7 y7 z7
    obtain ⟨rfl, Nq7, Kq7, Eq7, Fq7_0, Fq7_1, Fq7_2⟩ := hQ7
    have N7 := Fr.app N5 Nq7
    have Z7 : n0 ≤ T7.heap.size := Nat.le_trans Z6 Kq7.1
    have f_9 := Arl.keep f_5 Kq7 (ninS ne_ar1_ob52 nin0)
    refine Goes.go (fun _ kk => st7.trans kk) ?_
    show Goes _ _ _ _ _ _ _ (T7.setTop (mkF m 64 _ [(.ref ob52)]))
    refine Goes.go (fun _ kk => XS.astore X7.here hx rfl (hb hby at_64) rfl rfl (l' := #[.val (.int p0), .val (.int p1), .val (.int p2), .val (.ref ar1), .val (.int (2 : Int32)), .val (.int (2 : Int32)), .val (.ref ob52), .unset, .unset, .unset, .unset, .unset, .unset, .unset]) rfl kk) ?_
    show Goes _ _ _ _ _ _ _ (T7.setTop (mkF m 66 #[.val (.int p0), .val (.int p1), .val (.int p2), .val (.ref ar1), .val (.int (2 : Int32)), .val (.int (2 : Int32)), .val (.ref ob52), .unset, .unset, .unset, .unset, .unset, .unset, .unset] []))
    refine Goes.go (fun _ kk => XS.aload X7.here hx rfl (hb hby at_66) rfl rfl kk) ?_
    show Goes _ _ _ _ _ _ _ (T7.setTop (mkF m 68 _ [(.ref ob52)]))
    obtain ⟨cq8, kq8, qa8, qb8, qc8⟩ := isOf hZ rfl Eq7
    obtain ⟨_, _, ⟨T8, L8, k8, n8⟩, -, X8, ⟨Lc8, hQ8, l8, y8, z8⟩, st8⟩ := X7.virtualBack hx (y := (⟨"com/example/wide_schema/wideschema/io/BytesInput", "available", "()I"⟩ : MethodName)) (z := (⟨"com/example/wide_schema/wideschema/io/BytesInput", "available", "()I"⟩ : MethodName)) hown (mvT hZ (hw _ (List.mem_of_getElem? (i := 22) rfl))) (mvT hZ (hw _ (List.mem_of_getElem? (i := 23) rfl))) (notFace_of_selects (args := #[]) (mvT hZ (hw _ (List.mem_of_getElem? (i := 25) rfl)))) (mvT hZ (hw _ (List.mem_of_getElem? (i := 25) rfl))) (mvT hZ (hw _ (List.mem_of_getElem? (i := 24) rfl))) (by decide) (backOf (W := 0) (rm3 l Z a0 hw [] ob52 (2 : Int32) (4 : Int32) T7.heap n0 Z7 Fq7_1 Fq7_2) hZ (hw _ (List.mem_of_getElem? (i := 26) rfl)) (hw _ (List.mem_of_getElem? (i := 4) rfl)) (by decide) (by decide)) qa8 qc8 (g := (mkF m 68 #[.val (.int p0), .val (.int p1), .val (.int p2), .val (.ref ar1), .val (.int (2 : Int32)), .val (.int (2 : Int32)), .val (.ref ob52), .unset, .unset, .unset, .unset, .unset, .unset, .unset] [(.ref ob52)])) rfl (by rw [hml]; rfl) (Steps.refl _) (argsL := []) (rest := []) (lenOf pd2 rfl) rfl (by show 2 * 0 + _ ≤ _; exact Nat.le_of_eq rfl) (hb hby at_68) (fun _ _ => ⟨rfl, rfl, (by decide : 2 + 0 ≤ _), (by decide : 7 + 0 ≤ _)⟩)
    dsimp only [Pt.U, Pt.locs, Pt.cells, Pt.slots] at X8 l8 y8 z8 st8 hQ8
    subst l8 y8 z8
    obtain ⟨rfl, Nq8, hh8⟩ := hQ8
    have N8 := Fr.app N7 Nq8
    refine Goes.go (fun _ kk => st8.trans kk) ?_
    show Goes _ _ _ _ _ _ _ (T8.setTop (mkF m 71 _ [(.int (2 : Int32))]))
    refine Goes.go (fun _ kk => XS.iload X8.here hx rfl (hb hby at_71) rfl kk) ?_
    show Goes _ _ _ _ _ _ _ (T8.setTop (mkF m 73 _ [(.int (2 : Int32)), (.int (2 : Int32))]))
    refine Goes.go (fun _ kk => XS.icmpNo X8.here hx rfl (hb hby at_73) rfl (XT.ii_ne_f (by decide)) kk) ?_
    show Goes _ _ _ _ _ _ _ (T8.setTop (mkF m 76 _ []))
    refine Goes.go (fun _ kk => XS.iconst X8.here hx rfl (hb hby at_76) kk) ?_
    show Goes _ _ _ _ _ _ _ (T8.setTop (mkF m 77 _ [(.int (1 : Int32))]))
    refine Goes.go (fun _ kk => XS.goto X8.here hx rfl (pc0 := 77) (pc' := 81) rfl (hb hby at_77) (by decide) (by decide) kk) ?_
    show Goes _ _ _ _ _ _ _ (T8.setTop (mkF m 81 _ [(.int (1 : Int32))]))
    refine Goes.go (fun _ kk => XS.istore X8.here hx rfl (hb hby at_81) rfl (l' := #[.val (.int p0), .val (.int p1), .val (.int p2), .val (.ref ar1), .val (.int (2 : Int32)), .val (.int (2 : Int32)), .val (.ref ob52), .val (.int (1 : Int32)), .unset, .unset, .unset, .unset, .unset, .unset]) rfl kk) ?_
    show Goes _ _ _ _ _ _ _ (T8.setTop (mkF m 83 #[.val (.int p0), .val (.int p1), .val (.int p2), .val (.ref ar1), .val (.int (2 : Int32)), .val (.int (2 : Int32)), .val (.ref ob52), .val (.int (1 : Int32)), .unset, .unset, .unset, .unset, .unset, .unset] []))
    refine Goes.go (fun _ kk => XS.aload X8.here hx rfl (hb hby at_83) rfl rfl kk) ?_
    show Goes _ _ _ _ _ _ _ (T8.setTop (mkF m 85 _ [(.ref ob52)]))
    obtain ⟨cq9, kq9, qa9, qb9, qc9⟩ := isOf hZ hh8 Eq7
    obtain ⟨_, _, ⟨T9, L9, k9, n9⟩, -, X9, ⟨Lc9, hQ9, l9, y9, z9⟩, st9⟩ := X8.virtualBack hx (y := (⟨"com/example/wide_schema/wideschema/io/BytesInput", "read", "()I"⟩ : MethodName)) (z := (⟨"com/example/wide_schema/wideschema/io/BytesInput", "read", "()I"⟩ : MethodName)) hown (mvT hZ (hw _ (List.mem_of_getElem? (i := 27) rfl))) (mvT hZ (hw _ (List.mem_of_getElem? (i := 28) rfl))) (notFace_of_selects (args := #[]) (mvT hZ (hw _ (List.mem_of_getElem? (i := 30) rfl)))) (mvT hZ (hw _ (List.mem_of_getElem? (i := 30) rfl))) (mvT hZ (hw _ (List.mem_of_getElem? (i := 29) rfl))) (by decide) (backOf (W := 0) (rmY l Z a0 hw [] ob52 ar1 _ (2 : Int32) (4 : Int32) (((p0).toUInt32 >>> ((16 : Int32) &&& 31).toUInt32).toInt32).toInt8.toInt32 T7.heap n0 Z7 Eq7 Fq7_0 Fq7_1 Fq7_2 ge_ob52 f_9 (by decide) (by decide) rfl) hZ (hw _ (List.mem_of_getElem? (i := 31) rfl)) (hw _ (List.mem_of_getElem? (i := 4) rfl)) (by decide) (by decide)) qa9 qc9 (g := (mkF m 85 #[.val (.int p0), .val (.int p1), .val (.int p2), .val (.ref ar1), .val (.int (2 : Int32)), .val (.int (2 : Int32)), .val (.ref ob52), .val (.int (1 : Int32)), .unset, .unset, .unset, .unset, .unset, .unset] [(.ref ob52)])) rfl (by rw [hml]; rfl) (Steps.refl _) (argsL := []) (rest := []) (lenOf pd2 rfl) rfl (by show 2 * 0 + _ ≤ _; exact Nat.le_of_eq rfl) (hb hby at_85) (fun _ _ => ⟨rfl, hh8, (by decide : 2 + 0 ≤ _), (by decide : 7 + 0 ≤ _)⟩)
    dsimp only [Pt.U, Pt.locs, Pt.cells, Pt.slots] at X9 l9 y9 z9 st9 hQ9
    subst l9 y9 z9
    obtain ⟨rfl, Nq9, Kq9, Eq9, Fq9_0, Fq9_1, Fq9_2⟩ := hQ9
    have N9 := Fr.app N8 Nq9
    have Z9 : n0 ≤ T9.heap.size := Nat.le_trans Z7 Kq9.1
    have f_10 := Arl.keep f_9 Kq9 (ninS ne_ar1_ob52 nin0)
    refine Goes.go (fun _ kk => st9.trans kk) ?_
    show Goes _ _ _ _ _ _ _ (T9.setTop (mkF m 88 _ [(.int ((((p0).toUInt32 >>> ((16 : Int32) &&& 31).toUInt32).toInt32).toInt8.toInt32 &&& (255 : Int32)))]))
    refine Goes.go (fun _ kk => XS.istore X9.here hx rfl (hb hby at_88) rfl (l' := #[.val (.int p0), .val (.int p1), .val (.int p2), .val (.ref ar1), .val (.int (2 : Int32)), .val (.int (2 : Int32)), .val (.ref ob52), .val (.int (1 : Int32)), .val (.int ((((p0).toUInt32 >>> ((16 : Int32) &&& 31).toUInt32).toInt32).toInt8.toInt32 &&& (255 : Int32))), .unset, .unset, .unset, .unset, .unset]) rfl kk) ?_
    show Goes _ _ _ _ _ _ _ (T9.setTop (mkF m 90 #[.val (.int p0), .val (.int p1), .val (.int p2), .val (.ref ar1), .val (.int (2 : Int32)), .val (.int (2 : Int32)), .val (.ref ob52), .val (.int (1 : Int32)), .val (.int ((((p0).toUInt32 >>> ((16 : Int32) &&& 31).toUInt32).toInt32).toInt8.toInt32 &&& (255 : Int32))), .unset, .unset, .unset, .unset, .unset] []))
    refine Goes.go (fun _ kk => XS.aload X9.here hx rfl (hb hby at_90) rfl rfl kk) ?_
    show Goes _ _ _ _ _ _ _ (T9.setTop (mkF m 92 _ [(.ref ob52)]))
    obtain ⟨cq10, kq10, qa10, qb10, qc10⟩ := isOf hZ rfl Eq9
    obtain ⟨_, _, ⟨T10, L10, k10, n10⟩, -, X10, ⟨Lc10, hQ10, l10, y10, z10⟩, st10⟩ := X9.virtualBack hx (y := (⟨"com/example/wide_schema/wideschema/io/BytesInput", "read", "()I"⟩ : MethodName)) (z := (⟨"com/example/wide_schema/wideschema/io/BytesInput", "read", "()I"⟩ : MethodName)) hown (mvT hZ (hw _ (List.mem_of_getElem? (i := 27) rfl))) (mvT hZ (hw _ (List.mem_of_getElem? (i := 28) rfl))) (notFace_of_selects (args := #[]) (mvT hZ (hw _ (List.mem_of_getElem? (i := 30) rfl)))) (mvT hZ (hw _ (List.mem_of_getElem? (i := 30) rfl))) (mvT hZ (hw _ (List.mem_of_getElem? (i := 29) rfl))) (by decide) (backOf (W := 0) (rmY l Z a0 hw [] ob52 ar1 _ (3 : Int32) (4 : Int32) (((p0).toUInt32 >>> ((24 : Int32) &&& 31).toUInt32).toInt32).toInt8.toInt32 T9.heap n0 Z9 Eq9 Fq9_0 Fq9_1 Fq9_2 ge_ob52 f_10 (by decide) (by decide) rfl) hZ (hw _ (List.mem_of_getElem? (i := 31) rfl)) (hw _ (List.mem_of_getElem? (i := 4) rfl)) (by decide) (by decide)) qa10 qc10 (g := (mkF m 92 #[.val (.int p0), .val (.int p1), .val (.int p2), .val (.ref ar1), .val (.int (2 : Int32)), .val (.int (2 : Int32)), .val (.ref ob52), .val (.int (1 : Int32)), .val (.int ((((p0).toUInt32 >>> ((16 : Int32) &&& 31).toUInt32).toInt32).toInt8.toInt32 &&& (255 : Int32))), .unset, .unset, .unset, .unset, .unset] [(.ref ob52)])) rfl (by rw [hml]; rfl) (Steps.refl _) (argsL := []) (rest := []) (lenOf pd2 rfl) rfl (by show 2 * 0 + _ ≤ _; exact Nat.le_of_eq rfl) (hb hby at_92) (fun _ _ => ⟨rfl, rfl, (by decide : 2 + 0 ≤ _), (by decide : 7 + 0 ≤ _)⟩)
    dsimp only [Pt.U, Pt.locs, Pt.cells, Pt.slots] at X10 l10 y10 z10 st10 hQ10
    subst l10 y10 z10
    obtain ⟨rfl, Nq10, Kq10, Eq10, Fq10_0, Fq10_1, Fq10_2⟩ := hQ10
    have N10 := Fr.app N9 Nq10
    have Z10 : n0 ≤ T10.heap.size := Nat.le_trans Z9 Kq10.1
    have f_11 := Arl.keep f_10 Kq10 (ninS ne_ar1_ob52 nin0)
    refine Goes.go (fun _ kk => st10.trans kk) ?_
    show Goes _ _ _ _ _ _ _ (T10.setTop (mkF m 95 _ [(.int ((((p0).toUInt32 >>> ((24 : Int32) &&& 31).toUInt32).toInt32).toInt8.toInt32 &&& (255 : Int32)))]))
    refine Goes.go (fun _ kk => XS.istore X10.here hx rfl (hb hby at_95) rfl (l' := #[.val (.int p0), .val (.int p1), .val (.int p2), .val (.ref ar1), .val (.int (2 : Int32)), .val (.int (2 : Int32)), .val (.ref ob52), .val (.int (1 : Int32)), .val (.int ((((p0).toUInt32 >>> ((16 : Int32) &&& 31).toUInt32).toInt32).toInt8.toInt32 &&& (255 : Int32))), .val (.int ((((p0).toUInt32 >>> ((24 : Int32) &&& 31).toUInt32).toInt32).toInt8.toInt32 &&& (255 : Int32))), .unset, .unset, .unset, .unset]) rfl kk) ?_
    show Goes _ _ _ _ _ _ _ (T10.setTop (mkF m 97 #[.val (.int p0), .val (.int p1), .val (.int p2), .val (.ref ar1), .val (.int (2 : Int32)), .val (.int (2 : Int32)), .val (.ref ob52), .val (.int (1 : Int32)), .val (.int ((((p0).toUInt32 >>> ((16 : Int32) &&& 31).toUInt32).toInt32).toInt8.toInt32 &&& (255 : Int32))), .val (.int ((((p0).toUInt32 >>> ((24 : Int32) &&& 31).toUInt32).toInt32).toInt8.toInt32 &&& (255 : Int32))), .unset, .unset, .unset, .unset] []))
    refine Goes.go (fun _ kk => XS.aload X10.here hx rfl (hb hby at_97) rfl rfl kk) ?_
    show Goes _ _ _ _ _ _ _ (T10.setTop (mkF m 99 _ [(.ref ob52)]))
    obtain ⟨cq11, kq11, qa11, qb11, qc11⟩ := isOf hZ rfl Eq10
    obtain ⟨_, _, ⟨T11, L11, k11, n11⟩, -, X11, ⟨Lc11, hQ11, l11, y11, z11⟩, st11⟩ := X10.virtualBack hx (y := (⟨"com/example/wide_schema/wideschema/io/BytesInput", "read", "()I"⟩ : MethodName)) (z := (⟨"com/example/wide_schema/wideschema/io/BytesInput", "read", "()I"⟩ : MethodName)) hown (mvT hZ (hw _ (List.mem_of_getElem? (i := 27) rfl))) (mvT hZ (hw _ (List.mem_of_getElem? (i := 28) rfl))) (notFace_of_selects (args := #[]) (mvT hZ (hw _ (List.mem_of_getElem? (i := 30) rfl)))) (mvT hZ (hw _ (List.mem_of_getElem? (i := 30) rfl))) (mvT hZ (hw _ (List.mem_of_getElem? (i := 29) rfl))) (by decide) (backOf (W := 0) (rmN l Z a0 hw [] ob52 (4 : Int32) (4 : Int32) T10.heap n0 Z10 Fq10_1 Fq10_2 (by decide)) hZ (hw _ (List.mem_of_getElem? (i := 31) rfl)) (hw _ (List.mem_of_getElem? (i := 4) rfl)) (by decide) (by decide)) qa11 qc11 (g := (mkF m 99 #[.val (.int p0), .val (.int p1), .val (.int p2), .val (.ref ar1), .val (.int (2 : Int32)), .val (.int (2 : Int32)), .val (.ref ob52), .val (.int (1 : Int32)), .val (.int ((((p0).toUInt32 >>> ((16 : Int32) &&& 31).toUInt32).toInt32).toInt8.toInt32 &&& (255 : Int32))), .val (.int ((((p0).toUInt32 >>> ((24 : Int32) &&& 31).toUInt32).toInt32).toInt8.toInt32 &&& (255 : Int32))), .unset, .unset, .unset, .unset] [(.ref ob52)])) rfl (by rw [hml]; rfl) (Steps.refl _) (argsL := []) (rest := []) (lenOf pd2 rfl) rfl (by show 2 * 0 + _ ≤ _; exact Nat.le_of_eq rfl) (hb hby at_99) (fun _ _ => ⟨rfl, rfl, (by decide : 2 + 0 ≤ _), (by decide : 7 + 0 ≤ _)⟩)
    dsimp only [Pt.U, Pt.locs, Pt.cells, Pt.slots] at X11 l11 y11 z11 st11 hQ11
    subst l11 y11 z11
    obtain ⟨rfl, Nq11, hh11⟩ := hQ11
    have N11 := Fr.app N10 Nq11
    refine Goes.go (fun _ kk => st11.trans kk) ?_
    show Goes _ _ _ _ _ _ _ (T11.setTop (mkF m 102 _ [(.int (-1 : Int32))]))
    refine Goes.go (fun _ kk => XS.istore X11.here hx rfl (hb hby at_102) rfl (l' := #[.val (.int p0), .val (.int p1), .val (.int p2), .val (.ref ar1), .val (.int (2 : Int32)), .val (.int (2 : Int32)), .val (.ref ob52), .val (.int (1 : Int32)), .val (.int ((((p0).toUInt32 >>> ((16 : Int32) &&& 31).toUInt32).toInt32).toInt8.toInt32 &&& (255 : Int32))), .val (.int ((((p0).toUInt32 >>> ((24 : Int32) &&& 31).toUInt32).toInt32).toInt8.toInt32 &&& (255 : Int32))), .val (.int (-1 : Int32)), .unset, .unset, .unset]) rfl kk) ?_
    show Goes _ _ _ _ _ _ _ (T11.setTop (mkF m 104 #[.val (.int p0), .val (.int p1), .val (.int p2), .val (.ref ar1), .val (.int (2 : Int32)), .val (.int (2 : Int32)), .val (.ref ob52), .val (.int (1 : Int32)), .val (.int ((((p0).toUInt32 >>> ((16 : Int32) &&& 31).toUInt32).toInt32).toInt8.toInt32 &&& (255 : Int32))), .val (.int ((((p0).toUInt32 >>> ((24 : Int32) &&& 31).toUInt32).toInt32).toInt8.toInt32 &&& (255 : Int32))), .val (.int (-1 : Int32)), .unset, .unset, .unset] []))
    refine Goes.go (fun _ kk => XS.aload X11.here hx rfl (hb hby at_104) rfl rfl kk) ?_
    show Goes _ _ _ _ _ _ _ (T11.setTop (mkF m 106 _ [(.ref ob52)]))
    obtain ⟨cq12, kq12, qa12, qb12, qc12⟩ := isOf hZ hh11 Eq10
    obtain ⟨_, _, ⟨T12, L12, k12, n12⟩, -, X12, ⟨Lc12, hQ12, l12, y12, z12⟩, st12⟩ := X11.virtualBack hx (y := (⟨"com/example/wide_schema/wideschema/io/BytesInput", "read", "()I"⟩ : MethodName)) (z := (⟨"com/example/wide_schema/wideschema/io/BytesInput", "read", "()I"⟩ : MethodName)) hown (mvT hZ (hw _ (List.mem_of_getElem? (i := 27) rfl))) (mvT hZ (hw _ (List.mem_of_getElem? (i := 28) rfl))) (notFace_of_selects (args := #[]) (mvT hZ (hw _ (List.mem_of_getElem? (i := 30) rfl)))) (mvT hZ (hw _ (List.mem_of_getElem? (i := 30) rfl))) (mvT hZ (hw _ (List.mem_of_getElem? (i := 29) rfl))) (by decide) (backOf (W := 0) (rmN l Z a0 hw [] ob52 (4 : Int32) (4 : Int32) T10.heap n0 Z10 Fq10_1 Fq10_2 (by decide)) hZ (hw _ (List.mem_of_getElem? (i := 31) rfl)) (hw _ (List.mem_of_getElem? (i := 4) rfl)) (by decide) (by decide)) qa12 qc12 (g := (mkF m 106 #[.val (.int p0), .val (.int p1), .val (.int p2), .val (.ref ar1), .val (.int (2 : Int32)), .val (.int (2 : Int32)), .val (.ref ob52), .val (.int (1 : Int32)), .val (.int ((((p0).toUInt32 >>> ((16 : Int32) &&& 31).toUInt32).toInt32).toInt8.toInt32 &&& (255 : Int32))), .val (.int ((((p0).toUInt32 >>> ((24 : Int32) &&& 31).toUInt32).toInt32).toInt8.toInt32 &&& (255 : Int32))), .val (.int (-1 : Int32)), .unset, .unset, .unset] [(.ref ob52)])) rfl (by rw [hml]; rfl) (Steps.refl _) (argsL := []) (rest := []) (lenOf pd2 rfl) rfl (by show 2 * 0 + _ ≤ _; exact Nat.le_of_eq rfl) (hb hby at_106) (fun _ _ => ⟨rfl, hh11, (by decide : 2 + 0 ≤ _), (by decide : 7 + 0 ≤ _)⟩)
    dsimp only [Pt.U, Pt.locs, Pt.cells, Pt.slots] at X12 l12 y12 z12 st12 hQ12
    subst l12 y12 z12
    obtain ⟨rfl, Nq12, hh12⟩ := hQ12
    have N12 := Fr.app N11 Nq12
    refine Goes.go (fun _ kk => st12.trans kk) ?_
    show Goes _ _ _ _ _ _ _ (T12.setTop (mkF m 109 _ [(.int (-1 : Int32))]))
    refine Goes.go (fun _ kk => XS.istore X12.here hx rfl (hb hby at_109) rfl (l' := #[.val (.int p0), .val (.int p1), .val (.int p2), .val (.ref ar1), .val (.int (2 : Int32)), .val (.int (2 : Int32)), .val (.ref ob52), .val (.int (1 : Int32)), .val (.int ((((p0).toUInt32 >>> ((16 : Int32) &&& 31).toUInt32).toInt32).toInt8.toInt32 &&& (255 : Int32))), .val (.int ((((p0).toUInt32 >>> ((24 : Int32) &&& 31).toUInt32).toInt32).toInt8.toInt32 &&& (255 : Int32))), .val (.int (-1 : Int32)), .val (.int (-1 : Int32)), .unset, .unset]) rfl kk) ?_
    show Goes _ _ _ _ _ _ _ (T12.setTop (mkF m 111 #[.val (.int p0), .val (.int p1), .val (.int p2), .val (.ref ar1), .val (.int (2 : Int32)), .val (.int (2 : Int32)), .val (.ref ob52), .val (.int (1 : Int32)), .val (.int ((((p0).toUInt32 >>> ((16 : Int32) &&& 31).toUInt32).toInt32).toInt8.toInt32 &&& (255 : Int32))), .val (.int ((((p0).toUInt32 >>> ((24 : Int32) &&& 31).toUInt32).toInt32).toInt8.toInt32 &&& (255 : Int32))), .val (.int (-1 : Int32)), .val (.int (-1 : Int32)), .unset, .unset] []))
    refine Goes.go (fun _ kk => XS.aload X12.here hx rfl (hb hby at_111) rfl rfl kk) ?_
    show Goes _ _ _ _ _ _ _ (T12.setTop (mkF m 113 _ [(.ref ob52)]))
    obtain ⟨cq13, kq13, qa13, qb13, qc13⟩ := isOf hZ hh12 Eq10
    obtain ⟨_, _, ⟨T13, L13, k13, n13⟩, -, X13, ⟨Lc13, hQ13, l13, y13, z13⟩, st13⟩ := X12.virtualBack hx (y := (⟨"com/example/wide_schema/wideschema/io/BytesInput", "read", "()I"⟩ : MethodName)) (z := (⟨"com/example/wide_schema/wideschema/io/BytesInput", "read", "()I"⟩ : MethodName)) hown (mvT hZ (hw _ (List.mem_of_getElem? (i := 27) rfl))) (mvT hZ (hw _ (List.mem_of_getElem? (i := 28) rfl))) (notFace_of_selects (args := #[]) (mvT hZ (hw _ (List.mem_of_getElem? (i := 30) rfl)))) (mvT hZ (hw _ (List.mem_of_getElem? (i := 30) rfl))) (mvT hZ (hw _ (List.mem_of_getElem? (i := 29) rfl))) (by decide) (backOf (W := 0) (rmN l Z a0 hw [] ob52 (4 : Int32) (4 : Int32) T10.heap n0 Z10 Fq10_1 Fq10_2 (by decide)) hZ (hw _ (List.mem_of_getElem? (i := 31) rfl)) (hw _ (List.mem_of_getElem? (i := 4) rfl)) (by decide) (by decide)) qa13 qc13 (g := (mkF m 113 #[.val (.int p0), .val (.int p1), .val (.int p2), .val (.ref ar1), .val (.int (2 : Int32)), .val (.int (2 : Int32)), .val (.ref ob52), .val (.int (1 : Int32)), .val (.int ((((p0).toUInt32 >>> ((16 : Int32) &&& 31).toUInt32).toInt32).toInt8.toInt32 &&& (255 : Int32))), .val (.int ((((p0).toUInt32 >>> ((24 : Int32) &&& 31).toUInt32).toInt32).toInt8.toInt32 &&& (255 : Int32))), .val (.int (-1 : Int32)), .val (.int (-1 : Int32)), .unset, .unset] [(.ref ob52)])) rfl (by rw [hml]; rfl) (Steps.refl _) (argsL := []) (rest := []) (lenOf pd2 rfl) rfl (by show 2 * 0 + _ ≤ _; exact Nat.le_of_eq rfl) (hb hby at_113) (fun _ _ => ⟨rfl, hh12, (by decide : 2 + 0 ≤ _), (by decide : 7 + 0 ≤ _)⟩)
    dsimp only [Pt.U, Pt.locs, Pt.cells, Pt.slots] at X13 l13 y13 z13 st13 hQ13
    subst l13 y13 z13
    obtain ⟨rfl, Nq13, hh13⟩ := hQ13
    have N13 := Fr.app N12 Nq13
    refine Goes.go (fun _ kk => st13.trans kk) ?_
    show Goes _ _ _ _ _ _ _ (T13.setTop (mkF m 116 _ [(.int (-1 : Int32))]))
    refine Goes.go (fun _ kk => XS.istore X13.here hx rfl (hb hby at_116) rfl (l' := #[.val (.int p0), .val (.int p1), .val (.int p2), .val (.ref ar1), .val (.int (2 : Int32)), .val (.int (2 : Int32)), .val (.ref ob52), .val (.int (1 : Int32)), .val (.int ((((p0).toUInt32 >>> ((16 : Int32) &&& 31).toUInt32).toInt32).toInt8.toInt32 &&& (255 : Int32))), .val (.int ((((p0).toUInt32 >>> ((24 : Int32) &&& 31).toUInt32).toInt32).toInt8.toInt32 &&& (255 : Int32))), .val (.int (-1 : Int32)), .val (.int (-1 : Int32)), .val (.int (-1 : Int32)), .unset]) rfl kk) ?_
    show Goes _ _ _ _ _ _ _ (T13.setTop (mkF m 118 #[.val (.int p0), .val (.int p1), .val (.int p2), .val (.ref ar1), .val (.int (2 : Int32)), .val (.int (2 : Int32)), .val (.ref ob52), .val (.int (1 : Int32)), .val (.int ((((p0).toUInt32 >>> ((16 : Int32) &&& 31).toUInt32).toInt32).toInt8.toInt32 &&& (255 : Int32))), .val (.int ((((p0).toUInt32 >>> ((24 : Int32) &&& 31).toUInt32).toInt32).toInt8.toInt32 &&& (255 : Int32))), .val (.int (-1 : Int32)), .val (.int (-1 : Int32)), .val (.int (-1 : Int32)), .unset] []))
    refine Goes.go (fun _ kk => XS.aload X13.here hx rfl (hb hby at_118) rfl rfl kk) ?_
    show Goes _ _ _ _ _ _ _ (T13.setTop (mkF m 120 _ [(.ref ob52)]))
    obtain ⟨cq14, kq14, qa14, qb14, qc14⟩ := isOf hZ hh13 Eq10
    obtain ⟨_, _, ⟨T14, L14, k14, n14⟩, -, X14, ⟨Lc14, hQ14, l14, y14, z14⟩, st14⟩ := X13.virtualBack hx (y := (⟨"com/example/wide_schema/wideschema/io/BytesInput", "read", "()I"⟩ : MethodName)) (z := (⟨"com/example/wide_schema/wideschema/io/BytesInput", "read", "()I"⟩ : MethodName)) hown (mvT hZ (hw _ (List.mem_of_getElem? (i := 27) rfl))) (mvT hZ (hw _ (List.mem_of_getElem? (i := 28) rfl))) (notFace_of_selects (args := #[]) (mvT hZ (hw _ (List.mem_of_getElem? (i := 30) rfl)))) (mvT hZ (hw _ (List.mem_of_getElem? (i := 30) rfl))) (mvT hZ (hw _ (List.mem_of_getElem? (i := 29) rfl))) (by decide) (backOf (W := 0) (rmN l Z a0 hw [] ob52 (4 : Int32) (4 : Int32) T10.heap n0 Z10 Fq10_1 Fq10_2 (by decide)) hZ (hw _ (List.mem_of_getElem? (i := 31) rfl)) (hw _ (List.mem_of_getElem? (i := 4) rfl)) (by decide) (by decide)) qa14 qc14 (g := (mkF m 120 #[.val (.int p0), .val (.int p1), .val (.int p2), .val (.ref ar1), .val (.int (2 : Int32)), .val (.int (2 : Int32)), .val (.ref ob52), .val (.int (1 : Int32)), .val (.int ((((p0).toUInt32 >>> ((16 : Int32) &&& 31).toUInt32).toInt32).toInt8.toInt32 &&& (255 : Int32))), .val (.int ((((p0).toUInt32 >>> ((24 : Int32) &&& 31).toUInt32).toInt32).toInt8.toInt32 &&& (255 : Int32))), .val (.int (-1 : Int32)), .val (.int (-1 : Int32)), .val (.int (-1 : Int32)), .unset] [(.ref ob52)])) rfl (by rw [hml]; rfl) (Steps.refl _) (argsL := []) (rest := []) (lenOf pd2 rfl) rfl (by show 2 * 0 + _ ≤ _; exact Nat.le_of_eq rfl) (hb hby at_120) (fun _ _ => ⟨rfl, hh13, (by decide : 2 + 0 ≤ _), (by decide : 7 + 0 ≤ _)⟩)
    dsimp only [Pt.U, Pt.locs, Pt.cells, Pt.slots] at X14 l14 y14 z14 st14 hQ14
    subst l14 y14 z14
    obtain ⟨rfl, Nq14, hh14⟩ := hQ14
    have N14 := Fr.app N13 Nq14
    refine Goes.go (fun _ kk => st14.trans kk) ?_
    show Goes _ _ _ _ _ _ _ (T14.setTop (mkF m 123 _ [(.int (-1 : Int32))]))
    refine Goes.go (fun _ kk => XS.istore X14.here hx rfl (hb hby at_123) rfl (l' := #[.val (.int p0), .val (.int p1), .val (.int p2), .val (.ref ar1), .val (.int (2 : Int32)), .val (.int (2 : Int32)), .val (.ref ob52), .val (.int (1 : Int32)), .val (.int ((((p0).toUInt32 >>> ((16 : Int32) &&& 31).toUInt32).toInt32).toInt8.toInt32 &&& (255 : Int32))), .val (.int ((((p0).toUInt32 >>> ((24 : Int32) &&& 31).toUInt32).toInt32).toInt8.toInt32 &&& (255 : Int32))), .val (.int (-1 : Int32)), .val (.int (-1 : Int32)), .val (.int (-1 : Int32)), .val (.int (-1 : Int32))]) rfl kk) ?_
    show Goes _ _ _ _ _ _ _ (T14.setTop (mkF m 125 #[.val (.int p0), .val (.int p1), .val (.int p2), .val (.ref ar1), .val (.int (2 : Int32)), .val (.int (2 : Int32)), .val (.ref ob52), .val (.int (1 : Int32)), .val (.int ((((p0).toUInt32 >>> ((16 : Int32) &&& 31).toUInt32).toInt32).toInt8.toInt32 &&& (255 : Int32))), .val (.int ((((p0).toUInt32 >>> ((24 : Int32) &&& 31).toUInt32).toInt32).toInt8.toInt32 &&& (255 : Int32))), .val (.int (-1 : Int32)), .val (.int (-1 : Int32)), .val (.int (-1 : Int32)), .val (.int (-1 : Int32))] []))
    refine Goes.go (fun _ kk => XS.iload X14.here hx rfl (hb hby at_125) rfl kk) ?_
    show Goes _ _ _ _ _ _ _ (T14.setTop (mkF m 127 _ [(.int (1 : Int32))]))
    refine Goes.go (fun _ kk => XS.ifNo X14.here hx rfl (hb hby at_127) rfl (XT.i0_eq_f (by decide)) kk) ?_
    show Goes _ _ _ _ _ _ _ (T14.setTop (mkF m 130 _ []))
    refine Goes.go (fun _ kk => XS.iload X14.here hx rfl (hb hby at_130) rfl kk) ?_
    show Goes _ _ _ _ _ _ _ (T14.setTop (mkF m 132 _ [(.int ((((p0).toUInt32 >>> ((16 : Int32) &&& 31).toUInt32).toInt32).toInt8.toInt32 &&& (255 : Int32)))]))
    refine Goes.go (fun _ kk => XS.iloadN X14.here hx rfl (hb hby at_132) rfl kk) ?_
    show Goes _ _ _ _ _ _ _ (T14.setTop (mkF m 133 _ [(.int p0), (.int ((((p0).toUInt32 >>> ((16 : Int32) &&& 31).toUInt32).toInt32).toInt8.toInt32 &&& (255 : Int32)))]))
    refine Goes.go (fun _ kk => XS.iload X14.here hx rfl (hb hby at_133) rfl kk) ?_
    show Goes _ _ _ _ _ _ _ (T14.setTop (mkF m 135 _ [(.int (2 : Int32)), (.int p0), (.int ((((p0).toUInt32 >>> ((16 : Int32) &&& 31).toUInt32).toInt32).toInt8.toInt32 &&& (255 : Int32)))]))
    refine Goes.go (fun _ kk => XS.iload X14.here hx rfl (hb hby at_135) rfl kk) ?_
    show Goes _ _ _ _ _ _ _ (T14.setTop (mkF m 137 _ [(.int (2 : Int32)), (.int (2 : Int32)), (.int p0), (.int ((((p0).toUInt32 >>> ((16 : Int32) &&& 31).toUInt32).toInt32).toInt8.toInt32 &&& (255 : Int32)))]))
    refine Goes.go (fun _ kk => XS.iconst X14.here hx rfl (hb hby at_137) kk) ?_
    show Goes _ _ _ _ _ _ _ (T14.setTop (mkF m 138 _ [(.int (0 : Int32)), (.int (2 : Int32)), (.int (2 : Int32)), (.int p0), (.int ((((p0).toUInt32 >>> ((16 : Int32) &&& 31).toUInt32).toInt32).toInt8.toInt32 &&& (255 : Int32)))]))
    obtain ⟨_, _, ⟨T15, L15, k15, n15⟩, -, X15, ⟨Lc15, hQ15, l15, y15, z15⟩, st15⟩ := Jvm.LawKit.callS X14 hx (y := (⟨"com/example/wide_schema/wideschema/io/BytesInputReadPinLaw", "exp", "(IIII)I"⟩ : MethodName)) hown (mvT hZ (hw _ (List.mem_of_getElem? (i := 32) rfl))) (mvT hZ (hw _ (List.mem_of_getElem? (i := 33) rfl))) (mvT hZ (hw _ (List.mem_of_getElem? (i := 34) rfl))) (mvT hZ (hw _ (List.mem_of_getElem? (i := 35) rfl))) (by decide) (backOf (W := 1) (rm5 l Z a0 hw [] p0 (2 : Int32) (2 : Int32) (0 : Int32) T10.heap n0 Z10) hZ (hw _ (List.mem_of_getElem? (i := 35) rfl)) (hw _ (List.mem_of_getElem? (i := 34) rfl)) (by decide) (by decide)) (g := (mkF m 138 #[.val (.int p0), .val (.int p1), .val (.int p2), .val (.ref ar1), .val (.int (2 : Int32)), .val (.int (2 : Int32)), .val (.ref ob52), .val (.int (1 : Int32)), .val (.int ((((p0).toUInt32 >>> ((16 : Int32) &&& 31).toUInt32).toInt32).toInt8.toInt32 &&& (255 : Int32))), .val (.int ((((p0).toUInt32 >>> ((24 : Int32) &&& 31).toUInt32).toInt32).toInt8.toInt32 &&& (255 : Int32))), .val (.int (-1 : Int32)), .val (.int (-1 : Int32)), .val (.int (-1 : Int32)), .val (.int (-1 : Int32))] [(.int (0 : Int32)), (.int (2 : Int32)), (.int (2 : Int32)), (.int p0), (.int ((((p0).toUInt32 >>> ((16 : Int32) &&& 31).toUInt32).toInt32).toInt8.toInt32 &&& (255 : Int32)))])) rfl (by rw [hml]; rfl) (argsL := [(.int p0), (.int (2 : Int32)), (.int (2 : Int32)), (.int (0 : Int32))]) (rest := [(.int ((((p0).toUInt32 >>> ((16 : Int32) &&& 31).toUInt32).toInt32).toInt8.toInt32 &&& (255 : Int32)))]) (lenOf pd3 rfl) rfl (by show 2 * 0 + _ ≤ _; exact Nat.le_of_eq rfl) (hb hby at_138) (fun _ _ => ⟨rfl, hh14, (by decide : 2 + 0 ≤ _), (by decide : 7 + 0 ≤ _)⟩)
    dsimp only [Pt.U, Pt.locs, Pt.cells, Pt.slots] at X15 l15 y15 z15 st15 hQ15
    subst l15 y15 z15
    obtain ⟨rfl, Nq15, hh15⟩ := hQ15
    have N15 := Fr.app N14 Nq15
    refine Goes.go (st15) ?_
    show Goes _ _ _ _ _ _ _ (T15.setTop (mkF m 141 _ [(.int (exF p0 (2 : Int32) (2 : Int32) (0 : Int32))), (.int ((((p0).toUInt32 >>> ((16 : Int32) &&& 31).toUInt32).toInt32).toInt8.toInt32 &&& (255 : Int32)))]))
    refine Goes.go (fun _ kk => XS.icmpNo X15.here hx rfl (hb hby at_141) rfl (XT.ii_ne_f (own_n (16 : Int32) (by decide) (by decide))) kk) ?_
    show Goes _ _ _ _ _ _ _ (T15.setTop (mkF m 144 _ []))
    refine Goes.go (fun _ kk => XS.iconst X15.here hx rfl (hb hby at_144) kk) ?_
    show Goes _ _ _ _ _ _ _ (T15.setTop (mkF m 145 _ [(.int (1 : Int32))]))
    refine Goes.go (fun _ kk => XS.goto X15.here hx rfl (pc0 := 145) (pc' := 149) rfl (hb hby at_145) (by decide) (by decide) kk) ?_
    show Goes _ _ _ _ _ _ _ (T15.setTop (mkF m 149 _ [(.int (1 : Int32))]))
    refine Goes.go (fun _ kk => XS.istore X15.here hx rfl (hb hby at_149) rfl (l' := #[.val (.int p0), .val (.int p1), .val (.int p2), .val (.ref ar1), .val (.int (2 : Int32)), .val (.int (2 : Int32)), .val (.ref ob52), .val (.int (1 : Int32)), .val (.int ((((p0).toUInt32 >>> ((16 : Int32) &&& 31).toUInt32).toInt32).toInt8.toInt32 &&& (255 : Int32))), .val (.int ((((p0).toUInt32 >>> ((24 : Int32) &&& 31).toUInt32).toInt32).toInt8.toInt32 &&& (255 : Int32))), .val (.int (-1 : Int32)), .val (.int (-1 : Int32)), .val (.int (-1 : Int32)), .val (.int (-1 : Int32))]) rfl kk) ?_
    show Goes _ _ _ _ _ _ _ (T15.setTop (mkF m 151 _ []))
    refine Goes.go (fun _ kk => XS.iload X15.here hx rfl (hb hby at_151) rfl kk) ?_
    show Goes _ _ _ _ _ _ _ (T15.setTop (mkF m 153 _ [(.int (1 : Int32))]))
    refine Goes.go (fun _ kk => XS.ifNo X15.here hx rfl (hb hby at_153) rfl (XT.i0_eq_f (by decide)) kk) ?_
    show Goes _ _ _ _ _ _ _ (T15.setTop (mkF m 156 _ []))
    refine Goes.go (fun _ kk => XS.iload X15.here hx rfl (hb hby at_156) rfl kk) ?_
    show Goes _ _ _ _ _ _ _ (T15.setTop (mkF m 158 _ [(.int ((((p0).toUInt32 >>> ((24 : Int32) &&& 31).toUInt32).toInt32).toInt8.toInt32 &&& (255 : Int32)))]))
    refine Goes.go (fun _ kk => XS.iloadN X15.here hx rfl (hb hby at_158) rfl kk) ?_
    show Goes _ _ _ _ _ _ _ (T15.setTop (mkF m 159 _ [(.int p0), (.int ((((p0).toUInt32 >>> ((24 : Int32) &&& 31).toUInt32).toInt32).toInt8.toInt32 &&& (255 : Int32)))]))
    refine Goes.go (fun _ kk => XS.iload X15.here hx rfl (hb hby at_159) rfl kk) ?_
    show Goes _ _ _ _ _ _ _ (T15.setTop (mkF m 161 _ [(.int (2 : Int32)), (.int p0), (.int ((((p0).toUInt32 >>> ((24 : Int32) &&& 31).toUInt32).toInt32).toInt8.toInt32 &&& (255 : Int32)))]))
    refine Goes.go (fun _ kk => XS.iload X15.here hx rfl (hb hby at_161) rfl kk) ?_
    show Goes _ _ _ _ _ _ _ (T15.setTop (mkF m 163 _ [(.int (2 : Int32)), (.int (2 : Int32)), (.int p0), (.int ((((p0).toUInt32 >>> ((24 : Int32) &&& 31).toUInt32).toInt32).toInt8.toInt32 &&& (255 : Int32)))]))
    refine Goes.go (fun _ kk => XS.iconst X15.here hx rfl (hb hby at_163) kk) ?_
    show Goes _ _ _ _ _ _ _ (T15.setTop (mkF m 164 _ [(.int (1 : Int32)), (.int (2 : Int32)), (.int (2 : Int32)), (.int p0), (.int ((((p0).toUInt32 >>> ((24 : Int32) &&& 31).toUInt32).toInt32).toInt8.toInt32 &&& (255 : Int32)))]))
    obtain ⟨_, _, ⟨T16, L16, k16, n16⟩, -, X16, ⟨Lc16, hQ16, l16, y16, z16⟩, st16⟩ := Jvm.LawKit.callS X15 hx (y := (⟨"com/example/wide_schema/wideschema/io/BytesInputReadPinLaw", "exp", "(IIII)I"⟩ : MethodName)) hown (mvT hZ (hw _ (List.mem_of_getElem? (i := 32) rfl))) (mvT hZ (hw _ (List.mem_of_getElem? (i := 33) rfl))) (mvT hZ (hw _ (List.mem_of_getElem? (i := 34) rfl))) (mvT hZ (hw _ (List.mem_of_getElem? (i := 35) rfl))) (by decide) (backOf (W := 1) (rm5 l Z a0 hw [] p0 (2 : Int32) (2 : Int32) (1 : Int32) T10.heap n0 Z10) hZ (hw _ (List.mem_of_getElem? (i := 35) rfl)) (hw _ (List.mem_of_getElem? (i := 34) rfl)) (by decide) (by decide)) (g := (mkF m 164 #[.val (.int p0), .val (.int p1), .val (.int p2), .val (.ref ar1), .val (.int (2 : Int32)), .val (.int (2 : Int32)), .val (.ref ob52), .val (.int (1 : Int32)), .val (.int ((((p0).toUInt32 >>> ((16 : Int32) &&& 31).toUInt32).toInt32).toInt8.toInt32 &&& (255 : Int32))), .val (.int ((((p0).toUInt32 >>> ((24 : Int32) &&& 31).toUInt32).toInt32).toInt8.toInt32 &&& (255 : Int32))), .val (.int (-1 : Int32)), .val (.int (-1 : Int32)), .val (.int (-1 : Int32)), .val (.int (-1 : Int32))] [(.int (1 : Int32)), (.int (2 : Int32)), (.int (2 : Int32)), (.int p0), (.int ((((p0).toUInt32 >>> ((24 : Int32) &&& 31).toUInt32).toInt32).toInt8.toInt32 &&& (255 : Int32)))])) rfl (by rw [hml]; rfl) (argsL := [(.int p0), (.int (2 : Int32)), (.int (2 : Int32)), (.int (1 : Int32))]) (rest := [(.int ((((p0).toUInt32 >>> ((24 : Int32) &&& 31).toUInt32).toInt32).toInt8.toInt32 &&& (255 : Int32)))]) (lenOf pd3 rfl) rfl (by show 2 * 0 + _ ≤ _; exact Nat.le_of_eq rfl) (hb hby at_164) (fun _ _ => ⟨rfl, hh15, (by decide : 2 + 0 ≤ _), (by decide : 7 + 0 ≤ _)⟩)
    dsimp only [Pt.U, Pt.locs, Pt.cells, Pt.slots] at X16 l16 y16 z16 st16 hQ16
    subst l16 y16 z16
    obtain ⟨rfl, Nq16, hh16⟩ := hQ16
    have N16 := Fr.app N15 Nq16
    refine Goes.go (st16) ?_
    show Goes _ _ _ _ _ _ _ (T16.setTop (mkF m 167 _ [(.int (exF p0 (2 : Int32) (2 : Int32) (1 : Int32))), (.int ((((p0).toUInt32 >>> ((24 : Int32) &&& 31).toUInt32).toInt32).toInt8.toInt32 &&& (255 : Int32)))]))
    refine Goes.go (fun _ kk => XS.icmpNo X16.here hx rfl (hb hby at_167) rfl (XT.ii_ne_f (own_n (24 : Int32) (by decide) (by decide))) kk) ?_
    show Goes _ _ _ _ _ _ _ (T16.setTop (mkF m 170 _ []))
    refine Goes.go (fun _ kk => XS.iconst X16.here hx rfl (hb hby at_170) kk) ?_
    show Goes _ _ _ _ _ _ _ (T16.setTop (mkF m 171 _ [(.int (1 : Int32))]))
    refine Goes.go (fun _ kk => XS.goto X16.here hx rfl (pc0 := 171) (pc' := 175) rfl (hb hby at_171) (by decide) (by decide) kk) ?_
    show Goes _ _ _ _ _ _ _ (T16.setTop (mkF m 175 _ [(.int (1 : Int32))]))
    refine Goes.go (fun _ kk => XS.istore X16.here hx rfl (hb hby at_175) rfl (l' := #[.val (.int p0), .val (.int p1), .val (.int p2), .val (.ref ar1), .val (.int (2 : Int32)), .val (.int (2 : Int32)), .val (.ref ob52), .val (.int (1 : Int32)), .val (.int ((((p0).toUInt32 >>> ((16 : Int32) &&& 31).toUInt32).toInt32).toInt8.toInt32 &&& (255 : Int32))), .val (.int ((((p0).toUInt32 >>> ((24 : Int32) &&& 31).toUInt32).toInt32).toInt8.toInt32 &&& (255 : Int32))), .val (.int (-1 : Int32)), .val (.int (-1 : Int32)), .val (.int (-1 : Int32)), .val (.int (-1 : Int32))]) rfl kk) ?_
    show Goes _ _ _ _ _ _ _ (T16.setTop (mkF m 177 _ []))
    refine Goes.go (fun _ kk => XS.iload X16.here hx rfl (hb hby at_177) rfl kk) ?_
    show Goes _ _ _ _ _ _ _ (T16.setTop (mkF m 179 _ [(.int (1 : Int32))]))
    refine Goes.go (fun _ kk => XS.ifNo X16.here hx rfl (hb hby at_179) rfl (XT.i0_eq_f (by decide)) kk) ?_
    show Goes _ _ _ _ _ _ _ (T16.setTop (mkF m 182 _ []))
    refine Goes.go (fun _ kk => XS.iload X16.here hx rfl (hb hby at_182) rfl kk) ?_
    show Goes _ _ _ _ _ _ _ (T16.setTop (mkF m 184 _ [(.int (-1 : Int32))]))
    refine Goes.go (fun _ kk => XS.iloadN X16.here hx rfl (hb hby at_184) rfl kk) ?_
    show Goes _ _ _ _ _ _ _ (T16.setTop (mkF m 185 _ [(.int p0), (.int (-1 : Int32))]))
    refine Goes.go (fun _ kk => XS.iload X16.here hx rfl (hb hby at_185) rfl kk) ?_
    show Goes _ _ _ _ _ _ _ (T16.setTop (mkF m 187 _ [(.int (2 : Int32)), (.int p0), (.int (-1 : Int32))]))
    refine Goes.go (fun _ kk => XS.iload X16.here hx rfl (hb hby at_187) rfl kk) ?_
    show Goes _ _ _ _ _ _ _ (T16.setTop (mkF m 189 _ [(.int (2 : Int32)), (.int (2 : Int32)), (.int p0), (.int (-1 : Int32))]))
    refine Goes.go (fun _ kk => XS.iconst X16.here hx rfl (hb hby at_189) kk) ?_
    show Goes _ _ _ _ _ _ _ (T16.setTop (mkF m 190 _ [(.int (2 : Int32)), (.int (2 : Int32)), (.int (2 : Int32)), (.int p0), (.int (-1 : Int32))]))
    obtain ⟨_, _, ⟨T17, L17, k17, n17⟩, -, X17, ⟨Lc17, hQ17, l17, y17, z17⟩, st17⟩ := Jvm.LawKit.callS X16 hx (y := (⟨"com/example/wide_schema/wideschema/io/BytesInputReadPinLaw", "exp", "(IIII)I"⟩ : MethodName)) hown (mvT hZ (hw _ (List.mem_of_getElem? (i := 32) rfl))) (mvT hZ (hw _ (List.mem_of_getElem? (i := 33) rfl))) (mvT hZ (hw _ (List.mem_of_getElem? (i := 34) rfl))) (mvT hZ (hw _ (List.mem_of_getElem? (i := 35) rfl))) (by decide) (backOf (W := 1) (rm5 l Z a0 hw [] p0 (2 : Int32) (2 : Int32) (2 : Int32) T10.heap n0 Z10) hZ (hw _ (List.mem_of_getElem? (i := 35) rfl)) (hw _ (List.mem_of_getElem? (i := 34) rfl)) (by decide) (by decide)) (g := (mkF m 190 #[.val (.int p0), .val (.int p1), .val (.int p2), .val (.ref ar1), .val (.int (2 : Int32)), .val (.int (2 : Int32)), .val (.ref ob52), .val (.int (1 : Int32)), .val (.int ((((p0).toUInt32 >>> ((16 : Int32) &&& 31).toUInt32).toInt32).toInt8.toInt32 &&& (255 : Int32))), .val (.int ((((p0).toUInt32 >>> ((24 : Int32) &&& 31).toUInt32).toInt32).toInt8.toInt32 &&& (255 : Int32))), .val (.int (-1 : Int32)), .val (.int (-1 : Int32)), .val (.int (-1 : Int32)), .val (.int (-1 : Int32))] [(.int (2 : Int32)), (.int (2 : Int32)), (.int (2 : Int32)), (.int p0), (.int (-1 : Int32))])) rfl (by rw [hml]; rfl) (argsL := [(.int p0), (.int (2 : Int32)), (.int (2 : Int32)), (.int (2 : Int32))]) (rest := [(.int (-1 : Int32))]) (lenOf pd3 rfl) rfl (by show 2 * 0 + _ ≤ _; exact Nat.le_of_eq rfl) (hb hby at_190) (fun _ _ => ⟨rfl, hh16, (by decide : 2 + 0 ≤ _), (by decide : 7 + 0 ≤ _)⟩)
    dsimp only [Pt.U, Pt.locs, Pt.cells, Pt.slots] at X17 l17 y17 z17 st17 hQ17
    subst l17 y17 z17
    obtain ⟨rfl, Nq17, hh17⟩ := hQ17
    have N17 := Fr.app N16 Nq17
    refine Goes.go (st17) ?_
    show Goes _ _ _ _ _ _ _ (T17.setTop (mkF m 193 _ [(.int (exF p0 (2 : Int32) (2 : Int32) (2 : Int32))), (.int (-1 : Int32))]))
    refine Goes.go (fun _ kk => XS.icmpNo X17.here hx rfl (hb hby at_193) rfl (XT.ii_ne_f (own_m (by decide))) kk) ?_
    show Goes _ _ _ _ _ _ _ (T17.setTop (mkF m 196 _ []))
    refine Goes.go (fun _ kk => XS.iconst X17.here hx rfl (hb hby at_196) kk) ?_
    show Goes _ _ _ _ _ _ _ (T17.setTop (mkF m 197 _ [(.int (1 : Int32))]))
    refine Goes.go (fun _ kk => XS.goto X17.here hx rfl (pc0 := 197) (pc' := 201) rfl (hb hby at_197) (by decide) (by decide) kk) ?_
    show Goes _ _ _ _ _ _ _ (T17.setTop (mkF m 201 _ [(.int (1 : Int32))]))
    refine Goes.go (fun _ kk => XS.istore X17.here hx rfl (hb hby at_201) rfl (l' := #[.val (.int p0), .val (.int p1), .val (.int p2), .val (.ref ar1), .val (.int (2 : Int32)), .val (.int (2 : Int32)), .val (.ref ob52), .val (.int (1 : Int32)), .val (.int ((((p0).toUInt32 >>> ((16 : Int32) &&& 31).toUInt32).toInt32).toInt8.toInt32 &&& (255 : Int32))), .val (.int ((((p0).toUInt32 >>> ((24 : Int32) &&& 31).toUInt32).toInt32).toInt8.toInt32 &&& (255 : Int32))), .val (.int (-1 : Int32)), .val (.int (-1 : Int32)), .val (.int (-1 : Int32)), .val (.int (-1 : Int32))]) rfl kk) ?_
    show Goes _ _ _ _ _ _ _ (T17.setTop (mkF m 203 _ []))
    refine Goes.go (fun _ kk => XS.iload X17.here hx rfl (hb hby at_203) rfl kk) ?_
    show Goes _ _ _ _ _ _ _ (T17.setTop (mkF m 205 _ [(.int (1 : Int32))]))
    refine Goes.go (fun _ kk => XS.ifNo X17.here hx rfl (hb hby at_205) rfl (XT.i0_eq_f (by decide)) kk) ?_
    show Goes _ _ _ _ _ _ _ (T17.setTop (mkF m 208 _ []))
    refine Goes.go (fun _ kk => XS.iload X17.here hx rfl (hb hby at_208) rfl kk) ?_
    show Goes _ _ _ _ _ _ _ (T17.setTop (mkF m 210 _ [(.int (-1 : Int32))]))
    refine Goes.go (fun _ kk => XS.iloadN X17.here hx rfl (hb hby at_210) rfl kk) ?_
    show Goes _ _ _ _ _ _ _ (T17.setTop (mkF m 211 _ [(.int p0), (.int (-1 : Int32))]))
    refine Goes.go (fun _ kk => XS.iload X17.here hx rfl (hb hby at_211) rfl kk) ?_
    show Goes _ _ _ _ _ _ _ (T17.setTop (mkF m 213 _ [(.int (2 : Int32)), (.int p0), (.int (-1 : Int32))]))
    refine Goes.go (fun _ kk => XS.iload X17.here hx rfl (hb hby at_213) rfl kk) ?_
    show Goes _ _ _ _ _ _ _ (T17.setTop (mkF m 215 _ [(.int (2 : Int32)), (.int (2 : Int32)), (.int p0), (.int (-1 : Int32))]))
    refine Goes.go (fun _ kk => XS.iconst X17.here hx rfl (hb hby at_215) kk) ?_
    show Goes _ _ _ _ _ _ _ (T17.setTop (mkF m 216 _ [(.int (3 : Int32)), (.int (2 : Int32)), (.int (2 : Int32)), (.int p0), (.int (-1 : Int32))]))
    obtain ⟨_, _, ⟨T18, L18, k18, n18⟩, -, X18, ⟨Lc18, hQ18, l18, y18, z18⟩, st18⟩ := Jvm.LawKit.callS X17 hx (y := (⟨"com/example/wide_schema/wideschema/io/BytesInputReadPinLaw", "exp", "(IIII)I"⟩ : MethodName)) hown (mvT hZ (hw _ (List.mem_of_getElem? (i := 32) rfl))) (mvT hZ (hw _ (List.mem_of_getElem? (i := 33) rfl))) (mvT hZ (hw _ (List.mem_of_getElem? (i := 34) rfl))) (mvT hZ (hw _ (List.mem_of_getElem? (i := 35) rfl))) (by decide) (backOf (W := 1) (rm5 l Z a0 hw [] p0 (2 : Int32) (2 : Int32) (3 : Int32) T10.heap n0 Z10) hZ (hw _ (List.mem_of_getElem? (i := 35) rfl)) (hw _ (List.mem_of_getElem? (i := 34) rfl)) (by decide) (by decide)) (g := (mkF m 216 #[.val (.int p0), .val (.int p1), .val (.int p2), .val (.ref ar1), .val (.int (2 : Int32)), .val (.int (2 : Int32)), .val (.ref ob52), .val (.int (1 : Int32)), .val (.int ((((p0).toUInt32 >>> ((16 : Int32) &&& 31).toUInt32).toInt32).toInt8.toInt32 &&& (255 : Int32))), .val (.int ((((p0).toUInt32 >>> ((24 : Int32) &&& 31).toUInt32).toInt32).toInt8.toInt32 &&& (255 : Int32))), .val (.int (-1 : Int32)), .val (.int (-1 : Int32)), .val (.int (-1 : Int32)), .val (.int (-1 : Int32))] [(.int (3 : Int32)), (.int (2 : Int32)), (.int (2 : Int32)), (.int p0), (.int (-1 : Int32))])) rfl (by rw [hml]; rfl) (argsL := [(.int p0), (.int (2 : Int32)), (.int (2 : Int32)), (.int (3 : Int32))]) (rest := [(.int (-1 : Int32))]) (lenOf pd3 rfl) rfl (by show 2 * 0 + _ ≤ _; exact Nat.le_of_eq rfl) (hb hby at_216) (fun _ _ => ⟨rfl, hh17, (by decide : 2 + 0 ≤ _), (by decide : 7 + 0 ≤ _)⟩)
    dsimp only [Pt.U, Pt.locs, Pt.cells, Pt.slots] at X18 l18 y18 z18 st18 hQ18
    subst l18 y18 z18
    obtain ⟨rfl, Nq18, hh18⟩ := hQ18
    have N18 := Fr.app N17 Nq18
    refine Goes.go (st18) ?_
    show Goes _ _ _ _ _ _ _ (T18.setTop (mkF m 219 _ [(.int (exF p0 (2 : Int32) (2 : Int32) (3 : Int32))), (.int (-1 : Int32))]))
    refine Goes.go (fun _ kk => XS.icmpNo X18.here hx rfl (hb hby at_219) rfl (XT.ii_ne_f (own_m (by decide))) kk) ?_
    show Goes _ _ _ _ _ _ _ (T18.setTop (mkF m 222 _ []))
    refine Goes.go (fun _ kk => XS.iconst X18.here hx rfl (hb hby at_222) kk) ?_
    show Goes _ _ _ _ _ _ _ (T18.setTop (mkF m 223 _ [(.int (1 : Int32))]))
    refine Goes.go (fun _ kk => XS.goto X18.here hx rfl (pc0 := 223) (pc' := 227) rfl (hb hby at_223) (by decide) (by decide) kk) ?_
    show Goes _ _ _ _ _ _ _ (T18.setTop (mkF m 227 _ [(.int (1 : Int32))]))
    refine Goes.go (fun _ kk => XS.istore X18.here hx rfl (hb hby at_227) rfl (l' := #[.val (.int p0), .val (.int p1), .val (.int p2), .val (.ref ar1), .val (.int (2 : Int32)), .val (.int (2 : Int32)), .val (.ref ob52), .val (.int (1 : Int32)), .val (.int ((((p0).toUInt32 >>> ((16 : Int32) &&& 31).toUInt32).toInt32).toInt8.toInt32 &&& (255 : Int32))), .val (.int ((((p0).toUInt32 >>> ((24 : Int32) &&& 31).toUInt32).toInt32).toInt8.toInt32 &&& (255 : Int32))), .val (.int (-1 : Int32)), .val (.int (-1 : Int32)), .val (.int (-1 : Int32)), .val (.int (-1 : Int32))]) rfl kk) ?_
    show Goes _ _ _ _ _ _ _ (T18.setTop (mkF m 229 _ []))
    refine Goes.go (fun _ kk => XS.iload X18.here hx rfl (hb hby at_229) rfl kk) ?_
    show Goes _ _ _ _ _ _ _ (T18.setTop (mkF m 231 _ [(.int (1 : Int32))]))
    refine Goes.go (fun _ kk => XS.ifNo X18.here hx rfl (hb hby at_231) rfl (XT.i0_eq_f (by decide)) kk) ?_
    show Goes _ _ _ _ _ _ _ (T18.setTop (mkF m 234 _ []))
    refine Goes.go (fun _ kk => XS.iload X18.here hx rfl (hb hby at_234) rfl kk) ?_
    show Goes _ _ _ _ _ _ _ (T18.setTop (mkF m 236 _ [(.int (-1 : Int32))]))
    refine Goes.go (fun _ kk => XS.iloadN X18.here hx rfl (hb hby at_236) rfl kk) ?_
    show Goes _ _ _ _ _ _ _ (T18.setTop (mkF m 237 _ [(.int p0), (.int (-1 : Int32))]))
    refine Goes.go (fun _ kk => XS.iload X18.here hx rfl (hb hby at_237) rfl kk) ?_
    show Goes _ _ _ _ _ _ _ (T18.setTop (mkF m 239 _ [(.int (2 : Int32)), (.int p0), (.int (-1 : Int32))]))
    refine Goes.go (fun _ kk => XS.iload X18.here hx rfl (hb hby at_239) rfl kk) ?_
    show Goes _ _ _ _ _ _ _ (T18.setTop (mkF m 241 _ [(.int (2 : Int32)), (.int (2 : Int32)), (.int p0), (.int (-1 : Int32))]))
    refine Goes.go (fun _ kk => XS.iconst X18.here hx rfl (hb hby at_241) kk) ?_
    show Goes _ _ _ _ _ _ _ (T18.setTop (mkF m 242 _ [(.int (4 : Int32)), (.int (2 : Int32)), (.int (2 : Int32)), (.int p0), (.int (-1 : Int32))]))
    obtain ⟨_, _, ⟨T19, L19, k19, n19⟩, -, X19, ⟨Lc19, hQ19, l19, y19, z19⟩, st19⟩ := Jvm.LawKit.callS X18 hx (y := (⟨"com/example/wide_schema/wideschema/io/BytesInputReadPinLaw", "exp", "(IIII)I"⟩ : MethodName)) hown (mvT hZ (hw _ (List.mem_of_getElem? (i := 32) rfl))) (mvT hZ (hw _ (List.mem_of_getElem? (i := 33) rfl))) (mvT hZ (hw _ (List.mem_of_getElem? (i := 34) rfl))) (mvT hZ (hw _ (List.mem_of_getElem? (i := 35) rfl))) (by decide) (backOf (W := 1) (rm5 l Z a0 hw [] p0 (2 : Int32) (2 : Int32) (4 : Int32) T10.heap n0 Z10) hZ (hw _ (List.mem_of_getElem? (i := 35) rfl)) (hw _ (List.mem_of_getElem? (i := 34) rfl)) (by decide) (by decide)) (g := (mkF m 242 #[.val (.int p0), .val (.int p1), .val (.int p2), .val (.ref ar1), .val (.int (2 : Int32)), .val (.int (2 : Int32)), .val (.ref ob52), .val (.int (1 : Int32)), .val (.int ((((p0).toUInt32 >>> ((16 : Int32) &&& 31).toUInt32).toInt32).toInt8.toInt32 &&& (255 : Int32))), .val (.int ((((p0).toUInt32 >>> ((24 : Int32) &&& 31).toUInt32).toInt32).toInt8.toInt32 &&& (255 : Int32))), .val (.int (-1 : Int32)), .val (.int (-1 : Int32)), .val (.int (-1 : Int32)), .val (.int (-1 : Int32))] [(.int (4 : Int32)), (.int (2 : Int32)), (.int (2 : Int32)), (.int p0), (.int (-1 : Int32))])) rfl (by rw [hml]; rfl) (argsL := [(.int p0), (.int (2 : Int32)), (.int (2 : Int32)), (.int (4 : Int32))]) (rest := [(.int (-1 : Int32))]) (lenOf pd3 rfl) rfl (by show 2 * 0 + _ ≤ _; exact Nat.le_of_eq rfl) (hb hby at_242) (fun _ _ => ⟨rfl, hh18, (by decide : 2 + 0 ≤ _), (by decide : 7 + 0 ≤ _)⟩)
    dsimp only [Pt.U, Pt.locs, Pt.cells, Pt.slots] at X19 l19 y19 z19 st19 hQ19
    subst l19 y19 z19
    obtain ⟨rfl, Nq19, hh19⟩ := hQ19
    have N19 := Fr.app N18 Nq19
    refine Goes.go (st19) ?_
    show Goes _ _ _ _ _ _ _ (T19.setTop (mkF m 245 _ [(.int (exF p0 (2 : Int32) (2 : Int32) (4 : Int32))), (.int (-1 : Int32))]))
    refine Goes.go (fun _ kk => XS.icmpNo X19.here hx rfl (hb hby at_245) rfl (XT.ii_ne_f (own_m (by decide))) kk) ?_
    show Goes _ _ _ _ _ _ _ (T19.setTop (mkF m 248 _ []))
    refine Goes.go (fun _ kk => XS.iconst X19.here hx rfl (hb hby at_248) kk) ?_
    show Goes _ _ _ _ _ _ _ (T19.setTop (mkF m 249 _ [(.int (1 : Int32))]))
    refine Goes.go (fun _ kk => XS.goto X19.here hx rfl (pc0 := 249) (pc' := 253) rfl (hb hby at_249) (by decide) (by decide) kk) ?_
    show Goes _ _ _ _ _ _ _ (T19.setTop (mkF m 253 _ [(.int (1 : Int32))]))
    refine Goes.go (fun _ kk => XS.istore X19.here hx rfl (hb hby at_253) rfl (l' := #[.val (.int p0), .val (.int p1), .val (.int p2), .val (.ref ar1), .val (.int (2 : Int32)), .val (.int (2 : Int32)), .val (.ref ob52), .val (.int (1 : Int32)), .val (.int ((((p0).toUInt32 >>> ((16 : Int32) &&& 31).toUInt32).toInt32).toInt8.toInt32 &&& (255 : Int32))), .val (.int ((((p0).toUInt32 >>> ((24 : Int32) &&& 31).toUInt32).toInt32).toInt8.toInt32 &&& (255 : Int32))), .val (.int (-1 : Int32)), .val (.int (-1 : Int32)), .val (.int (-1 : Int32)), .val (.int (-1 : Int32))]) rfl kk) ?_
    show Goes _ _ _ _ _ _ _ (T19.setTop (mkF m 255 _ []))
    refine Goes.go (fun _ kk => XS.iload X19.here hx rfl (hb hby at_255) rfl kk) ?_
    show Goes _ _ _ _ _ _ _ (T19.setTop (mkF m 257 _ [(.int (1 : Int32))]))
    refine Goes.go (fun _ kk => XS.ifNo X19.here hx rfl (hb hby at_257) rfl (XT.i0_eq_f (by decide)) kk) ?_
    show Goes _ _ _ _ _ _ _ (T19.setTop (mkF m 260 _ []))
    refine Goes.go (fun _ kk => XS.iload X19.here hx rfl (hb hby at_260) rfl kk) ?_
    show Goes _ _ _ _ _ _ _ (T19.setTop (mkF m 262 _ [(.int (-1 : Int32))]))
    refine Goes.go (fun _ kk => XS.iloadN X19.here hx rfl (hb hby at_262) rfl kk) ?_
    show Goes _ _ _ _ _ _ _ (T19.setTop (mkF m 263 _ [(.int p0), (.int (-1 : Int32))]))
    refine Goes.go (fun _ kk => XS.iload X19.here hx rfl (hb hby at_263) rfl kk) ?_
    show Goes _ _ _ _ _ _ _ (T19.setTop (mkF m 265 _ [(.int (2 : Int32)), (.int p0), (.int (-1 : Int32))]))
    refine Goes.go (fun _ kk => XS.iload X19.here hx rfl (hb hby at_265) rfl kk) ?_
    show Goes _ _ _ _ _ _ _ (T19.setTop (mkF m 267 _ [(.int (2 : Int32)), (.int (2 : Int32)), (.int p0), (.int (-1 : Int32))]))
    refine Goes.go (fun _ kk => XS.iconst X19.here hx rfl (hb hby at_267) kk) ?_
    show Goes _ _ _ _ _ _ _ (T19.setTop (mkF m 268 _ [(.int (5 : Int32)), (.int (2 : Int32)), (.int (2 : Int32)), (.int p0), (.int (-1 : Int32))]))
    obtain ⟨_, _, ⟨T20, L20, k20, n20⟩, -, X20, ⟨Lc20, hQ20, l20, y20, z20⟩, st20⟩ := Jvm.LawKit.callS X19 hx (y := (⟨"com/example/wide_schema/wideschema/io/BytesInputReadPinLaw", "exp", "(IIII)I"⟩ : MethodName)) hown (mvT hZ (hw _ (List.mem_of_getElem? (i := 32) rfl))) (mvT hZ (hw _ (List.mem_of_getElem? (i := 33) rfl))) (mvT hZ (hw _ (List.mem_of_getElem? (i := 34) rfl))) (mvT hZ (hw _ (List.mem_of_getElem? (i := 35) rfl))) (by decide) (backOf (W := 1) (rm5 l Z a0 hw [] p0 (2 : Int32) (2 : Int32) (5 : Int32) T10.heap n0 Z10) hZ (hw _ (List.mem_of_getElem? (i := 35) rfl)) (hw _ (List.mem_of_getElem? (i := 34) rfl)) (by decide) (by decide)) (g := (mkF m 268 #[.val (.int p0), .val (.int p1), .val (.int p2), .val (.ref ar1), .val (.int (2 : Int32)), .val (.int (2 : Int32)), .val (.ref ob52), .val (.int (1 : Int32)), .val (.int ((((p0).toUInt32 >>> ((16 : Int32) &&& 31).toUInt32).toInt32).toInt8.toInt32 &&& (255 : Int32))), .val (.int ((((p0).toUInt32 >>> ((24 : Int32) &&& 31).toUInt32).toInt32).toInt8.toInt32 &&& (255 : Int32))), .val (.int (-1 : Int32)), .val (.int (-1 : Int32)), .val (.int (-1 : Int32)), .val (.int (-1 : Int32))] [(.int (5 : Int32)), (.int (2 : Int32)), (.int (2 : Int32)), (.int p0), (.int (-1 : Int32))])) rfl (by rw [hml]; rfl) (argsL := [(.int p0), (.int (2 : Int32)), (.int (2 : Int32)), (.int (5 : Int32))]) (rest := [(.int (-1 : Int32))]) (lenOf pd3 rfl) rfl (by show 2 * 0 + _ ≤ _; exact Nat.le_of_eq rfl) (hb hby at_268) (fun _ _ => ⟨rfl, hh19, (by decide : 2 + 0 ≤ _), (by decide : 7 + 0 ≤ _)⟩)
    dsimp only [Pt.U, Pt.locs, Pt.cells, Pt.slots] at X20 l20 y20 z20 st20 hQ20
    subst l20 y20 z20
    obtain ⟨rfl, Nq20, hh20⟩ := hQ20
    have N20 := Fr.app N19 Nq20
    refine Goes.go (st20) ?_
    show Goes _ _ _ _ _ _ _ (T20.setTop (mkF m 271 _ [(.int (exF p0 (2 : Int32) (2 : Int32) (5 : Int32))), (.int (-1 : Int32))]))
    refine Goes.go (fun _ kk => XS.icmpNo X20.here hx rfl (hb hby at_271) rfl (XT.ii_ne_f (own_m (by decide))) kk) ?_
    show Goes _ _ _ _ _ _ _ (T20.setTop (mkF m 274 _ []))
    refine Goes.go (fun _ kk => XS.iconst X20.here hx rfl (hb hby at_274) kk) ?_
    show Goes _ _ _ _ _ _ _ (T20.setTop (mkF m 275 _ [(.int (1 : Int32))]))
    refine Goes.go (fun _ kk => XS.goto X20.here hx rfl (pc0 := 275) (pc' := 279) rfl (hb hby at_275) (by decide) (by decide) kk) ?_
    show Goes _ _ _ _ _ _ _ (T20.setTop (mkF m 279 _ [(.int (1 : Int32))]))
    refine Goes.go (fun _ kk => XS.istore X20.here hx rfl (hb hby at_279) rfl (l' := #[.val (.int p0), .val (.int p1), .val (.int p2), .val (.ref ar1), .val (.int (2 : Int32)), .val (.int (2 : Int32)), .val (.ref ob52), .val (.int (1 : Int32)), .val (.int ((((p0).toUInt32 >>> ((16 : Int32) &&& 31).toUInt32).toInt32).toInt8.toInt32 &&& (255 : Int32))), .val (.int ((((p0).toUInt32 >>> ((24 : Int32) &&& 31).toUInt32).toInt32).toInt8.toInt32 &&& (255 : Int32))), .val (.int (-1 : Int32)), .val (.int (-1 : Int32)), .val (.int (-1 : Int32)), .val (.int (-1 : Int32))]) rfl kk) ?_
    show Goes _ _ _ _ _ _ _ (T20.setTop (mkF m 281 _ []))
    refine Goes.go (fun _ kk => XS.iload X20.here hx rfl (hb hby at_281) rfl kk) ?_
    show Goes _ _ _ _ _ _ _ (T20.setTop (mkF m 283 _ [(.int (1 : Int32))]))
    refine Goes.go (fun _ kk => XS.ifNo X20.here hx rfl (hb hby at_283) rfl (XT.i0_eq_f (by decide)) kk) ?_
    show Goes _ _ _ _ _ _ _ (T20.setTop (mkF m 286 _ []))
    refine Goes.go (fun _ kk => XS.aload X20.here hx rfl (hb hby at_286) rfl rfl kk) ?_
    show Goes _ _ _ _ _ _ _ (T20.setTop (mkF m 288 _ [(.ref ob52)]))
    obtain ⟨cq21, kq21, qa21, qb21, qc21⟩ := isOf hZ hh20 Eq10
    obtain ⟨_, _, ⟨T21, L21, k21, n21⟩, -, X21, ⟨Lc21, hQ21, l21, y21, z21⟩, st21⟩ := X20.virtualBack hx (y := (⟨"com/example/wide_schema/wideschema/io/BytesInput", "available", "()I"⟩ : MethodName)) (z := (⟨"com/example/wide_schema/wideschema/io/BytesInput", "available", "()I"⟩ : MethodName)) hown (mvT hZ (hw _ (List.mem_of_getElem? (i := 22) rfl))) (mvT hZ (hw _ (List.mem_of_getElem? (i := 23) rfl))) (notFace_of_selects (args := #[]) (mvT hZ (hw _ (List.mem_of_getElem? (i := 25) rfl)))) (mvT hZ (hw _ (List.mem_of_getElem? (i := 25) rfl))) (mvT hZ (hw _ (List.mem_of_getElem? (i := 24) rfl))) (by decide) (backOf (W := 0) (rm3 l Z a0 hw [] ob52 (4 : Int32) (4 : Int32) T10.heap n0 Z10 Fq10_1 Fq10_2) hZ (hw _ (List.mem_of_getElem? (i := 26) rfl)) (hw _ (List.mem_of_getElem? (i := 4) rfl)) (by decide) (by decide)) qa21 qc21 (g := (mkF m 288 #[.val (.int p0), .val (.int p1), .val (.int p2), .val (.ref ar1), .val (.int (2 : Int32)), .val (.int (2 : Int32)), .val (.ref ob52), .val (.int (1 : Int32)), .val (.int ((((p0).toUInt32 >>> ((16 : Int32) &&& 31).toUInt32).toInt32).toInt8.toInt32 &&& (255 : Int32))), .val (.int ((((p0).toUInt32 >>> ((24 : Int32) &&& 31).toUInt32).toInt32).toInt8.toInt32 &&& (255 : Int32))), .val (.int (-1 : Int32)), .val (.int (-1 : Int32)), .val (.int (-1 : Int32)), .val (.int (-1 : Int32))] [(.ref ob52)])) rfl (by rw [hml]; rfl) (Steps.refl _) (argsL := []) (rest := []) (lenOf pd2 rfl) rfl (by show 2 * 0 + _ ≤ _; exact Nat.le_of_eq rfl) (hb hby at_288) (fun _ _ => ⟨rfl, hh20, (by decide : 2 + 0 ≤ _), (by decide : 7 + 0 ≤ _)⟩)
    dsimp only [Pt.U, Pt.locs, Pt.cells, Pt.slots] at X21 l21 y21 z21 st21 hQ21
    subst l21 y21 z21
    obtain ⟨rfl, Nq21, hh21⟩ := hQ21
    have N21 := Fr.app N20 Nq21
    refine Goes.go (fun _ kk => st21.trans kk) ?_
    show Goes _ _ _ _ _ _ _ (T21.setTop (mkF m 291 _ [(.int (0 : Int32))]))
    refine Goes.go (fun _ kk => XS.ifNo X21.here hx rfl (hb hby at_291) rfl (XT.i0_ne_f (by decide)) kk) ?_
    show Goes _ _ _ _ _ _ _ (T21.setTop (mkF m 294 _ []))
    refine Goes.go (fun _ kk => XS.iconst X21.here hx rfl (hb hby at_294) kk) ?_
    show Goes _ _ _ _ _ _ _ (T21.setTop (mkF m 295 _ [(.int (1 : Int32))]))
    refine Goes.go (fun _ kk => XS.goto X21.here hx rfl (pc0 := 295) (pc' := 299) rfl (hb hby at_295) (by decide) (by decide) kk) ?_
    show Goes _ _ _ _ _ _ _ (T21.setTop (mkF m 299 _ [(.int (1 : Int32))]))
    refine Goes.go (fun _ kk => XS.istore X21.here hx rfl (hb hby at_299) rfl (l' := #[.val (.int p0), .val (.int p1), .val (.int p2), .val (.ref ar1), .val (.int (2 : Int32)), .val (.int (2 : Int32)), .val (.ref ob52), .val (.int (1 : Int32)), .val (.int ((((p0).toUInt32 >>> ((16 : Int32) &&& 31).toUInt32).toInt32).toInt8.toInt32 &&& (255 : Int32))), .val (.int ((((p0).toUInt32 >>> ((24 : Int32) &&& 31).toUInt32).toInt32).toInt8.toInt32 &&& (255 : Int32))), .val (.int (-1 : Int32)), .val (.int (-1 : Int32)), .val (.int (-1 : Int32)), .val (.int (-1 : Int32))]) rfl kk) ?_
    show Goes _ _ _ _ _ _ _ (T21.setTop (mkF m 301 _ []))
    refine Goes.go (fun _ kk => XS.iload X21.here hx rfl (hb hby at_301) rfl kk) ?_
    show Goes _ _ _ _ _ _ _ (T21.setTop (mkF m 303 _ [(.int (1 : Int32))]))
    exact Goes.outZ X21 hx hlk hret rfl (hb hby at_303) hh21 ⟨rfl, N21⟩ (by decide) (by decide)
  · skip
    show Goes _ _ _ _ _ _ _ (T5.setTop (mkF m 52 #[.val (.int p0), .val (.int p1), .val (.int p2), .val (.ref ar1), .val (.int (3 : Int32)), .val (.int (0 : Int32)), .unset, .unset, .unset, .unset, .unset, .unset, .unset, .unset] []))
    obtain ⟨T6, h6, X6, e6, E6, A6, D6, -, st6⟩ := newO X5 hx hZ hown (hw _ (List.mem_of_getElem? (i := 2) rfl)) (hw _ (List.mem_of_getElem? (i := 3) rfl)) (hw _ (List.mem_of_getElem? (i := 4) rfl)) e5 (g := (mkF m 52 #[.val (.int p0), .val (.int p1), .val (.int p2), .val (.ref ar1), .val (.int (3 : Int32)), .val (.int (0 : Int32)), .unset, .unset, .unset, .unset, .unset, .unset, .unset, .unset] [])) rfl (hb hby at_52) (by decide) (by decide)
    obtain ⟨ob52, gob52⟩ : ∃ z, z = h5.size := ⟨_, rfl⟩
    rw [← gob52] at A6 D6 st6
    have ne_ar1_ob52 : ar1 ≠ ob52 := by rw [gob52]; exact Nat.ne_of_lt f_4.lt
    have f_5 := f_4.ext E6
    have Z6 : n0 ≤ h6.size := Nat.le_trans Z5 E6.1
    have ge_ob52 : n0 ≤ ob52 := Nat.le_trans Z5 (Nat.le_of_eq gob52.symm)
    have f_6 : Fld Z h6 ob52 "com/example/wide_schema/wideschema/io/BytesInput" "_bytes" "[B" .null := D6 (Or.inr (hw _ (List.mem_of_getElem? (i := 17) rfl))) (ty := (.array .byte)) (by decide)
    have f_7 : Fld Z h6 ob52 "com/example/wide_schema/wideschema/io/BytesInput" "_next" "I" (.int (0 : Int32)) := D6 (Or.inl (hw _ (List.mem_of_getElem? (i := 19) rfl))) (ty := .int) (by decide)
    have f_8 : Fld Z h6 ob52 "com/example/wide_schema/wideschema/io/BytesInput" "_end" "I" (.int (0 : Int32)) := D6 (Or.inr (hw _ (List.mem_of_getElem? (i := 21) rfl))) (ty := .int) (by decide)
    refine Goes.go (st6) ?_
    show Goes _ _ _ _ _ _ _ (T6.setTop (mkF m 55 _ [(.ref ob52)]))
    refine Goes.go (fun _ kk => XS.dup X6.here hx rfl (hb hby at_55) rfl rfl kk) ?_
    show Goes _ _ _ _ _ _ _ (T6.setTop (mkF m 56 _ [(.ref ob52), (.ref ob52)]))
    refine Goes.go (fun _ kk => XS.aloadN X6.here hx rfl (hb hby at_56) rfl rfl kk) ?_
    show Goes _ _ _ _ _ _ _ (T6.setTop (mkF m 57 _ [(.ref ar1), (.ref ob52), (.ref ob52)]))
    refine Goes.go (fun _ kk => XS.iload X6.here hx rfl (hb hby at_57) rfl kk) ?_
    show Goes _ _ _ _ _ _ _ (T6.setTop (mkF m 59 _ [(.int (3 : Int32)), (.ref ar1), (.ref ob52), (.ref ob52)]))
    refine Goes.go (fun _ kk => XS.iload X6.here hx rfl (hb hby at_59) rfl kk) ?_
    show Goes _ _ _ _ _ _ _ (T6.setTop (mkF m 61 _ [(.int (0 : Int32)), (.int (3 : Int32)), (.ref ar1), (.ref ob52), (.ref ob52)]))
    obtain ⟨_, _, ⟨T7, L7, k7, n7⟩, -, X7, ⟨Lc7, hQ7, l7, y7, z7⟩, st7⟩ := X6.specialBack hx (y := (⟨"com/example/wide_schema/wideschema/io/BytesInput", "<init>", "([BII)V"⟩ : MethodName)) rfl hown (mvT hZ (hw _ (List.mem_of_getElem? (i := 5) rfl))) (mvT hZ (hw _ (List.mem_of_getElem? (i := 6) rfl))) (mvT hZ (hw _ (List.mem_of_getElem? (i := 7) rfl))) (by decide) (backOf (W := 1) (rm1 l Z a0 hw [] ob52 ar1 (3 : Int32) (0 : Int32) h6 n0 Z6 A6 f_6 f_7 f_8 ge_ob52) hZ (hw _ (List.mem_of_getElem? (i := 7) rfl)) (hw _ (List.mem_of_getElem? (i := 4) rfl)) (by decide) (by decide)) (g := (mkF m 61 #[.val (.int p0), .val (.int p1), .val (.int p2), .val (.ref ar1), .val (.int (3 : Int32)), .val (.int (0 : Int32)), .unset, .unset, .unset, .unset, .unset, .unset, .unset, .unset] [(.int (0 : Int32)), (.int (3 : Int32)), (.ref ar1), (.ref ob52), (.ref ob52)])) rfl (by rw [hml]; rfl) (Steps.refl _) (a := ob52) (argsL := [(.ref ar1), (.int (3 : Int32)), (.int (0 : Int32))]) (rest := [(.ref ob52)]) (lenOf pd0 rfl) rfl (by show 2 * 0 + _ ≤ _; exact Nat.le_of_eq rfl) (hb hby at_61) (fun _ _ => ⟨rfl, e6, (by decide : 2 + 0 ≤ _), (by decide : 7 + 0 ≤ _)⟩)
    dsimp only [Pt.U, Pt.locs, Pt.cells, Pt.slots] at X7 l7 y7 z7 st7 hQ7
    subst l7 y7 z7
    obtain ⟨rfl, Nq7, Kq7, Eq7, Fq7_0, Fq7_1, Fq7_2⟩ := hQ7
    have N7 := Fr.app N5 Nq7
    have Z7 : n0 ≤ T7.heap.size := Nat.le_trans Z6 Kq7.1
    have f_9 := Arl.keep f_5 Kq7 (ninS ne_ar1_ob52 nin0)
    refine Goes.go (fun _ kk => st7.trans kk) ?_
    show Goes _ _ _ _ _ _ _ (T7.setTop (mkF m 64 _ [(.ref ob52)]))
    refine Goes.go (fun _ kk => XS.astore X7.here hx rfl (hb hby at_64) rfl rfl (l' := #[.val (.int p0), .val (.int p1), .val (.int p2), .val (.ref ar1), .val (.int (3 : Int32)), .val (.int (0 : Int32)), .val (.ref ob52), .unset, .unset, .unset, .unset, .unset, .unset, .unset]) rfl kk) ?_
    show Goes _ _ _ _ _ _ _ (T7.setTop (mkF m 66 #[.val (.int p0), .val (.int p1), .val (.int p2), .val (.ref ar1), .val (.int (3 : Int32)), .val (.int (0 : Int32)), .val (.ref ob52), .unset, .unset, .unset, .unset, .unset, .unset, .unset] []))
    refine Goes.go (fun _ kk => XS.aload X7.here hx rfl (hb hby at_66) rfl rfl kk) ?_
    show Goes _ _ _ _ _ _ _ (T7.setTop (mkF m 68 _ [(.ref ob52)]))
    obtain ⟨cq8, kq8, qa8, qb8, qc8⟩ := isOf hZ rfl Eq7
    obtain ⟨_, _, ⟨T8, L8, k8, n8⟩, -, X8, ⟨Lc8, hQ8, l8, y8, z8⟩, st8⟩ := X7.virtualBack hx (y := (⟨"com/example/wide_schema/wideschema/io/BytesInput", "available", "()I"⟩ : MethodName)) (z := (⟨"com/example/wide_schema/wideschema/io/BytesInput", "available", "()I"⟩ : MethodName)) hown (mvT hZ (hw _ (List.mem_of_getElem? (i := 22) rfl))) (mvT hZ (hw _ (List.mem_of_getElem? (i := 23) rfl))) (notFace_of_selects (args := #[]) (mvT hZ (hw _ (List.mem_of_getElem? (i := 25) rfl)))) (mvT hZ (hw _ (List.mem_of_getElem? (i := 25) rfl))) (mvT hZ (hw _ (List.mem_of_getElem? (i := 24) rfl))) (by decide) (backOf (W := 0) (rm3 l Z a0 hw [] ob52 (3 : Int32) (3 : Int32) T7.heap n0 Z7 Fq7_1 Fq7_2) hZ (hw _ (List.mem_of_getElem? (i := 26) rfl)) (hw _ (List.mem_of_getElem? (i := 4) rfl)) (by decide) (by decide)) qa8 qc8 (g := (mkF m 68 #[.val (.int p0), .val (.int p1), .val (.int p2), .val (.ref ar1), .val (.int (3 : Int32)), .val (.int (0 : Int32)), .val (.ref ob52), .unset, .unset, .unset, .unset, .unset, .unset, .unset] [(.ref ob52)])) rfl (by rw [hml]; rfl) (Steps.refl _) (argsL := []) (rest := []) (lenOf pd2 rfl) rfl (by show 2 * 0 + _ ≤ _; exact Nat.le_of_eq rfl) (hb hby at_68) (fun _ _ => ⟨rfl, rfl, (by decide : 2 + 0 ≤ _), (by decide : 7 + 0 ≤ _)⟩)
    dsimp only [Pt.U, Pt.locs, Pt.cells, Pt.slots] at X8 l8 y8 z8 st8 hQ8
    subst l8 y8 z8
    obtain ⟨rfl, Nq8, hh8⟩ := hQ8
    have N8 := Fr.app N7 Nq8
    refine Goes.go (fun _ kk => st8.trans kk) ?_
    show Goes _ _ _ _ _ _ _ (T8.setTop (mkF m 71 _ [(.int (0 : Int32))]))
    refine Goes.go (fun _ kk => XS.iload X8.here hx rfl (hb hby at_71) rfl kk) ?_
    show Goes _ _ _ _ _ _ _ (T8.setTop (mkF m 73 _ [(.int (0 : Int32)), (.int (0 : Int32))]))
    refine Goes.go (fun _ kk => XS.icmpNo X8.here hx rfl (hb hby at_73) rfl (XT.ii_ne_f (by decide)) kk) ?_
    show Goes _ _ _ _ _ _ _ (T8.setTop (mkF m 76 _ []))
    refine Goes.go (fun _ kk => XS.iconst X8.here hx rfl (hb hby at_76) kk) ?_
    show Goes _ _ _ _ _ _ _ (T8.setTop (mkF m 77 _ [(.int (1 : Int32))]))
    refine Goes.go (fun _ kk => XS.goto X8.here hx rfl (pc0 := 77) (pc' := 81) rfl (hb hby at_77) (by decide) (by decide) kk) ?_
    show Goes _ _ _ _ _ _ _ (T8.setTop (mkF m 81 _ [(.int (1 : Int32))]))
    refine Goes.go (fun _ kk => XS.istore X8.here hx rfl (hb hby at_81) rfl (l' := #[.val (.int p0), .val (.int p1), .val (.int p2), .val (.ref ar1), .val (.int (3 : Int32)), .val (.int (0 : Int32)), .val (.ref ob52), .val (.int (1 : Int32)), .unset, .unset, .unset, .unset, .unset, .unset]) rfl kk) ?_
    show Goes _ _ _ _ _ _ _ (T8.setTop (mkF m 83 #[.val (.int p0), .val (.int p1), .val (.int p2), .val (.ref ar1), .val (.int (3 : Int32)), .val (.int (0 : Int32)), .val (.ref ob52), .val (.int (1 : Int32)), .unset, .unset, .unset, .unset, .unset, .unset] []))
    refine Goes.go (fun _ kk => XS.aload X8.here hx rfl (hb hby at_83) rfl rfl kk) ?_
    show Goes _ _ _ _ _ _ _ (T8.setTop (mkF m 85 _ [(.ref ob52)]))
    obtain ⟨cq9, kq9, qa9, qb9, qc9⟩ := isOf hZ hh8 Eq7
    obtain ⟨_, _, ⟨T9, L9, k9, n9⟩, -, X9, ⟨Lc9, hQ9, l9, y9, z9⟩, st9⟩ := X8.virtualBack hx (y := (⟨"com/example/wide_schema/wideschema/io/BytesInput", "read", "()I"⟩ : MethodName)) (z := (⟨"com/example/wide_schema/wideschema/io/BytesInput", "read", "()I"⟩ : MethodName)) hown (mvT hZ (hw _ (List.mem_of_getElem? (i := 27) rfl))) (mvT hZ (hw _ (List.mem_of_getElem? (i := 28) rfl))) (notFace_of_selects (args := #[]) (mvT hZ (hw _ (List.mem_of_getElem? (i := 30) rfl)))) (mvT hZ (hw _ (List.mem_of_getElem? (i := 30) rfl))) (mvT hZ (hw _ (List.mem_of_getElem? (i := 29) rfl))) (by decide) (backOf (W := 0) (rmN l Z a0 hw [] ob52 (3 : Int32) (3 : Int32) T7.heap n0 Z7 Fq7_1 Fq7_2 (by decide)) hZ (hw _ (List.mem_of_getElem? (i := 31) rfl)) (hw _ (List.mem_of_getElem? (i := 4) rfl)) (by decide) (by decide)) qa9 qc9 (g := (mkF m 85 #[.val (.int p0), .val (.int p1), .val (.int p2), .val (.ref ar1), .val (.int (3 : Int32)), .val (.int (0 : Int32)), .val (.ref ob52), .val (.int (1 : Int32)), .unset, .unset, .unset, .unset, .unset, .unset] [(.ref ob52)])) rfl (by rw [hml]; rfl) (Steps.refl _) (argsL := []) (rest := []) (lenOf pd2 rfl) rfl (by show 2 * 0 + _ ≤ _; exact Nat.le_of_eq rfl) (hb hby at_85) (fun _ _ => ⟨rfl, hh8, (by decide : 2 + 0 ≤ _), (by decide : 7 + 0 ≤ _)⟩)
    dsimp only [Pt.U, Pt.locs, Pt.cells, Pt.slots] at X9 l9 y9 z9 st9 hQ9
    subst l9 y9 z9
    obtain ⟨rfl, Nq9, hh9⟩ := hQ9
    have N9 := Fr.app N8 Nq9
    refine Goes.go (fun _ kk => st9.trans kk) ?_
    show Goes _ _ _ _ _ _ _ (T9.setTop (mkF m 88 _ [(.int (-1 : Int32))]))
    refine Goes.go (fun _ kk => XS.istore X9.here hx rfl (hb hby at_88) rfl (l' := #[.val (.int p0), .val (.int p1), .val (.int p2), .val (.ref ar1), .val (.int (3 : Int32)), .val (.int (0 : Int32)), .val (.ref ob52), .val (.int (1 : Int32)), .val (.int (-1 : Int32)), .unset, .unset, .unset, .unset, .unset]) rfl kk) ?_
    show Goes _ _ _ _ _ _ _ (T9.setTop (mkF m 90 #[.val (.int p0), .val (.int p1), .val (.int p2), .val (.ref ar1), .val (.int (3 : Int32)), .val (.int (0 : Int32)), .val (.ref ob52), .val (.int (1 : Int32)), .val (.int (-1 : Int32)), .unset, .unset, .unset, .unset, .unset] []))
    refine Goes.go (fun _ kk => XS.aload X9.here hx rfl (hb hby at_90) rfl rfl kk) ?_
    show Goes _ _ _ _ _ _ _ (T9.setTop (mkF m 92 _ [(.ref ob52)]))
    obtain ⟨cq10, kq10, qa10, qb10, qc10⟩ := isOf hZ hh9 Eq7
    obtain ⟨_, _, ⟨T10, L10, k10, n10⟩, -, X10, ⟨Lc10, hQ10, l10, y10, z10⟩, st10⟩ := X9.virtualBack hx (y := (⟨"com/example/wide_schema/wideschema/io/BytesInput", "read", "()I"⟩ : MethodName)) (z := (⟨"com/example/wide_schema/wideschema/io/BytesInput", "read", "()I"⟩ : MethodName)) hown (mvT hZ (hw _ (List.mem_of_getElem? (i := 27) rfl))) (mvT hZ (hw _ (List.mem_of_getElem? (i := 28) rfl))) (notFace_of_selects (args := #[]) (mvT hZ (hw _ (List.mem_of_getElem? (i := 30) rfl)))) (mvT hZ (hw _ (List.mem_of_getElem? (i := 30) rfl))) (mvT hZ (hw _ (List.mem_of_getElem? (i := 29) rfl))) (by decide) (backOf (W := 0) (rmN l Z a0 hw [] ob52 (3 : Int32) (3 : Int32) T7.heap n0 Z7 Fq7_1 Fq7_2 (by decide)) hZ (hw _ (List.mem_of_getElem? (i := 31) rfl)) (hw _ (List.mem_of_getElem? (i := 4) rfl)) (by decide) (by decide)) qa10 qc10 (g := (mkF m 92 #[.val (.int p0), .val (.int p1), .val (.int p2), .val (.ref ar1), .val (.int (3 : Int32)), .val (.int (0 : Int32)), .val (.ref ob52), .val (.int (1 : Int32)), .val (.int (-1 : Int32)), .unset, .unset, .unset, .unset, .unset] [(.ref ob52)])) rfl (by rw [hml]; rfl) (Steps.refl _) (argsL := []) (rest := []) (lenOf pd2 rfl) rfl (by show 2 * 0 + _ ≤ _; exact Nat.le_of_eq rfl) (hb hby at_92) (fun _ _ => ⟨rfl, hh9, (by decide : 2 + 0 ≤ _), (by decide : 7 + 0 ≤ _)⟩)
    dsimp only [Pt.U, Pt.locs, Pt.cells, Pt.slots] at X10 l10 y10 z10 st10 hQ10
    subst l10 y10 z10
    obtain ⟨rfl, Nq10, hh10⟩ := hQ10
    have N10 := Fr.app N9 Nq10
    refine Goes.go (fun _ kk => st10.trans kk) ?_
    show Goes _ _ _ _ _ _ _ (T10.setTop (mkF m 95 _ [(.int (-1 : Int32))]))
    refine Goes.go (fun _ kk => XS.istore X10.here hx rfl (hb hby at_95) rfl (l' := #[.val (.int p0), .val (.int p1), .val (.int p2), .val (.ref ar1), .val (.int (3 : Int32)), .val (.int (0 : Int32)), .val (.ref ob52), .val (.int (1 : Int32)), .val (.int (-1 : Int32)), .val (.int (-1 : Int32)), .unset, .unset, .unset, .unset]) rfl kk) ?_
    show Goes _ _ _ _ _ _ _ (T10.setTop (mkF m 97 #[.val (.int p0), .val (.int p1), .val (.int p2), .val (.ref ar1), .val (.int (3 : Int32)), .val (.int (0 : Int32)), .val (.ref ob52), .val (.int (1 : Int32)), .val (.int (-1 : Int32)), .val (.int (-1 : Int32)), .unset, .unset, .unset, .unset] []))
    refine Goes.go (fun _ kk => XS.aload X10.here hx rfl (hb hby at_97) rfl rfl kk) ?_
    show Goes _ _ _ _ _ _ _ (T10.setTop (mkF m 99 _ [(.ref ob52)]))
    obtain ⟨cq11, kq11, qa11, qb11, qc11⟩ := isOf hZ hh10 Eq7
    obtain ⟨_, _, ⟨T11, L11, k11, n11⟩, -, X11, ⟨Lc11, hQ11, l11, y11, z11⟩, st11⟩ := X10.virtualBack hx (y := (⟨"com/example/wide_schema/wideschema/io/BytesInput", "read", "()I"⟩ : MethodName)) (z := (⟨"com/example/wide_schema/wideschema/io/BytesInput", "read", "()I"⟩ : MethodName)) hown (mvT hZ (hw _ (List.mem_of_getElem? (i := 27) rfl))) (mvT hZ (hw _ (List.mem_of_getElem? (i := 28) rfl))) (notFace_of_selects (args := #[]) (mvT hZ (hw _ (List.mem_of_getElem? (i := 30) rfl)))) (mvT hZ (hw _ (List.mem_of_getElem? (i := 30) rfl))) (mvT hZ (hw _ (List.mem_of_getElem? (i := 29) rfl))) (by decide) (backOf (W := 0) (rmN l Z a0 hw [] ob52 (3 : Int32) (3 : Int32) T7.heap n0 Z7 Fq7_1 Fq7_2 (by decide)) hZ (hw _ (List.mem_of_getElem? (i := 31) rfl)) (hw _ (List.mem_of_getElem? (i := 4) rfl)) (by decide) (by decide)) qa11 qc11 (g := (mkF m 99 #[.val (.int p0), .val (.int p1), .val (.int p2), .val (.ref ar1), .val (.int (3 : Int32)), .val (.int (0 : Int32)), .val (.ref ob52), .val (.int (1 : Int32)), .val (.int (-1 : Int32)), .val (.int (-1 : Int32)), .unset, .unset, .unset, .unset] [(.ref ob52)])) rfl (by rw [hml]; rfl) (Steps.refl _) (argsL := []) (rest := []) (lenOf pd2 rfl) rfl (by show 2 * 0 + _ ≤ _; exact Nat.le_of_eq rfl) (hb hby at_99) (fun _ _ => ⟨rfl, hh10, (by decide : 2 + 0 ≤ _), (by decide : 7 + 0 ≤ _)⟩)
    dsimp only [Pt.U, Pt.locs, Pt.cells, Pt.slots] at X11 l11 y11 z11 st11 hQ11
    subst l11 y11 z11
    obtain ⟨rfl, Nq11, hh11⟩ := hQ11
    have N11 := Fr.app N10 Nq11
    refine Goes.go (fun _ kk => st11.trans kk) ?_
    show Goes _ _ _ _ _ _ _ (T11.setTop (mkF m 102 _ [(.int (-1 : Int32))]))
    refine Goes.go (fun _ kk => XS.istore X11.here hx rfl (hb hby at_102) rfl (l' := #[.val (.int p0), .val (.int p1), .val (.int p2), .val (.ref ar1), .val (.int (3 : Int32)), .val (.int (0 : Int32)), .val (.ref ob52), .val (.int (1 : Int32)), .val (.int (-1 : Int32)), .val (.int (-1 : Int32)), .val (.int (-1 : Int32)), .unset, .unset, .unset]) rfl kk) ?_
    show Goes _ _ _ _ _ _ _ (T11.setTop (mkF m 104 #[.val (.int p0), .val (.int p1), .val (.int p2), .val (.ref ar1), .val (.int (3 : Int32)), .val (.int (0 : Int32)), .val (.ref ob52), .val (.int (1 : Int32)), .val (.int (-1 : Int32)), .val (.int (-1 : Int32)), .val (.int (-1 : Int32)), .unset, .unset, .unset] []))
    refine Goes.go (fun _ kk => XS.aload X11.here hx rfl (hb hby at_104) rfl rfl kk) ?_
    show Goes _ _ _ _ _ _ _ (T11.setTop (mkF m 106 _ [(.ref ob52)]))
    obtain ⟨cq12, kq12, qa12, qb12, qc12⟩ := isOf hZ hh11 Eq7
    obtain ⟨_, _, ⟨T12, L12, k12, n12⟩, -, X12, ⟨Lc12, hQ12, l12, y12, z12⟩, st12⟩ := X11.virtualBack hx (y := (⟨"com/example/wide_schema/wideschema/io/BytesInput", "read", "()I"⟩ : MethodName)) (z := (⟨"com/example/wide_schema/wideschema/io/BytesInput", "read", "()I"⟩ : MethodName)) hown (mvT hZ (hw _ (List.mem_of_getElem? (i := 27) rfl))) (mvT hZ (hw _ (List.mem_of_getElem? (i := 28) rfl))) (notFace_of_selects (args := #[]) (mvT hZ (hw _ (List.mem_of_getElem? (i := 30) rfl)))) (mvT hZ (hw _ (List.mem_of_getElem? (i := 30) rfl))) (mvT hZ (hw _ (List.mem_of_getElem? (i := 29) rfl))) (by decide) (backOf (W := 0) (rmN l Z a0 hw [] ob52 (3 : Int32) (3 : Int32) T7.heap n0 Z7 Fq7_1 Fq7_2 (by decide)) hZ (hw _ (List.mem_of_getElem? (i := 31) rfl)) (hw _ (List.mem_of_getElem? (i := 4) rfl)) (by decide) (by decide)) qa12 qc12 (g := (mkF m 106 #[.val (.int p0), .val (.int p1), .val (.int p2), .val (.ref ar1), .val (.int (3 : Int32)), .val (.int (0 : Int32)), .val (.ref ob52), .val (.int (1 : Int32)), .val (.int (-1 : Int32)), .val (.int (-1 : Int32)), .val (.int (-1 : Int32)), .unset, .unset, .unset] [(.ref ob52)])) rfl (by rw [hml]; rfl) (Steps.refl _) (argsL := []) (rest := []) (lenOf pd2 rfl) rfl (by show 2 * 0 + _ ≤ _; exact Nat.le_of_eq rfl) (hb hby at_106) (fun _ _ => ⟨rfl, hh11, (by decide : 2 + 0 ≤ _), (by decide : 7 + 0 ≤ _)⟩)
    dsimp only [Pt.U, Pt.locs, Pt.cells, Pt.slots] at X12 l12 y12 z12 st12 hQ12
    subst l12 y12 z12
    obtain ⟨rfl, Nq12, hh12⟩ := hQ12
    have N12 := Fr.app N11 Nq12
    refine Goes.go (fun _ kk => st12.trans kk) ?_
    show Goes _ _ _ _ _ _ _ (T12.setTop (mkF m 109 _ [(.int (-1 : Int32))]))
    refine Goes.go (fun _ kk => XS.istore X12.here hx rfl (hb hby at_109) rfl (l' := #[.val (.int p0), .val (.int p1), .val (.int p2), .val (.ref ar1), .val (.int (3 : Int32)), .val (.int (0 : Int32)), .val (.ref ob52), .val (.int (1 : Int32)), .val (.int (-1 : Int32)), .val (.int (-1 : Int32)), .val (.int (-1 : Int32)), .val (.int (-1 : Int32)), .unset, .unset]) rfl kk) ?_
    show Goes _ _ _ _ _ _ _ (T12.setTop (mkF m 111 #[.val (.int p0), .val (.int p1), .val (.int p2), .val (.ref ar1), .val (.int (3 : Int32)), .val (.int (0 : Int32)), .val (.ref ob52), .val (.int (1 : Int32)), .val (.int (-1 : Int32)), .val (.int (-1 : Int32)), .val (.int (-1 : Int32)), .val (.int (-1 : Int32)), .unset, .unset] []))
    refine Goes.go (fun _ kk => XS.aload X12.here hx rfl (hb hby at_111) rfl rfl kk) ?_
    show Goes _ _ _ _ _ _ _ (T12.setTop (mkF m 113 _ [(.ref ob52)]))
    obtain ⟨cq13, kq13, qa13, qb13, qc13⟩ := isOf hZ hh12 Eq7
    obtain ⟨_, _, ⟨T13, L13, k13, n13⟩, -, X13, ⟨Lc13, hQ13, l13, y13, z13⟩, st13⟩ := X12.virtualBack hx (y := (⟨"com/example/wide_schema/wideschema/io/BytesInput", "read", "()I"⟩ : MethodName)) (z := (⟨"com/example/wide_schema/wideschema/io/BytesInput", "read", "()I"⟩ : MethodName)) hown (mvT hZ (hw _ (List.mem_of_getElem? (i := 27) rfl))) (mvT hZ (hw _ (List.mem_of_getElem? (i := 28) rfl))) (notFace_of_selects (args := #[]) (mvT hZ (hw _ (List.mem_of_getElem? (i := 30) rfl)))) (mvT hZ (hw _ (List.mem_of_getElem? (i := 30) rfl))) (mvT hZ (hw _ (List.mem_of_getElem? (i := 29) rfl))) (by decide) (backOf (W := 0) (rmN l Z a0 hw [] ob52 (3 : Int32) (3 : Int32) T7.heap n0 Z7 Fq7_1 Fq7_2 (by decide)) hZ (hw _ (List.mem_of_getElem? (i := 31) rfl)) (hw _ (List.mem_of_getElem? (i := 4) rfl)) (by decide) (by decide)) qa13 qc13 (g := (mkF m 113 #[.val (.int p0), .val (.int p1), .val (.int p2), .val (.ref ar1), .val (.int (3 : Int32)), .val (.int (0 : Int32)), .val (.ref ob52), .val (.int (1 : Int32)), .val (.int (-1 : Int32)), .val (.int (-1 : Int32)), .val (.int (-1 : Int32)), .val (.int (-1 : Int32)), .unset, .unset] [(.ref ob52)])) rfl (by rw [hml]; rfl) (Steps.refl _) (argsL := []) (rest := []) (lenOf pd2 rfl) rfl (by show 2 * 0 + _ ≤ _; exact Nat.le_of_eq rfl) (hb hby at_113) (fun _ _ => ⟨rfl, hh12, (by decide : 2 + 0 ≤ _), (by decide : 7 + 0 ≤ _)⟩)
    dsimp only [Pt.U, Pt.locs, Pt.cells, Pt.slots] at X13 l13 y13 z13 st13 hQ13
    subst l13 y13 z13
    obtain ⟨rfl, Nq13, hh13⟩ := hQ13
    have N13 := Fr.app N12 Nq13
    refine Goes.go (fun _ kk => st13.trans kk) ?_
    show Goes _ _ _ _ _ _ _ (T13.setTop (mkF m 116 _ [(.int (-1 : Int32))]))
    refine Goes.go (fun _ kk => XS.istore X13.here hx rfl (hb hby at_116) rfl (l' := #[.val (.int p0), .val (.int p1), .val (.int p2), .val (.ref ar1), .val (.int (3 : Int32)), .val (.int (0 : Int32)), .val (.ref ob52), .val (.int (1 : Int32)), .val (.int (-1 : Int32)), .val (.int (-1 : Int32)), .val (.int (-1 : Int32)), .val (.int (-1 : Int32)), .val (.int (-1 : Int32)), .unset]) rfl kk) ?_
    show Goes _ _ _ _ _ _ _ (T13.setTop (mkF m 118 #[.val (.int p0), .val (.int p1), .val (.int p2), .val (.ref ar1), .val (.int (3 : Int32)), .val (.int (0 : Int32)), .val (.ref ob52), .val (.int (1 : Int32)), .val (.int (-1 : Int32)), .val (.int (-1 : Int32)), .val (.int (-1 : Int32)), .val (.int (-1 : Int32)), .val (.int (-1 : Int32)), .unset] []))
    refine Goes.go (fun _ kk => XS.aload X13.here hx rfl (hb hby at_118) rfl rfl kk) ?_
    show Goes _ _ _ _ _ _ _ (T13.setTop (mkF m 120 _ [(.ref ob52)]))
    obtain ⟨cq14, kq14, qa14, qb14, qc14⟩ := isOf hZ hh13 Eq7
    obtain ⟨_, _, ⟨T14, L14, k14, n14⟩, -, X14, ⟨Lc14, hQ14, l14, y14, z14⟩, st14⟩ := X13.virtualBack hx (y := (⟨"com/example/wide_schema/wideschema/io/BytesInput", "read", "()I"⟩ : MethodName)) (z := (⟨"com/example/wide_schema/wideschema/io/BytesInput", "read", "()I"⟩ : MethodName)) hown (mvT hZ (hw _ (List.mem_of_getElem? (i := 27) rfl))) (mvT hZ (hw _ (List.mem_of_getElem? (i := 28) rfl))) (notFace_of_selects (args := #[]) (mvT hZ (hw _ (List.mem_of_getElem? (i := 30) rfl)))) (mvT hZ (hw _ (List.mem_of_getElem? (i := 30) rfl))) (mvT hZ (hw _ (List.mem_of_getElem? (i := 29) rfl))) (by decide) (backOf (W := 0) (rmN l Z a0 hw [] ob52 (3 : Int32) (3 : Int32) T7.heap n0 Z7 Fq7_1 Fq7_2 (by decide)) hZ (hw _ (List.mem_of_getElem? (i := 31) rfl)) (hw _ (List.mem_of_getElem? (i := 4) rfl)) (by decide) (by decide)) qa14 qc14 (g := (mkF m 120 #[.val (.int p0), .val (.int p1), .val (.int p2), .val (.ref ar1), .val (.int (3 : Int32)), .val (.int (0 : Int32)), .val (.ref ob52), .val (.int (1 : Int32)), .val (.int (-1 : Int32)), .val (.int (-1 : Int32)), .val (.int (-1 : Int32)), .val (.int (-1 : Int32)), .val (.int (-1 : Int32)), .unset] [(.ref ob52)])) rfl (by rw [hml]; rfl) (Steps.refl _) (argsL := []) (rest := []) (lenOf pd2 rfl) rfl (by show 2 * 0 + _ ≤ _; exact Nat.le_of_eq rfl) (hb hby at_120) (fun _ _ => ⟨rfl, hh13, (by decide : 2 + 0 ≤ _), (by decide : 7 + 0 ≤ _)⟩)
    dsimp only [Pt.U, Pt.locs, Pt.cells, Pt.slots] at X14 l14 y14 z14 st14 hQ14
    subst l14 y14 z14
    obtain ⟨rfl, Nq14, hh14⟩ := hQ14
    have N14 := Fr.app N13 Nq14
    refine Goes.go (fun _ kk => st14.trans kk) ?_
    show Goes _ _ _ _ _ _ _ (T14.setTop (mkF m 123 _ [(.int (-1 : Int32))]))
    refine Goes.go (fun _ kk => XS.istore X14.here hx rfl (hb hby at_123) rfl (l' := #[.val (.int p0), .val (.int p1), .val (.int p2), .val (.ref ar1), .val (.int (3 : Int32)), .val (.int (0 : Int32)), .val (.ref ob52), .val (.int (1 : Int32)), .val (.int (-1 : Int32)), .val (.int (-1 : Int32)), .val (.int (-1 : Int32)), .val (.int (-1 : Int32)), .val (.int (-1 : Int32)), .val (.int (-1 : Int32))]) rfl kk) ?_
    show Goes _ _ _ _ _ _ _ (T14.setTop (mkF m 125 #[.val (.int p0), .val (.int p1), .val (.int p2), .val (.ref ar1), .val (.int (3 : Int32)), .val (.int (0 : Int32)), .val (.ref ob52), .val (.int (1 : Int32)), .val (.int (-1 : Int32)), .val (.int (-1 : Int32)), .val (.int (-1 : Int32)), .val (.int (-1 : Int32)), .val (.int (-1 : Int32)), .val (.int (-1 : Int32))] []))
    refine Goes.go (fun _ kk => XS.iload X14.here hx rfl (hb hby at_125) rfl kk) ?_
    show Goes _ _ _ _ _ _ _ (T14.setTop (mkF m 127 _ [(.int (1 : Int32))]))
    refine Goes.go (fun _ kk => XS.ifNo X14.here hx rfl (hb hby at_127) rfl (XT.i0_eq_f (by decide)) kk) ?_
    show Goes _ _ _ _ _ _ _ (T14.setTop (mkF m 130 _ []))
    refine Goes.go (fun _ kk => XS.iload X14.here hx rfl (hb hby at_130) rfl kk) ?_
    show Goes _ _ _ _ _ _ _ (T14.setTop (mkF m 132 _ [(.int (-1 : Int32))]))
    refine Goes.go (fun _ kk => XS.iloadN X14.here hx rfl (hb hby at_132) rfl kk) ?_
    show Goes _ _ _ _ _ _ _ (T14.setTop (mkF m 133 _ [(.int p0), (.int (-1 : Int32))]))
    refine Goes.go (fun _ kk => XS.iload X14.here hx rfl (hb hby at_133) rfl kk) ?_
    show Goes _ _ _ _ _ _ _ (T14.setTop (mkF m 135 _ [(.int (3 : Int32)), (.int p0), (.int (-1 : Int32))]))
    refine Goes.go (fun _ kk => XS.iload X14.here hx rfl (hb hby at_135) rfl kk) ?_
    show Goes _ _ _ _ _ _ _ (T14.setTop (mkF m 137 _ [(.int (0 : Int32)), (.int (3 : Int32)), (.int p0), (.int (-1 : Int32))]))
    refine Goes.go (fun _ kk => XS.iconst X14.here hx rfl (hb hby at_137) kk) ?_
    show Goes _ _ _ _ _ _ _ (T14.setTop (mkF m 138 _ [(.int (0 : Int32)), (.int (0 : Int32)), (.int (3 : Int32)), (.int p0), (.int (-1 : Int32))]))
    obtain ⟨_, _, ⟨T15, L15, k15, n15⟩, -, X15, ⟨Lc15, hQ15, l15, y15, z15⟩, st15⟩ := Jvm.LawKit.callS X14 hx (y := (⟨"com/example/wide_schema/wideschema/io/BytesInputReadPinLaw", "exp", "(IIII)I"⟩ : MethodName)) hown (mvT hZ (hw _ (List.mem_of_getElem? (i := 32) rfl))) (mvT hZ (hw _ (List.mem_of_getElem? (i := 33) rfl))) (mvT hZ (hw _ (List.mem_of_getElem? (i := 34) rfl))) (mvT hZ (hw _ (List.mem_of_getElem? (i := 35) rfl))) (by decide) (backOf (W := 1) (rm5 l Z a0 hw [] p0 (3 : Int32) (0 : Int32) (0 : Int32) T7.heap n0 Z7) hZ (hw _ (List.mem_of_getElem? (i := 35) rfl)) (hw _ (List.mem_of_getElem? (i := 34) rfl)) (by decide) (by decide)) (g := (mkF m 138 #[.val (.int p0), .val (.int p1), .val (.int p2), .val (.ref ar1), .val (.int (3 : Int32)), .val (.int (0 : Int32)), .val (.ref ob52), .val (.int (1 : Int32)), .val (.int (-1 : Int32)), .val (.int (-1 : Int32)), .val (.int (-1 : Int32)), .val (.int (-1 : Int32)), .val (.int (-1 : Int32)), .val (.int (-1 : Int32))] [(.int (0 : Int32)), (.int (0 : Int32)), (.int (3 : Int32)), (.int p0), (.int (-1 : Int32))])) rfl (by rw [hml]; rfl) (argsL := [(.int p0), (.int (3 : Int32)), (.int (0 : Int32)), (.int (0 : Int32))]) (rest := [(.int (-1 : Int32))]) (lenOf pd3 rfl) rfl (by show 2 * 0 + _ ≤ _; exact Nat.le_of_eq rfl) (hb hby at_138) (fun _ _ => ⟨rfl, hh14, (by decide : 2 + 0 ≤ _), (by decide : 7 + 0 ≤ _)⟩)
    dsimp only [Pt.U, Pt.locs, Pt.cells, Pt.slots] at X15 l15 y15 z15 st15 hQ15
    subst l15 y15 z15
    obtain ⟨rfl, Nq15, hh15⟩ := hQ15
    have N15 := Fr.app N14 Nq15
    refine Goes.go (st15) ?_
    show Goes _ _ _ _ _ _ _ (T15.setTop (mkF m 141 _ [(.int (exF p0 (3 : Int32) (0 : Int32) (0 : Int32))), (.int (-1 : Int32))]))
    refine Goes.go (fun _ kk => XS.icmpNo X15.here hx rfl (hb hby at_141) rfl (XT.ii_ne_f (own_m (by decide))) kk) ?_
    show Goes _ _ _ _ _ _ _ (T15.setTop (mkF m 144 _ []))
    refine Goes.go (fun _ kk => XS.iconst X15.here hx rfl (hb hby at_144) kk) ?_
    show Goes _ _ _ _ _ _ _ (T15.setTop (mkF m 145 _ [(.int (1 : Int32))]))
    refine Goes.go (fun _ kk => XS.goto X15.here hx rfl (pc0 := 145) (pc' := 149) rfl (hb hby at_145) (by decide) (by decide) kk) ?_
    show Goes _ _ _ _ _ _ _ (T15.setTop (mkF m 149 _ [(.int (1 : Int32))]))
    refine Goes.go (fun _ kk => XS.istore X15.here hx rfl (hb hby at_149) rfl (l' := #[.val (.int p0), .val (.int p1), .val (.int p2), .val (.ref ar1), .val (.int (3 : Int32)), .val (.int (0 : Int32)), .val (.ref ob52), .val (.int (1 : Int32)), .val (.int (-1 : Int32)), .val (.int (-1 : Int32)), .val (.int (-1 : Int32)), .val (.int (-1 : Int32)), .val (.int (-1 : Int32)), .val (.int (-1 : Int32))]) rfl kk) ?_
    show Goes _ _ _ _ _ _ _ (T15.setTop (mkF m 151 _ []))
    refine Goes.go (fun _ kk => XS.iload X15.here hx rfl (hb hby at_151) rfl kk) ?_
    show Goes _ _ _ _ _ _ _ (T15.setTop (mkF m 153 _ [(.int (1 : Int32))]))
    refine Goes.go (fun _ kk => XS.ifNo X15.here hx rfl (hb hby at_153) rfl (XT.i0_eq_f (by decide)) kk) ?_
    show Goes _ _ _ _ _ _ _ (T15.setTop (mkF m 156 _ []))
    refine Goes.go (fun _ kk => XS.iload X15.here hx rfl (hb hby at_156) rfl kk) ?_
    show Goes _ _ _ _ _ _ _ (T15.setTop (mkF m 158 _ [(.int (-1 : Int32))]))
    refine Goes.go (fun _ kk => XS.iloadN X15.here hx rfl (hb hby at_158) rfl kk) ?_
    show Goes _ _ _ _ _ _ _ (T15.setTop (mkF m 159 _ [(.int p0), (.int (-1 : Int32))]))
    refine Goes.go (fun _ kk => XS.iload X15.here hx rfl (hb hby at_159) rfl kk) ?_
    show Goes _ _ _ _ _ _ _ (T15.setTop (mkF m 161 _ [(.int (3 : Int32)), (.int p0), (.int (-1 : Int32))]))
    refine Goes.go (fun _ kk => XS.iload X15.here hx rfl (hb hby at_161) rfl kk) ?_
    show Goes _ _ _ _ _ _ _ (T15.setTop (mkF m 163 _ [(.int (0 : Int32)), (.int (3 : Int32)), (.int p0), (.int (-1 : Int32))]))
    refine Goes.go (fun _ kk => XS.iconst X15.here hx rfl (hb hby at_163) kk) ?_
    show Goes _ _ _ _ _ _ _ (T15.setTop (mkF m 164 _ [(.int (1 : Int32)), (.int (0 : Int32)), (.int (3 : Int32)), (.int p0), (.int (-1 : Int32))]))
    obtain ⟨_, _, ⟨T16, L16, k16, n16⟩, -, X16, ⟨Lc16, hQ16, l16, y16, z16⟩, st16⟩ := Jvm.LawKit.callS X15 hx (y := (⟨"com/example/wide_schema/wideschema/io/BytesInputReadPinLaw", "exp", "(IIII)I"⟩ : MethodName)) hown (mvT hZ (hw _ (List.mem_of_getElem? (i := 32) rfl))) (mvT hZ (hw _ (List.mem_of_getElem? (i := 33) rfl))) (mvT hZ (hw _ (List.mem_of_getElem? (i := 34) rfl))) (mvT hZ (hw _ (List.mem_of_getElem? (i := 35) rfl))) (by decide) (backOf (W := 1) (rm5 l Z a0 hw [] p0 (3 : Int32) (0 : Int32) (1 : Int32) T7.heap n0 Z7) hZ (hw _ (List.mem_of_getElem? (i := 35) rfl)) (hw _ (List.mem_of_getElem? (i := 34) rfl)) (by decide) (by decide)) (g := (mkF m 164 #[.val (.int p0), .val (.int p1), .val (.int p2), .val (.ref ar1), .val (.int (3 : Int32)), .val (.int (0 : Int32)), .val (.ref ob52), .val (.int (1 : Int32)), .val (.int (-1 : Int32)), .val (.int (-1 : Int32)), .val (.int (-1 : Int32)), .val (.int (-1 : Int32)), .val (.int (-1 : Int32)), .val (.int (-1 : Int32))] [(.int (1 : Int32)), (.int (0 : Int32)), (.int (3 : Int32)), (.int p0), (.int (-1 : Int32))])) rfl (by rw [hml]; rfl) (argsL := [(.int p0), (.int (3 : Int32)), (.int (0 : Int32)), (.int (1 : Int32))]) (rest := [(.int (-1 : Int32))]) (lenOf pd3 rfl) rfl (by show 2 * 0 + _ ≤ _; exact Nat.le_of_eq rfl) (hb hby at_164) (fun _ _ => ⟨rfl, hh15, (by decide : 2 + 0 ≤ _), (by decide : 7 + 0 ≤ _)⟩)
    dsimp only [Pt.U, Pt.locs, Pt.cells, Pt.slots] at X16 l16 y16 z16 st16 hQ16
    subst l16 y16 z16
    obtain ⟨rfl, Nq16, hh16⟩ := hQ16
    have N16 := Fr.app N15 Nq16
    refine Goes.go (st16) ?_
    show Goes _ _ _ _ _ _ _ (T16.setTop (mkF m 167 _ [(.int (exF p0 (3 : Int32) (0 : Int32) (1 : Int32))), (.int (-1 : Int32))]))
    refine Goes.go (fun _ kk => XS.icmpNo X16.here hx rfl (hb hby at_167) rfl (XT.ii_ne_f (own_m (by decide))) kk) ?_
    show Goes _ _ _ _ _ _ _ (T16.setTop (mkF m 170 _ []))
    refine Goes.go (fun _ kk => XS.iconst X16.here hx rfl (hb hby at_170) kk) ?_
    show Goes _ _ _ _ _ _ _ (T16.setTop (mkF m 171 _ [(.int (1 : Int32))]))
    refine Goes.go (fun _ kk => XS.goto X16.here hx rfl (pc0 := 171) (pc' := 175) rfl (hb hby at_171) (by decide) (by decide) kk) ?_
    show Goes _ _ _ _ _ _ _ (T16.setTop (mkF m 175 _ [(.int (1 : Int32))]))
    refine Goes.go (fun _ kk => XS.istore X16.here hx rfl (hb hby at_175) rfl (l' := #[.val (.int p0), .val (.int p1), .val (.int p2), .val (.ref ar1), .val (.int (3 : Int32)), .val (.int (0 : Int32)), .val (.ref ob52), .val (.int (1 : Int32)), .val (.int (-1 : Int32)), .val (.int (-1 : Int32)), .val (.int (-1 : Int32)), .val (.int (-1 : Int32)), .val (.int (-1 : Int32)), .val (.int (-1 : Int32))]) rfl kk) ?_
    show Goes _ _ _ _ _ _ _ (T16.setTop (mkF m 177 _ []))
    refine Goes.go (fun _ kk => XS.iload X16.here hx rfl (hb hby at_177) rfl kk) ?_
    show Goes _ _ _ _ _ _ _ (T16.setTop (mkF m 179 _ [(.int (1 : Int32))]))
    refine Goes.go (fun _ kk => XS.ifNo X16.here hx rfl (hb hby at_179) rfl (XT.i0_eq_f (by decide)) kk) ?_
    show Goes _ _ _ _ _ _ _ (T16.setTop (mkF m 182 _ []))
    refine Goes.go (fun _ kk => XS.iload X16.here hx rfl (hb hby at_182) rfl kk) ?_
    show Goes _ _ _ _ _ _ _ (T16.setTop (mkF m 184 _ [(.int (-1 : Int32))]))
    refine Goes.go (fun _ kk => XS.iloadN X16.here hx rfl (hb hby at_184) rfl kk) ?_
    show Goes _ _ _ _ _ _ _ (T16.setTop (mkF m 185 _ [(.int p0), (.int (-1 : Int32))]))
    refine Goes.go (fun _ kk => XS.iload X16.here hx rfl (hb hby at_185) rfl kk) ?_
    show Goes _ _ _ _ _ _ _ (T16.setTop (mkF m 187 _ [(.int (3 : Int32)), (.int p0), (.int (-1 : Int32))]))
    refine Goes.go (fun _ kk => XS.iload X16.here hx rfl (hb hby at_187) rfl kk) ?_
    show Goes _ _ _ _ _ _ _ (T16.setTop (mkF m 189 _ [(.int (0 : Int32)), (.int (3 : Int32)), (.int p0), (.int (-1 : Int32))]))
    refine Goes.go (fun _ kk => XS.iconst X16.here hx rfl (hb hby at_189) kk) ?_
    show Goes _ _ _ _ _ _ _ (T16.setTop (mkF m 190 _ [(.int (2 : Int32)), (.int (0 : Int32)), (.int (3 : Int32)), (.int p0), (.int (-1 : Int32))]))
    obtain ⟨_, _, ⟨T17, L17, k17, n17⟩, -, X17, ⟨Lc17, hQ17, l17, y17, z17⟩, st17⟩ := Jvm.LawKit.callS X16 hx (y := (⟨"com/example/wide_schema/wideschema/io/BytesInputReadPinLaw", "exp", "(IIII)I"⟩ : MethodName)) hown (mvT hZ (hw _ (List.mem_of_getElem? (i := 32) rfl))) (mvT hZ (hw _ (List.mem_of_getElem? (i := 33) rfl))) (mvT hZ (hw _ (List.mem_of_getElem? (i := 34) rfl))) (mvT hZ (hw _ (List.mem_of_getElem? (i := 35) rfl))) (by decide) (backOf (W := 1) (rm5 l Z a0 hw [] p0 (3 : Int32) (0 : Int32) (2 : Int32) T7.heap n0 Z7) hZ (hw _ (List.mem_of_getElem? (i := 35) rfl)) (hw _ (List.mem_of_getElem? (i := 34) rfl)) (by decide) (by decide)) (g := (mkF m 190 #[.val (.int p0), .val (.int p1), .val (.int p2), .val (.ref ar1), .val (.int (3 : Int32)), .val (.int (0 : Int32)), .val (.ref ob52), .val (.int (1 : Int32)), .val (.int (-1 : Int32)), .val (.int (-1 : Int32)), .val (.int (-1 : Int32)), .val (.int (-1 : Int32)), .val (.int (-1 : Int32)), .val (.int (-1 : Int32))] [(.int (2 : Int32)), (.int (0 : Int32)), (.int (3 : Int32)), (.int p0), (.int (-1 : Int32))])) rfl (by rw [hml]; rfl) (argsL := [(.int p0), (.int (3 : Int32)), (.int (0 : Int32)), (.int (2 : Int32))]) (rest := [(.int (-1 : Int32))]) (lenOf pd3 rfl) rfl (by show 2 * 0 + _ ≤ _; exact Nat.le_of_eq rfl) (hb hby at_190) (fun _ _ => ⟨rfl, hh16, (by decide : 2 + 0 ≤ _), (by decide : 7 + 0 ≤ _)⟩)
    dsimp only [Pt.U, Pt.locs, Pt.cells, Pt.slots] at X17 l17 y17 z17 st17 hQ17
    subst l17 y17 z17
    obtain ⟨rfl, Nq17, hh17⟩ := hQ17
    have N17 := Fr.app N16 Nq17
    refine Goes.go (st17) ?_
    show Goes _ _ _ _ _ _ _ (T17.setTop (mkF m 193 _ [(.int (exF p0 (3 : Int32) (0 : Int32) (2 : Int32))), (.int (-1 : Int32))]))
    refine Goes.go (fun _ kk => XS.icmpNo X17.here hx rfl (hb hby at_193) rfl (XT.ii_ne_f (own_m (by decide))) kk) ?_
    show Goes _ _ _ _ _ _ _ (T17.setTop (mkF m 196 _ []))
    refine Goes.go (fun _ kk => XS.iconst X17.here hx rfl (hb hby at_196) kk) ?_
    show Goes _ _ _ _ _ _ _ (T17.setTop (mkF m 197 _ [(.int (1 : Int32))]))
    refine Goes.go (fun _ kk => XS.goto X17.here hx rfl (pc0 := 197) (pc' := 201) rfl (hb hby at_197) (by decide) (by decide) kk) ?_
    show Goes _ _ _ _ _ _ _ (T17.setTop (mkF m 201 _ [(.int (1 : Int32))]))
    refine Goes.go (fun _ kk => XS.istore X17.here hx rfl (hb hby at_201) rfl (l' := #[.val (.int p0), .val (.int p1), .val (.int p2), .val (.ref ar1), .val (.int (3 : Int32)), .val (.int (0 : Int32)), .val (.ref ob52), .val (.int (1 : Int32)), .val (.int (-1 : Int32)), .val (.int (-1 : Int32)), .val (.int (-1 : Int32)), .val (.int (-1 : Int32)), .val (.int (-1 : Int32)), .val (.int (-1 : Int32))]) rfl kk) ?_
    show Goes _ _ _ _ _ _ _ (T17.setTop (mkF m 203 _ []))
    refine Goes.go (fun _ kk => XS.iload X17.here hx rfl (hb hby at_203) rfl kk) ?_
    show Goes _ _ _ _ _ _ _ (T17.setTop (mkF m 205 _ [(.int (1 : Int32))]))
    refine Goes.go (fun _ kk => XS.ifNo X17.here hx rfl (hb hby at_205) rfl (XT.i0_eq_f (by decide)) kk) ?_
    show Goes _ _ _ _ _ _ _ (T17.setTop (mkF m 208 _ []))
    refine Goes.go (fun _ kk => XS.iload X17.here hx rfl (hb hby at_208) rfl kk) ?_
    show Goes _ _ _ _ _ _ _ (T17.setTop (mkF m 210 _ [(.int (-1 : Int32))]))
    refine Goes.go (fun _ kk => XS.iloadN X17.here hx rfl (hb hby at_210) rfl kk) ?_
    show Goes _ _ _ _ _ _ _ (T17.setTop (mkF m 211 _ [(.int p0), (.int (-1 : Int32))]))
    refine Goes.go (fun _ kk => XS.iload X17.here hx rfl (hb hby at_211) rfl kk) ?_
    show Goes _ _ _ _ _ _ _ (T17.setTop (mkF m 213 _ [(.int (3 : Int32)), (.int p0), (.int (-1 : Int32))]))
    refine Goes.go (fun _ kk => XS.iload X17.here hx rfl (hb hby at_213) rfl kk) ?_
    show Goes _ _ _ _ _ _ _ (T17.setTop (mkF m 215 _ [(.int (0 : Int32)), (.int (3 : Int32)), (.int p0), (.int (-1 : Int32))]))
    refine Goes.go (fun _ kk => XS.iconst X17.here hx rfl (hb hby at_215) kk) ?_
    show Goes _ _ _ _ _ _ _ (T17.setTop (mkF m 216 _ [(.int (3 : Int32)), (.int (0 : Int32)), (.int (3 : Int32)), (.int p0), (.int (-1 : Int32))]))
    obtain ⟨_, _, ⟨T18, L18, k18, n18⟩, -, X18, ⟨Lc18, hQ18, l18, y18, z18⟩, st18⟩ := Jvm.LawKit.callS X17 hx (y := (⟨"com/example/wide_schema/wideschema/io/BytesInputReadPinLaw", "exp", "(IIII)I"⟩ : MethodName)) hown (mvT hZ (hw _ (List.mem_of_getElem? (i := 32) rfl))) (mvT hZ (hw _ (List.mem_of_getElem? (i := 33) rfl))) (mvT hZ (hw _ (List.mem_of_getElem? (i := 34) rfl))) (mvT hZ (hw _ (List.mem_of_getElem? (i := 35) rfl))) (by decide) (backOf (W := 1) (rm5 l Z a0 hw [] p0 (3 : Int32) (0 : Int32) (3 : Int32) T7.heap n0 Z7) hZ (hw _ (List.mem_of_getElem? (i := 35) rfl)) (hw _ (List.mem_of_getElem? (i := 34) rfl)) (by decide) (by decide)) (g := (mkF m 216 #[.val (.int p0), .val (.int p1), .val (.int p2), .val (.ref ar1), .val (.int (3 : Int32)), .val (.int (0 : Int32)), .val (.ref ob52), .val (.int (1 : Int32)), .val (.int (-1 : Int32)), .val (.int (-1 : Int32)), .val (.int (-1 : Int32)), .val (.int (-1 : Int32)), .val (.int (-1 : Int32)), .val (.int (-1 : Int32))] [(.int (3 : Int32)), (.int (0 : Int32)), (.int (3 : Int32)), (.int p0), (.int (-1 : Int32))])) rfl (by rw [hml]; rfl) (argsL := [(.int p0), (.int (3 : Int32)), (.int (0 : Int32)), (.int (3 : Int32))]) (rest := [(.int (-1 : Int32))]) (lenOf pd3 rfl) rfl (by show 2 * 0 + _ ≤ _; exact Nat.le_of_eq rfl) (hb hby at_216) (fun _ _ => ⟨rfl, hh17, (by decide : 2 + 0 ≤ _), (by decide : 7 + 0 ≤ _)⟩)
    dsimp only [Pt.U, Pt.locs, Pt.cells, Pt.slots] at X18 l18 y18 z18 st18 hQ18
    subst l18 y18 z18
    obtain ⟨rfl, Nq18, hh18⟩ := hQ18
    have N18 := Fr.app N17 Nq18
    refine Goes.go (st18) ?_
    show Goes _ _ _ _ _ _ _ (T18.setTop (mkF m 219 _ [(.int (exF p0 (3 : Int32) (0 : Int32) (3 : Int32))), (.int (-1 : Int32))]))
    refine Goes.go (fun _ kk => XS.icmpNo X18.here hx rfl (hb hby at_219) rfl (XT.ii_ne_f (own_m (by decide))) kk) ?_
    show Goes _ _ _ _ _ _ _ (T18.setTop (mkF m 222 _ []))
    refine Goes.go (fun _ kk => XS.iconst X18.here hx rfl (hb hby at_222) kk) ?_
    show Goes _ _ _ _ _ _ _ (T18.setTop (mkF m 223 _ [(.int (1 : Int32))]))
    refine Goes.go (fun _ kk => XS.goto X18.here hx rfl (pc0 := 223) (pc' := 227) rfl (hb hby at_223) (by decide) (by decide) kk) ?_
    show Goes _ _ _ _ _ _ _ (T18.setTop (mkF m 227 _ [(.int (1 : Int32))]))
    refine Goes.go (fun _ kk => XS.istore X18.here hx rfl (hb hby at_227) rfl (l' := #[.val (.int p0), .val (.int p1), .val (.int p2), .val (.ref ar1), .val (.int (3 : Int32)), .val (.int (0 : Int32)), .val (.ref ob52), .val (.int (1 : Int32)), .val (.int (-1 : Int32)), .val (.int (-1 : Int32)), .val (.int (-1 : Int32)), .val (.int (-1 : Int32)), .val (.int (-1 : Int32)), .val (.int (-1 : Int32))]) rfl kk) ?_
    show Goes _ _ _ _ _ _ _ (T18.setTop (mkF m 229 _ []))
    refine Goes.go (fun _ kk => XS.iload X18.here hx rfl (hb hby at_229) rfl kk) ?_
    show Goes _ _ _ _ _ _ _ (T18.setTop (mkF m 231 _ [(.int (1 : Int32))]))
    refine Goes.go (fun _ kk => XS.ifNo X18.here hx rfl (hb hby at_231) rfl (XT.i0_eq_f (by decide)) kk) ?_
    show Goes _ _ _ _ _ _ _ (T18.setTop (mkF m 234 _ []))
    refine Goes.go (fun _ kk => XS.iload X18.here hx rfl (hb hby at_234) rfl kk) ?_
    show Goes _ _ _ _ _ _ _ (T18.setTop (mkF m 236 _ [(.int (-1 : Int32))]))
    refine Goes.go (fun _ kk => XS.iloadN X18.here hx rfl (hb hby at_236) rfl kk) ?_
    show Goes _ _ _ _ _ _ _ (T18.setTop (mkF m 237 _ [(.int p0), (.int (-1 : Int32))]))
    refine Goes.go (fun _ kk => XS.iload X18.here hx rfl (hb hby at_237) rfl kk) ?_
    show Goes _ _ _ _ _ _ _ (T18.setTop (mkF m 239 _ [(.int (3 : Int32)), (.int p0), (.int (-1 : Int32))]))
    refine Goes.go (fun _ kk => XS.iload X18.here hx rfl (hb hby at_239) rfl kk) ?_
    show Goes _ _ _ _ _ _ _ (T18.setTop (mkF m 241 _ [(.int (0 : Int32)), (.int (3 : Int32)), (.int p0), (.int (-1 : Int32))]))
    refine Goes.go (fun _ kk => XS.iconst X18.here hx rfl (hb hby at_241) kk) ?_
    show Goes _ _ _ _ _ _ _ (T18.setTop (mkF m 242 _ [(.int (4 : Int32)), (.int (0 : Int32)), (.int (3 : Int32)), (.int p0), (.int (-1 : Int32))]))
    obtain ⟨_, _, ⟨T19, L19, k19, n19⟩, -, X19, ⟨Lc19, hQ19, l19, y19, z19⟩, st19⟩ := Jvm.LawKit.callS X18 hx (y := (⟨"com/example/wide_schema/wideschema/io/BytesInputReadPinLaw", "exp", "(IIII)I"⟩ : MethodName)) hown (mvT hZ (hw _ (List.mem_of_getElem? (i := 32) rfl))) (mvT hZ (hw _ (List.mem_of_getElem? (i := 33) rfl))) (mvT hZ (hw _ (List.mem_of_getElem? (i := 34) rfl))) (mvT hZ (hw _ (List.mem_of_getElem? (i := 35) rfl))) (by decide) (backOf (W := 1) (rm5 l Z a0 hw [] p0 (3 : Int32) (0 : Int32) (4 : Int32) T7.heap n0 Z7) hZ (hw _ (List.mem_of_getElem? (i := 35) rfl)) (hw _ (List.mem_of_getElem? (i := 34) rfl)) (by decide) (by decide)) (g := (mkF m 242 #[.val (.int p0), .val (.int p1), .val (.int p2), .val (.ref ar1), .val (.int (3 : Int32)), .val (.int (0 : Int32)), .val (.ref ob52), .val (.int (1 : Int32)), .val (.int (-1 : Int32)), .val (.int (-1 : Int32)), .val (.int (-1 : Int32)), .val (.int (-1 : Int32)), .val (.int (-1 : Int32)), .val (.int (-1 : Int32))] [(.int (4 : Int32)), (.int (0 : Int32)), (.int (3 : Int32)), (.int p0), (.int (-1 : Int32))])) rfl (by rw [hml]; rfl) (argsL := [(.int p0), (.int (3 : Int32)), (.int (0 : Int32)), (.int (4 : Int32))]) (rest := [(.int (-1 : Int32))]) (lenOf pd3 rfl) rfl (by show 2 * 0 + _ ≤ _; exact Nat.le_of_eq rfl) (hb hby at_242) (fun _ _ => ⟨rfl, hh18, (by decide : 2 + 0 ≤ _), (by decide : 7 + 0 ≤ _)⟩)
    dsimp only [Pt.U, Pt.locs, Pt.cells, Pt.slots] at X19 l19 y19 z19 st19 hQ19
    subst l19 y19 z19
    obtain ⟨rfl, Nq19, hh19⟩ := hQ19
    have N19 := Fr.app N18 Nq19
    refine Goes.go (st19) ?_
    show Goes _ _ _ _ _ _ _ (T19.setTop (mkF m 245 _ [(.int (exF p0 (3 : Int32) (0 : Int32) (4 : Int32))), (.int (-1 : Int32))]))
    refine Goes.go (fun _ kk => XS.icmpNo X19.here hx rfl (hb hby at_245) rfl (XT.ii_ne_f (own_m (by decide))) kk) ?_
    show Goes _ _ _ _ _ _ _ (T19.setTop (mkF m 248 _ []))
    refine Goes.go (fun _ kk => XS.iconst X19.here hx rfl (hb hby at_248) kk) ?_
    show Goes _ _ _ _ _ _ _ (T19.setTop (mkF m 249 _ [(.int (1 : Int32))]))
    refine Goes.go (fun _ kk => XS.goto X19.here hx rfl (pc0 := 249) (pc' := 253) rfl (hb hby at_249) (by decide) (by decide) kk) ?_
    show Goes _ _ _ _ _ _ _ (T19.setTop (mkF m 253 _ [(.int (1 : Int32))]))
    refine Goes.go (fun _ kk => XS.istore X19.here hx rfl (hb hby at_253) rfl (l' := #[.val (.int p0), .val (.int p1), .val (.int p2), .val (.ref ar1), .val (.int (3 : Int32)), .val (.int (0 : Int32)), .val (.ref ob52), .val (.int (1 : Int32)), .val (.int (-1 : Int32)), .val (.int (-1 : Int32)), .val (.int (-1 : Int32)), .val (.int (-1 : Int32)), .val (.int (-1 : Int32)), .val (.int (-1 : Int32))]) rfl kk) ?_
    show Goes _ _ _ _ _ _ _ (T19.setTop (mkF m 255 _ []))
    refine Goes.go (fun _ kk => XS.iload X19.here hx rfl (hb hby at_255) rfl kk) ?_
    show Goes _ _ _ _ _ _ _ (T19.setTop (mkF m 257 _ [(.int (1 : Int32))]))
    refine Goes.go (fun _ kk => XS.ifNo X19.here hx rfl (hb hby at_257) rfl (XT.i0_eq_f (by decide)) kk) ?_
    show Goes _ _ _ _ _ _ _ (T19.setTop (mkF m 260 _ []))
    refine Goes.go (fun _ kk => XS.iload X19.here hx rfl (hb hby at_260) rfl kk) ?_
    show Goes _ _ _ _ _ _ _ (T19.setTop (mkF m 262 _ [(.int (-1 : Int32))]))
    refine Goes.go (fun _ kk => XS.iloadN X19.here hx rfl (hb hby at_262) rfl kk) ?_
    show Goes _ _ _ _ _ _ _ (T19.setTop (mkF m 263 _ [(.int p0), (.int (-1 : Int32))]))
    refine Goes.go (fun _ kk => XS.iload X19.here hx rfl (hb hby at_263) rfl kk) ?_
    show Goes _ _ _ _ _ _ _ (T19.setTop (mkF m 265 _ [(.int (3 : Int32)), (.int p0), (.int (-1 : Int32))]))
    refine Goes.go (fun _ kk => XS.iload X19.here hx rfl (hb hby at_265) rfl kk) ?_
    show Goes _ _ _ _ _ _ _ (T19.setTop (mkF m 267 _ [(.int (0 : Int32)), (.int (3 : Int32)), (.int p0), (.int (-1 : Int32))]))
    refine Goes.go (fun _ kk => XS.iconst X19.here hx rfl (hb hby at_267) kk) ?_
    show Goes _ _ _ _ _ _ _ (T19.setTop (mkF m 268 _ [(.int (5 : Int32)), (.int (0 : Int32)), (.int (3 : Int32)), (.int p0), (.int (-1 : Int32))]))
    obtain ⟨_, _, ⟨T20, L20, k20, n20⟩, -, X20, ⟨Lc20, hQ20, l20, y20, z20⟩, st20⟩ := Jvm.LawKit.callS X19 hx (y := (⟨"com/example/wide_schema/wideschema/io/BytesInputReadPinLaw", "exp", "(IIII)I"⟩ : MethodName)) hown (mvT hZ (hw _ (List.mem_of_getElem? (i := 32) rfl))) (mvT hZ (hw _ (List.mem_of_getElem? (i := 33) rfl))) (mvT hZ (hw _ (List.mem_of_getElem? (i := 34) rfl))) (mvT hZ (hw _ (List.mem_of_getElem? (i := 35) rfl))) (by decide) (backOf (W := 1) (rm5 l Z a0 hw [] p0 (3 : Int32) (0 : Int32) (5 : Int32) T7.heap n0 Z7) hZ (hw _ (List.mem_of_getElem? (i := 35) rfl)) (hw _ (List.mem_of_getElem? (i := 34) rfl)) (by decide) (by decide)) (g := (mkF m 268 #[.val (.int p0), .val (.int p1), .val (.int p2), .val (.ref ar1), .val (.int (3 : Int32)), .val (.int (0 : Int32)), .val (.ref ob52), .val (.int (1 : Int32)), .val (.int (-1 : Int32)), .val (.int (-1 : Int32)), .val (.int (-1 : Int32)), .val (.int (-1 : Int32)), .val (.int (-1 : Int32)), .val (.int (-1 : Int32))] [(.int (5 : Int32)), (.int (0 : Int32)), (.int (3 : Int32)), (.int p0), (.int (-1 : Int32))])) rfl (by rw [hml]; rfl) (argsL := [(.int p0), (.int (3 : Int32)), (.int (0 : Int32)), (.int (5 : Int32))]) (rest := [(.int (-1 : Int32))]) (lenOf pd3 rfl) rfl (by show 2 * 0 + _ ≤ _; exact Nat.le_of_eq rfl) (hb hby at_268) (fun _ _ => ⟨rfl, hh19, (by decide : 2 + 0 ≤ _), (by decide : 7 + 0 ≤ _)⟩)
    dsimp only [Pt.U, Pt.locs, Pt.cells, Pt.slots] at X20 l20 y20 z20 st20 hQ20
    subst l20 y20 z20
    obtain ⟨rfl, Nq20, hh20⟩ := hQ20
    have N20 := Fr.app N19 Nq20
    refine Goes.go (st20) ?_
    show Goes _ _ _ _ _ _ _ (T20.setTop (mkF m 271 _ [(.int (exF p0 (3 : Int32) (0 : Int32) (5 : Int32))), (.int (-1 : Int32))]))
    refine Goes.go (fun _ kk => XS.icmpNo X20.here hx rfl (hb hby at_271) rfl (XT.ii_ne_f (own_m (by decide))) kk) ?_
    show Goes _ _ _ _ _ _ _ (T20.setTop (mkF m 274 _ []))
    refine Goes.go (fun _ kk => XS.iconst X20.here hx rfl (hb hby at_274) kk) ?_
    show Goes _ _ _ _ _ _ _ (T20.setTop (mkF m 275 _ [(.int (1 : Int32))]))
    refine Goes.go (fun _ kk => XS.goto X20.here hx rfl (pc0 := 275) (pc' := 279) rfl (hb hby at_275) (by decide) (by decide) kk) ?_
    show Goes _ _ _ _ _ _ _ (T20.setTop (mkF m 279 _ [(.int (1 : Int32))]))
    refine Goes.go (fun _ kk => XS.istore X20.here hx rfl (hb hby at_279) rfl (l' := #[.val (.int p0), .val (.int p1), .val (.int p2), .val (.ref ar1), .val (.int (3 : Int32)), .val (.int (0 : Int32)), .val (.ref ob52), .val (.int (1 : Int32)), .val (.int (-1 : Int32)), .val (.int (-1 : Int32)), .val (.int (-1 : Int32)), .val (.int (-1 : Int32)), .val (.int (-1 : Int32)), .val (.int (-1 : Int32))]) rfl kk) ?_
    show Goes _ _ _ _ _ _ _ (T20.setTop (mkF m 281 _ []))
    refine Goes.go (fun _ kk => XS.iload X20.here hx rfl (hb hby at_281) rfl kk) ?_
    show Goes _ _ _ _ _ _ _ (T20.setTop (mkF m 283 _ [(.int (1 : Int32))]))
    refine Goes.go (fun _ kk => XS.ifNo X20.here hx rfl (hb hby at_283) rfl (XT.i0_eq_f (by decide)) kk) ?_
    show Goes _ _ _ _ _ _ _ (T20.setTop (mkF m 286 _ []))
    refine Goes.go (fun _ kk => XS.aload X20.here hx rfl (hb hby at_286) rfl rfl kk) ?_
    show Goes _ _ _ _ _ _ _ (T20.setTop (mkF m 288 _ [(.ref ob52)]))
    obtain ⟨cq21, kq21, qa21, qb21, qc21⟩ := isOf hZ hh20 Eq7
    obtain ⟨_, _, ⟨T21, L21, k21, n21⟩, -, X21, ⟨Lc21, hQ21, l21, y21, z21⟩, st21⟩ := X20.virtualBack hx (y := (⟨"com/example/wide_schema/wideschema/io/BytesInput", "available", "()I"⟩ : MethodName)) (z := (⟨"com/example/wide_schema/wideschema/io/BytesInput", "available", "()I"⟩ : MethodName)) hown (mvT hZ (hw _ (List.mem_of_getElem? (i := 22) rfl))) (mvT hZ (hw _ (List.mem_of_getElem? (i := 23) rfl))) (notFace_of_selects (args := #[]) (mvT hZ (hw _ (List.mem_of_getElem? (i := 25) rfl)))) (mvT hZ (hw _ (List.mem_of_getElem? (i := 25) rfl))) (mvT hZ (hw _ (List.mem_of_getElem? (i := 24) rfl))) (by decide) (backOf (W := 0) (rm3 l Z a0 hw [] ob52 (3 : Int32) (3 : Int32) T7.heap n0 Z7 Fq7_1 Fq7_2) hZ (hw _ (List.mem_of_getElem? (i := 26) rfl)) (hw _ (List.mem_of_getElem? (i := 4) rfl)) (by decide) (by decide)) qa21 qc21 (g := (mkF m 288 #[.val (.int p0), .val (.int p1), .val (.int p2), .val (.ref ar1), .val (.int (3 : Int32)), .val (.int (0 : Int32)), .val (.ref ob52), .val (.int (1 : Int32)), .val (.int (-1 : Int32)), .val (.int (-1 : Int32)), .val (.int (-1 : Int32)), .val (.int (-1 : Int32)), .val (.int (-1 : Int32)), .val (.int (-1 : Int32))] [(.ref ob52)])) rfl (by rw [hml]; rfl) (Steps.refl _) (argsL := []) (rest := []) (lenOf pd2 rfl) rfl (by show 2 * 0 + _ ≤ _; exact Nat.le_of_eq rfl) (hb hby at_288) (fun _ _ => ⟨rfl, hh20, (by decide : 2 + 0 ≤ _), (by decide : 7 + 0 ≤ _)⟩)
    dsimp only [Pt.U, Pt.locs, Pt.cells, Pt.slots] at X21 l21 y21 z21 st21 hQ21
    subst l21 y21 z21
    obtain ⟨rfl, Nq21, hh21⟩ := hQ21
    have N21 := Fr.app N20 Nq21
    refine Goes.go (fun _ kk => st21.trans kk) ?_
    show Goes _ _ _ _ _ _ _ (T21.setTop (mkF m 291 _ [(.int (0 : Int32))]))
    refine Goes.go (fun _ kk => XS.ifNo X21.here hx rfl (hb hby at_291) rfl (XT.i0_ne_f (by decide)) kk) ?_
    show Goes _ _ _ _ _ _ _ (T21.setTop (mkF m 294 _ []))
    refine Goes.go (fun _ kk => XS.iconst X21.here hx rfl (hb hby at_294) kk) ?_
    show Goes _ _ _ _ _ _ _ (T21.setTop (mkF m 295 _ [(.int (1 : Int32))]))
    refine Goes.go (fun _ kk => XS.goto X21.here hx rfl (pc0 := 295) (pc' := 299) rfl (hb hby at_295) (by decide) (by decide) kk) ?_
    show Goes _ _ _ _ _ _ _ (T21.setTop (mkF m 299 _ [(.int (1 : Int32))]))
    refine Goes.go (fun _ kk => XS.istore X21.here hx rfl (hb hby at_299) rfl (l' := #[.val (.int p0), .val (.int p1), .val (.int p2), .val (.ref ar1), .val (.int (3 : Int32)), .val (.int (0 : Int32)), .val (.ref ob52), .val (.int (1 : Int32)), .val (.int (-1 : Int32)), .val (.int (-1 : Int32)), .val (.int (-1 : Int32)), .val (.int (-1 : Int32)), .val (.int (-1 : Int32)), .val (.int (-1 : Int32))]) rfl kk) ?_
    show Goes _ _ _ _ _ _ _ (T21.setTop (mkF m 301 _ []))
    refine Goes.go (fun _ kk => XS.iload X21.here hx rfl (hb hby at_301) rfl kk) ?_
    show Goes _ _ _ _ _ _ _ (T21.setTop (mkF m 303 _ [(.int (1 : Int32))]))
    exact Goes.outZ X21 hx hlk hret rfl (hb hby at_303) hh21 ⟨rfl, N21⟩ (by decide) (by decide)
  · skip
    show Goes _ _ _ _ _ _ _ (T5.setTop (mkF m 52 #[.val (.int p0), .val (.int p1), .val (.int p2), .val (.ref ar1), .val (.int (3 : Int32)), .val (.int (1 : Int32)), .unset, .unset, .unset, .unset, .unset, .unset, .unset, .unset] []))
    obtain ⟨T6, h6, X6, e6, E6, A6, D6, -, st6⟩ := newO X5 hx hZ hown (hw _ (List.mem_of_getElem? (i := 2) rfl)) (hw _ (List.mem_of_getElem? (i := 3) rfl)) (hw _ (List.mem_of_getElem? (i := 4) rfl)) e5 (g := (mkF m 52 #[.val (.int p0), .val (.int p1), .val (.int p2), .val (.ref ar1), .val (.int (3 : Int32)), .val (.int (1 : Int32)), .unset, .unset, .unset, .unset, .unset, .unset, .unset, .unset] [])) rfl (hb hby at_52) (by decide) (by decide)
    obtain ⟨ob52, gob52⟩ : ∃ z, z = h5.size := ⟨_, rfl⟩
    rw [← gob52] at A6 D6 st6
    have ne_ar1_ob52 : ar1 ≠ ob52 := by rw [gob52]; exact Nat.ne_of_lt f_4.lt
    have f_5 := f_4.ext E6
    have Z6 : n0 ≤ h6.size := Nat.le_trans Z5 E6.1
    have ge_ob52 : n0 ≤ ob52 := Nat.le_trans Z5 (Nat.le_of_eq gob52.symm)
    have f_6 : Fld Z h6 ob52 "com/example/wide_schema/wideschema/io/BytesInput" "_bytes" "[B" .null := D6 (Or.inr (hw _ (List.mem_of_getElem? (i := 17) rfl))) (ty := (.array .byte)) (by decide)
    have f_7 : Fld Z h6 ob52 "com/example/wide_schema/wideschema/io/BytesInput" "_next" "I" (.int (0 : Int32)) := D6 (Or.inl (hw _ (List.mem_of_getElem? (i := 19) rfl))) (ty := .int) (by decide)
    have f_8 : Fld Z h6 ob52 "com/example/wide_schema/wideschema/io/BytesInput" "_end" "I" (.int (0 : Int32)) := D6 (Or.inr (hw _ (List.mem_of_getElem? (i := 21) rfl))) (ty := .int) (by decide)
    refine Goes.go (st6) ?_
    show Goes _ _ _ _ _ _ _ (T6.setTop (mkF m 55 _ [(.ref ob52)]))
    refine Goes.go (fun _ kk => XS.dup X6.here hx rfl (hb hby at_55) rfl rfl kk) ?_
    show Goes _ _ _ _ _ _ _ (T6.setTop (mkF m 56 _ [(.ref ob52), (.ref ob52)]))
    refine Goes.go (fun _ kk => XS.aloadN X6.here hx rfl (hb hby at_56) rfl rfl kk) ?_
    show Goes _ _ _ _ _ _ _ (T6.setTop (mkF m 57 _ [(.ref ar1), (.ref ob52), (.ref ob52)]))
    refine Goes.go (fun _ kk => XS.iload X6.here hx rfl (hb hby at_57) rfl kk) ?_
    show Goes _ _ _ _ _ _ _ (T6.setTop (mkF m 59 _ [(.int (3 : Int32)), (.ref ar1), (.ref ob52), (.ref ob52)]))
    refine Goes.go (fun _ kk => XS.iload X6.here hx rfl (hb hby at_59) rfl kk) ?_
    show Goes _ _ _ _ _ _ _ (T6.setTop (mkF m 61 _ [(.int (1 : Int32)), (.int (3 : Int32)), (.ref ar1), (.ref ob52), (.ref ob52)]))
    obtain ⟨_, _, ⟨T7, L7, k7, n7⟩, -, X7, ⟨Lc7, hQ7, l7, y7, z7⟩, st7⟩ := X6.specialBack hx (y := (⟨"com/example/wide_schema/wideschema/io/BytesInput", "<init>", "([BII)V"⟩ : MethodName)) rfl hown (mvT hZ (hw _ (List.mem_of_getElem? (i := 5) rfl))) (mvT hZ (hw _ (List.mem_of_getElem? (i := 6) rfl))) (mvT hZ (hw _ (List.mem_of_getElem? (i := 7) rfl))) (by decide) (backOf (W := 1) (rm1 l Z a0 hw [] ob52 ar1 (3 : Int32) (1 : Int32) h6 n0 Z6 A6 f_6 f_7 f_8 ge_ob52) hZ (hw _ (List.mem_of_getElem? (i := 7) rfl)) (hw _ (List.mem_of_getElem? (i := 4) rfl)) (by decide) (by decide)) (g := (mkF m 61 #[.val (.int p0), .val (.int p1), .val (.int p2), .val (.ref ar1), .val (.int (3 : Int32)), .val (.int (1 : Int32)), .unset, .unset, .unset, .unset, .unset, .unset, .unset, .unset] [(.int (1 : Int32)), (.int (3 : Int32)), (.ref ar1), (.ref ob52), (.ref ob52)])) rfl (by rw [hml]; rfl) (Steps.refl _) (a := ob52) (argsL := [(.ref ar1), (.int (3 : Int32)), (.int (1 : Int32))]) (rest := [(.ref ob52)]) (lenOf pd0 rfl) rfl (by show 2 * 0 + _ ≤ _; exact Nat.le_of_eq rfl) (hb hby at_61) (fun _ _ => ⟨rfl, e6, (by decide : 2 + 0 ≤ _), (by decide : 7 + 0 ≤ _)⟩)
    dsimp only [Pt.U, Pt.locs, Pt.cells, Pt.slots] at X7 l7 y7 z7 st7 hQ7
    subst l7 y7 z7
    obtain ⟨rfl, Nq7, Kq7, Eq7, Fq7_0, Fq7_1, Fq7_2⟩ := hQ7
    have N7 := Fr.app N5 Nq7
    have Z7 : n0 ≤ T7.heap.size := Nat.le_trans Z6 Kq7.1
    have f_9 := Arl.keep f_5 Kq7 (ninS ne_ar1_ob52 nin0)
    refine Goes.go (fun _ kk => st7.trans kk) ?_
    show Goes _ _ _ _ _ _ _ (T7.setTop (mkF m 64 _ [(.ref ob52)]))
    refine Goes.go (fun _ kk => XS.astore X7.here hx rfl (hb hby at_64) rfl rfl (l' := #[.val (.int p0), .val (.int p1), .val (.int p2), .val (.ref ar1), .val (.int (3 : Int32)), .val (.int (1 : Int32)), .val (.ref ob52), .unset, .unset, .unset, .unset, .unset, .unset, .unset]) rfl kk) ?_
    show Goes _ _ _ _ _ _ _ (T7.setTop (mkF m 66 #[.val (.int p0), .val (.int p1), .val (.int p2), .val (.ref ar1), .val (.int (3 : Int32)), .val (.int (1 : Int32)), .val (.ref ob52), .unset, .unset, .unset, .unset, .unset, .unset, .unset] []))
    refine Goes.go (fun _ kk => XS.aload X7.here hx rfl (hb hby at_66) rfl rfl kk) ?_
    show Goes _ _ _ _ _ _ _ (T7.setTop (mkF m 68 _ [(.ref ob52)]))
    obtain ⟨cq8, kq8, qa8, qb8, qc8⟩ := isOf hZ rfl Eq7
    obtain ⟨_, _, ⟨T8, L8, k8, n8⟩, -, X8, ⟨Lc8, hQ8, l8, y8, z8⟩, st8⟩ := X7.virtualBack hx (y := (⟨"com/example/wide_schema/wideschema/io/BytesInput", "available", "()I"⟩ : MethodName)) (z := (⟨"com/example/wide_schema/wideschema/io/BytesInput", "available", "()I"⟩ : MethodName)) hown (mvT hZ (hw _ (List.mem_of_getElem? (i := 22) rfl))) (mvT hZ (hw _ (List.mem_of_getElem? (i := 23) rfl))) (notFace_of_selects (args := #[]) (mvT hZ (hw _ (List.mem_of_getElem? (i := 25) rfl)))) (mvT hZ (hw _ (List.mem_of_getElem? (i := 25) rfl))) (mvT hZ (hw _ (List.mem_of_getElem? (i := 24) rfl))) (by decide) (backOf (W := 0) (rm3 l Z a0 hw [] ob52 (3 : Int32) (4 : Int32) T7.heap n0 Z7 Fq7_1 Fq7_2) hZ (hw _ (List.mem_of_getElem? (i := 26) rfl)) (hw _ (List.mem_of_getElem? (i := 4) rfl)) (by decide) (by decide)) qa8 qc8 (g := (mkF m 68 #[.val (.int p0), .val (.int p1), .val (.int p2), .val (.ref ar1), .val (.int (3 : Int32)), .val (.int (1 : Int32)), .val (.ref ob52), .unset, .unset, .unset, .unset, .unset, .unset, .unset] [(.ref ob52)])) rfl (by rw [hml]; rfl) (Steps.refl _) (argsL := []) (rest := []) (lenOf pd2 rfl) rfl (by show 2 * 0 + _ ≤ _; exact Nat.le_of_eq rfl) (hb hby at_68) (fun _ _ => ⟨rfl, rfl, (by decide : 2 + 0 ≤ _), (by decide : 7 + 0 ≤ _)⟩)
    dsimp only [Pt.U, Pt.locs, Pt.cells, Pt.slots] at X8 l8 y8 z8 st8 hQ8
    subst l8 y8 z8
    obtain ⟨rfl, Nq8, hh8⟩ := hQ8
    have N8 := Fr.app N7 Nq8
    refine Goes.go (fun _ kk => st8.trans kk) ?_
    show Goes _ _ _ _ _ _ _ (T8.setTop (mkF m 71 _ [(.int (1 : Int32))]))
    refine Goes.go (fun _ kk => XS.iload X8.here hx rfl (hb hby at_71) rfl kk) ?_
    show Goes _ _ _ _ _ _ _ (T8.setTop (mkF m 73 _ [(.int (1 : Int32)), (.int (1 : Int32))]))
    refine Goes.go (fun _ kk => XS.icmpNo X8.here hx rfl (hb hby at_73) rfl (XT.ii_ne_f (by decide)) kk) ?_
    show Goes _ _ _ _ _ _ _ (T8.setTop (mkF m 76 _ []))
    refine Goes.go (fun _ kk => XS.iconst X8.here hx rfl (hb hby at_76) kk) ?_
    show Goes _ _ _ _ _ _ _ (T8.setTop (mkF m 77 _ [(.int (1 : Int32))]))
    refine Goes.go (fun _ kk => XS.goto X8.here hx rfl (pc0 := 77) (pc' := 81) rfl (hb hby at_77) (by decide) (by decide) kk) ?_
    show Goes _ _ _ _ _ _ _ (T8.setTop (mkF m 81 _ [(.int (1 : Int32))]))
    refine Goes.go (fun _ kk => XS.istore X8.here hx rfl (hb hby at_81) rfl (l' := #[.val (.int p0), .val (.int p1), .val (.int p2), .val (.ref ar1), .val (.int (3 : Int32)), .val (.int (1 : Int32)), .val (.ref ob52), .val (.int (1 : Int32)), .unset, .unset, .unset, .unset, .unset, .unset]) rfl kk) ?_
    show Goes _ _ _ _ _ _ _ (T8.setTop (mkF m 83 #[.val (.int p0), .val (.int p1), .val (.int p2), .val (.ref ar1), .val (.int (3 : Int32)), .val (.int (1 : Int32)), .val (.ref ob52), .val (.int (1 : Int32)), .unset, .unset, .unset, .unset, .unset, .unset] []))
    refine Goes.go (fun _ kk => XS.aload X8.here hx rfl (hb hby at_83) rfl rfl kk) ?_
    show Goes _ _ _ _ _ _ _ (T8.setTop (mkF m 85 _ [(.ref ob52)]))
    obtain ⟨cq9, kq9, qa9, qb9, qc9⟩ := isOf hZ hh8 Eq7
    obtain ⟨_, _, ⟨T9, L9, k9, n9⟩, -, X9, ⟨Lc9, hQ9, l9, y9, z9⟩, st9⟩ := X8.virtualBack hx (y := (⟨"com/example/wide_schema/wideschema/io/BytesInput", "read", "()I"⟩ : MethodName)) (z := (⟨"com/example/wide_schema/wideschema/io/BytesInput", "read", "()I"⟩ : MethodName)) hown (mvT hZ (hw _ (List.mem_of_getElem? (i := 27) rfl))) (mvT hZ (hw _ (List.mem_of_getElem? (i := 28) rfl))) (notFace_of_selects (args := #[]) (mvT hZ (hw _ (List.mem_of_getElem? (i := 30) rfl)))) (mvT hZ (hw _ (List.mem_of_getElem? (i := 30) rfl))) (mvT hZ (hw _ (List.mem_of_getElem? (i := 29) rfl))) (by decide) (backOf (W := 0) (rmY l Z a0 hw [] ob52 ar1 _ (3 : Int32) (4 : Int32) (((p0).toUInt32 >>> ((24 : Int32) &&& 31).toUInt32).toInt32).toInt8.toInt32 T7.heap n0 Z7 Eq7 Fq7_0 Fq7_1 Fq7_2 ge_ob52 f_9 (by decide) (by decide) rfl) hZ (hw _ (List.mem_of_getElem? (i := 31) rfl)) (hw _ (List.mem_of_getElem? (i := 4) rfl)) (by decide) (by decide)) qa9 qc9 (g := (mkF m 85 #[.val (.int p0), .val (.int p1), .val (.int p2), .val (.ref ar1), .val (.int (3 : Int32)), .val (.int (1 : Int32)), .val (.ref ob52), .val (.int (1 : Int32)), .unset, .unset, .unset, .unset, .unset, .unset] [(.ref ob52)])) rfl (by rw [hml]; rfl) (Steps.refl _) (argsL := []) (rest := []) (lenOf pd2 rfl) rfl (by show 2 * 0 + _ ≤ _; exact Nat.le_of_eq rfl) (hb hby at_85) (fun _ _ => ⟨rfl, hh8, (by decide : 2 + 0 ≤ _), (by decide : 7 + 0 ≤ _)⟩)
    dsimp only [Pt.U, Pt.locs, Pt.cells, Pt.slots] at X9 l9 y9 z9 st9 hQ9
    subst l9 y9 z9
    obtain ⟨rfl, Nq9, Kq9, Eq9, Fq9_0, Fq9_1, Fq9_2⟩ := hQ9
    have N9 := Fr.app N8 Nq9
    have Z9 : n0 ≤ T9.heap.size := Nat.le_trans Z7 Kq9.1
    have f_10 := Arl.keep f_9 Kq9 (ninS ne_ar1_ob52 nin0)
    refine Goes.go (fun _ kk => st9.trans kk) ?_
    show Goes _ _ _ _ _ _ _ (T9.setTop (mkF m 88 _ [(.int ((((p0).toUInt32 >>> ((24 : Int32) &&& 31).toUInt32).toInt32).toInt8.toInt32 &&& (255 : Int32)))]))
    refine Goes.go (fun _ kk => XS.istore X9.here hx rfl (hb hby at_88) rfl (l' := #[.val (.int p0), .val (.int p1), .val (.int p2), .val (.ref ar1), .val (.int (3 : Int32)), .val (.int (1 : Int32)), .val (.ref ob52), .val (.int (1 : Int32)), .val (.int ((((p0).toUInt32 >>> ((24 : Int32) &&& 31).toUInt32).toInt32).toInt8.toInt32 &&& (255 : Int32))), .unset, .unset, .unset, .unset, .unset]) rfl kk) ?_
    show Goes _ _ _ _ _ _ _ (T9.setTop (mkF m 90 #[.val (.int p0), .val (.int p1), .val (.int p2), .val (.ref ar1), .val (.int (3 : Int32)), .val (.int (1 : Int32)), .val (.ref ob52), .val (.int (1 : Int32)), .val (.int ((((p0).toUInt32 >>> ((24 : Int32) &&& 31).toUInt32).toInt32).toInt8.toInt32 &&& (255 : Int32))), .unset, .unset, .unset, .unset, .unset] []))
    refine Goes.go (fun _ kk => XS.aload X9.here hx rfl (hb hby at_90) rfl rfl kk) ?_
    show Goes _ _ _ _ _ _ _ (T9.setTop (mkF m 92 _ [(.ref ob52)]))
    obtain ⟨cq10, kq10, qa10, qb10, qc10⟩ := isOf hZ rfl Eq9
    obtain ⟨_, _, ⟨T10, L10, k10, n10⟩, -, X10, ⟨Lc10, hQ10, l10, y10, z10⟩, st10⟩ := X9.virtualBack hx (y := (⟨"com/example/wide_schema/wideschema/io/BytesInput", "read", "()I"⟩ : MethodName)) (z := (⟨"com/example/wide_schema/wideschema/io/BytesInput", "read", "()I"⟩ : MethodName)) hown (mvT hZ (hw _ (List.mem_of_getElem? (i := 27) rfl))) (mvT hZ (hw _ (List.mem_of_getElem? (i := 28) rfl))) (notFace_of_selects (args := #[]) (mvT hZ (hw _ (List.mem_of_getElem? (i := 30) rfl)))) (mvT hZ (hw _ (List.mem_of_getElem? (i := 30) rfl))) (mvT hZ (hw _ (List.mem_of_getElem? (i := 29) rfl))) (by decide) (backOf (W := 0) (rmN l Z a0 hw [] ob52 (4 : Int32) (4 : Int32) T9.heap n0 Z9 Fq9_1 Fq9_2 (by decide)) hZ (hw _ (List.mem_of_getElem? (i := 31) rfl)) (hw _ (List.mem_of_getElem? (i := 4) rfl)) (by decide) (by decide)) qa10 qc10 (g := (mkF m 92 #[.val (.int p0), .val (.int p1), .val (.int p2), .val (.ref ar1), .val (.int (3 : Int32)), .val (.int (1 : Int32)), .val (.ref ob52), .val (.int (1 : Int32)), .val (.int ((((p0).toUInt32 >>> ((24 : Int32) &&& 31).toUInt32).toInt32).toInt8.toInt32 &&& (255 : Int32))), .unset, .unset, .unset, .unset, .unset] [(.ref ob52)])) rfl (by rw [hml]; rfl) (Steps.refl _) (argsL := []) (rest := []) (lenOf pd2 rfl) rfl (by show 2 * 0 + _ ≤ _; exact Nat.le_of_eq rfl) (hb hby at_92) (fun _ _ => ⟨rfl, rfl, (by decide : 2 + 0 ≤ _), (by decide : 7 + 0 ≤ _)⟩)
    dsimp only [Pt.U, Pt.locs, Pt.cells, Pt.slots] at X10 l10 y10 z10 st10 hQ10
    subst l10 y10 z10
    obtain ⟨rfl, Nq10, hh10⟩ := hQ10
    have N10 := Fr.app N9 Nq10
    refine Goes.go (fun _ kk => st10.trans kk) ?_
    show Goes _ _ _ _ _ _ _ (T10.setTop (mkF m 95 _ [(.int (-1 : Int32))]))
    refine Goes.go (fun _ kk => XS.istore X10.here hx rfl (hb hby at_95) rfl (l' := #[.val (.int p0), .val (.int p1), .val (.int p2), .val (.ref ar1), .val (.int (3 : Int32)), .val (.int (1 : Int32)), .val (.ref ob52), .val (.int (1 : Int32)), .val (.int ((((p0).toUInt32 >>> ((24 : Int32) &&& 31).toUInt32).toInt32).toInt8.toInt32 &&& (255 : Int32))), .val (.int (-1 : Int32)), .unset, .unset, .unset, .unset]) rfl kk) ?_
    show Goes _ _ _ _ _ _ _ (T10.setTop (mkF m 97 #[.val (.int p0), .val (.int p1), .val (.int p2), .val (.ref ar1), .val (.int (3 : Int32)), .val (.int (1 : Int32)), .val (.ref ob52), .val (.int (1 : Int32)), .val (.int ((((p0).toUInt32 >>> ((24 : Int32) &&& 31).toUInt32).toInt32).toInt8.toInt32 &&& (255 : Int32))), .val (.int (-1 : Int32)), .unset, .unset, .unset, .unset] []))
    refine Goes.go (fun _ kk => XS.aload X10.here hx rfl (hb hby at_97) rfl rfl kk) ?_
    show Goes _ _ _ _ _ _ _ (T10.setTop (mkF m 99 _ [(.ref ob52)]))
    obtain ⟨cq11, kq11, qa11, qb11, qc11⟩ := isOf hZ hh10 Eq9
    obtain ⟨_, _, ⟨T11, L11, k11, n11⟩, -, X11, ⟨Lc11, hQ11, l11, y11, z11⟩, st11⟩ := X10.virtualBack hx (y := (⟨"com/example/wide_schema/wideschema/io/BytesInput", "read", "()I"⟩ : MethodName)) (z := (⟨"com/example/wide_schema/wideschema/io/BytesInput", "read", "()I"⟩ : MethodName)) hown (mvT hZ (hw _ (List.mem_of_getElem? (i := 27) rfl))) (mvT hZ (hw _ (List.mem_of_getElem? (i := 28) rfl))) (notFace_of_selects (args := #[]) (mvT hZ (hw _ (List.mem_of_getElem? (i := 30) rfl)))) (mvT hZ (hw _ (List.mem_of_getElem? (i := 30) rfl))) (mvT hZ (hw _ (List.mem_of_getElem? (i := 29) rfl))) (by decide) (backOf (W := 0) (rmN l Z a0 hw [] ob52 (4 : Int32) (4 : Int32) T9.heap n0 Z9 Fq9_1 Fq9_2 (by decide)) hZ (hw _ (List.mem_of_getElem? (i := 31) rfl)) (hw _ (List.mem_of_getElem? (i := 4) rfl)) (by decide) (by decide)) qa11 qc11 (g := (mkF m 99 #[.val (.int p0), .val (.int p1), .val (.int p2), .val (.ref ar1), .val (.int (3 : Int32)), .val (.int (1 : Int32)), .val (.ref ob52), .val (.int (1 : Int32)), .val (.int ((((p0).toUInt32 >>> ((24 : Int32) &&& 31).toUInt32).toInt32).toInt8.toInt32 &&& (255 : Int32))), .val (.int (-1 : Int32)), .unset, .unset, .unset, .unset] [(.ref ob52)])) rfl (by rw [hml]; rfl) (Steps.refl _) (argsL := []) (rest := []) (lenOf pd2 rfl) rfl (by show 2 * 0 + _ ≤ _; exact Nat.le_of_eq rfl) (hb hby at_99) (fun _ _ => ⟨rfl, hh10, (by decide : 2 + 0 ≤ _), (by decide : 7 + 0 ≤ _)⟩)
    dsimp only [Pt.U, Pt.locs, Pt.cells, Pt.slots] at X11 l11 y11 z11 st11 hQ11
    subst l11 y11 z11
    obtain ⟨rfl, Nq11, hh11⟩ := hQ11
    have N11 := Fr.app N10 Nq11
    refine Goes.go (fun _ kk => st11.trans kk) ?_
    show Goes _ _ _ _ _ _ _ (T11.setTop (mkF m 102 _ [(.int (-1 : Int32))]))
    refine Goes.go (fun _ kk => XS.istore X11.here hx rfl (hb hby at_102) rfl (l' := #[.val (.int p0), .val (.int p1), .val (.int p2), .val (.ref ar1), .val (.int (3 : Int32)), .val (.int (1 : Int32)), .val (.ref ob52), .val (.int (1 : Int32)), .val (.int ((((p0).toUInt32 >>> ((24 : Int32) &&& 31).toUInt32).toInt32).toInt8.toInt32 &&& (255 : Int32))), .val (.int (-1 : Int32)), .val (.int (-1 : Int32)), .unset, .unset, .unset]) rfl kk) ?_
    show Goes _ _ _ _ _ _ _ (T11.setTop (mkF m 104 #[.val (.int p0), .val (.int p1), .val (.int p2), .val (.ref ar1), .val (.int (3 : Int32)), .val (.int (1 : Int32)), .val (.ref ob52), .val (.int (1 : Int32)), .val (.int ((((p0).toUInt32 >>> ((24 : Int32) &&& 31).toUInt32).toInt32).toInt8.toInt32 &&& (255 : Int32))), .val (.int (-1 : Int32)), .val (.int (-1 : Int32)), .unset, .unset, .unset] []))
    refine Goes.go (fun _ kk => XS.aload X11.here hx rfl (hb hby at_104) rfl rfl kk) ?_
    show Goes _ _ _ _ _ _ _ (T11.setTop (mkF m 106 _ [(.ref ob52)]))
    obtain ⟨cq12, kq12, qa12, qb12, qc12⟩ := isOf hZ hh11 Eq9
    obtain ⟨_, _, ⟨T12, L12, k12, n12⟩, -, X12, ⟨Lc12, hQ12, l12, y12, z12⟩, st12⟩ := X11.virtualBack hx (y := (⟨"com/example/wide_schema/wideschema/io/BytesInput", "read", "()I"⟩ : MethodName)) (z := (⟨"com/example/wide_schema/wideschema/io/BytesInput", "read", "()I"⟩ : MethodName)) hown (mvT hZ (hw _ (List.mem_of_getElem? (i := 27) rfl))) (mvT hZ (hw _ (List.mem_of_getElem? (i := 28) rfl))) (notFace_of_selects (args := #[]) (mvT hZ (hw _ (List.mem_of_getElem? (i := 30) rfl)))) (mvT hZ (hw _ (List.mem_of_getElem? (i := 30) rfl))) (mvT hZ (hw _ (List.mem_of_getElem? (i := 29) rfl))) (by decide) (backOf (W := 0) (rmN l Z a0 hw [] ob52 (4 : Int32) (4 : Int32) T9.heap n0 Z9 Fq9_1 Fq9_2 (by decide)) hZ (hw _ (List.mem_of_getElem? (i := 31) rfl)) (hw _ (List.mem_of_getElem? (i := 4) rfl)) (by decide) (by decide)) qa12 qc12 (g := (mkF m 106 #[.val (.int p0), .val (.int p1), .val (.int p2), .val (.ref ar1), .val (.int (3 : Int32)), .val (.int (1 : Int32)), .val (.ref ob52), .val (.int (1 : Int32)), .val (.int ((((p0).toUInt32 >>> ((24 : Int32) &&& 31).toUInt32).toInt32).toInt8.toInt32 &&& (255 : Int32))), .val (.int (-1 : Int32)), .val (.int (-1 : Int32)), .unset, .unset, .unset] [(.ref ob52)])) rfl (by rw [hml]; rfl) (Steps.refl _) (argsL := []) (rest := []) (lenOf pd2 rfl) rfl (by show 2 * 0 + _ ≤ _; exact Nat.le_of_eq rfl) (hb hby at_106) (fun _ _ => ⟨rfl, hh11, (by decide : 2 + 0 ≤ _), (by decide : 7 + 0 ≤ _)⟩)
    dsimp only [Pt.U, Pt.locs, Pt.cells, Pt.slots] at X12 l12 y12 z12 st12 hQ12
    subst l12 y12 z12
    obtain ⟨rfl, Nq12, hh12⟩ := hQ12
    have N12 := Fr.app N11 Nq12
    refine Goes.go (fun _ kk => st12.trans kk) ?_
    show Goes _ _ _ _ _ _ _ (T12.setTop (mkF m 109 _ [(.int (-1 : Int32))]))
    refine Goes.go (fun _ kk => XS.istore X12.here hx rfl (hb hby at_109) rfl (l' := #[.val (.int p0), .val (.int p1), .val (.int p2), .val (.ref ar1), .val (.int (3 : Int32)), .val (.int (1 : Int32)), .val (.ref ob52), .val (.int (1 : Int32)), .val (.int ((((p0).toUInt32 >>> ((24 : Int32) &&& 31).toUInt32).toInt32).toInt8.toInt32 &&& (255 : Int32))), .val (.int (-1 : Int32)), .val (.int (-1 : Int32)), .val (.int (-1 : Int32)), .unset, .unset]) rfl kk) ?_
    show Goes _ _ _ _ _ _ _ (T12.setTop (mkF m 111 #[.val (.int p0), .val (.int p1), .val (.int p2), .val (.ref ar1), .val (.int (3 : Int32)), .val (.int (1 : Int32)), .val (.ref ob52), .val (.int (1 : Int32)), .val (.int ((((p0).toUInt32 >>> ((24 : Int32) &&& 31).toUInt32).toInt32).toInt8.toInt32 &&& (255 : Int32))), .val (.int (-1 : Int32)), .val (.int (-1 : Int32)), .val (.int (-1 : Int32)), .unset, .unset] []))
    refine Goes.go (fun _ kk => XS.aload X12.here hx rfl (hb hby at_111) rfl rfl kk) ?_
    show Goes _ _ _ _ _ _ _ (T12.setTop (mkF m 113 _ [(.ref ob52)]))
    obtain ⟨cq13, kq13, qa13, qb13, qc13⟩ := isOf hZ hh12 Eq9
    obtain ⟨_, _, ⟨T13, L13, k13, n13⟩, -, X13, ⟨Lc13, hQ13, l13, y13, z13⟩, st13⟩ := X12.virtualBack hx (y := (⟨"com/example/wide_schema/wideschema/io/BytesInput", "read", "()I"⟩ : MethodName)) (z := (⟨"com/example/wide_schema/wideschema/io/BytesInput", "read", "()I"⟩ : MethodName)) hown (mvT hZ (hw _ (List.mem_of_getElem? (i := 27) rfl))) (mvT hZ (hw _ (List.mem_of_getElem? (i := 28) rfl))) (notFace_of_selects (args := #[]) (mvT hZ (hw _ (List.mem_of_getElem? (i := 30) rfl)))) (mvT hZ (hw _ (List.mem_of_getElem? (i := 30) rfl))) (mvT hZ (hw _ (List.mem_of_getElem? (i := 29) rfl))) (by decide) (backOf (W := 0) (rmN l Z a0 hw [] ob52 (4 : Int32) (4 : Int32) T9.heap n0 Z9 Fq9_1 Fq9_2 (by decide)) hZ (hw _ (List.mem_of_getElem? (i := 31) rfl)) (hw _ (List.mem_of_getElem? (i := 4) rfl)) (by decide) (by decide)) qa13 qc13 (g := (mkF m 113 #[.val (.int p0), .val (.int p1), .val (.int p2), .val (.ref ar1), .val (.int (3 : Int32)), .val (.int (1 : Int32)), .val (.ref ob52), .val (.int (1 : Int32)), .val (.int ((((p0).toUInt32 >>> ((24 : Int32) &&& 31).toUInt32).toInt32).toInt8.toInt32 &&& (255 : Int32))), .val (.int (-1 : Int32)), .val (.int (-1 : Int32)), .val (.int (-1 : Int32)), .unset, .unset] [(.ref ob52)])) rfl (by rw [hml]; rfl) (Steps.refl _) (argsL := []) (rest := []) (lenOf pd2 rfl) rfl (by show 2 * 0 + _ ≤ _; exact Nat.le_of_eq rfl) (hb hby at_113) (fun _ _ => ⟨rfl, hh12, (by decide : 2 + 0 ≤ _), (by decide : 7 + 0 ≤ _)⟩)
    dsimp only [Pt.U, Pt.locs, Pt.cells, Pt.slots] at X13 l13 y13 z13 st13 hQ13
    subst l13 y13 z13
    obtain ⟨rfl, Nq13, hh13⟩ := hQ13
    have N13 := Fr.app N12 Nq13
    refine Goes.go (fun _ kk => st13.trans kk) ?_
    show Goes _ _ _ _ _ _ _ (T13.setTop (mkF m 116 _ [(.int (-1 : Int32))]))
    refine Goes.go (fun _ kk => XS.istore X13.here hx rfl (hb hby at_116) rfl (l' := #[.val (.int p0), .val (.int p1), .val (.int p2), .val (.ref ar1), .val (.int (3 : Int32)), .val (.int (1 : Int32)), .val (.ref ob52), .val (.int (1 : Int32)), .val (.int ((((p0).toUInt32 >>> ((24 : Int32) &&& 31).toUInt32).toInt32).toInt8.toInt32 &&& (255 : Int32))), .val (.int (-1 : Int32)), .val (.int (-1 : Int32)), .val (.int (-1 : Int32)), .val (.int (-1 : Int32)), .unset]) rfl kk) ?_
    show Goes _ _ _ _ _ _ _ (T13.setTop (mkF m 118 #[.val (.int p0), .val (.int p1), .val (.int p2), .val (.ref ar1), .val (.int (3 : Int32)), .val (.int (1 : Int32)), .val (.ref ob52), .val (.int (1 : Int32)), .val (.int ((((p0).toUInt32 >>> ((24 : Int32) &&& 31).toUInt32).toInt32).toInt8.toInt32 &&& (255 : Int32))), .val (.int (-1 : Int32)), .val (.int (-1 : Int32)), .val (.int (-1 : Int32)), .val (.int (-1 : Int32)), .unset] []))
    refine Goes.go (fun _ kk => XS.aload X13.here hx rfl (hb hby at_118) rfl rfl kk) ?_
    show Goes _ _ _ _ _ _ _ (T13.setTop (mkF m 120 _ [(.ref ob52)]))
    obtain ⟨cq14, kq14, qa14, qb14, qc14⟩ := isOf hZ hh13 Eq9
    obtain ⟨_, _, ⟨T14, L14, k14, n14⟩, -, X14, ⟨Lc14, hQ14, l14, y14, z14⟩, st14⟩ := X13.virtualBack hx (y := (⟨"com/example/wide_schema/wideschema/io/BytesInput", "read", "()I"⟩ : MethodName)) (z := (⟨"com/example/wide_schema/wideschema/io/BytesInput", "read", "()I"⟩ : MethodName)) hown (mvT hZ (hw _ (List.mem_of_getElem? (i := 27) rfl))) (mvT hZ (hw _ (List.mem_of_getElem? (i := 28) rfl))) (notFace_of_selects (args := #[]) (mvT hZ (hw _ (List.mem_of_getElem? (i := 30) rfl)))) (mvT hZ (hw _ (List.mem_of_getElem? (i := 30) rfl))) (mvT hZ (hw _ (List.mem_of_getElem? (i := 29) rfl))) (by decide) (backOf (W := 0) (rmN l Z a0 hw [] ob52 (4 : Int32) (4 : Int32) T9.heap n0 Z9 Fq9_1 Fq9_2 (by decide)) hZ (hw _ (List.mem_of_getElem? (i := 31) rfl)) (hw _ (List.mem_of_getElem? (i := 4) rfl)) (by decide) (by decide)) qa14 qc14 (g := (mkF m 120 #[.val (.int p0), .val (.int p1), .val (.int p2), .val (.ref ar1), .val (.int (3 : Int32)), .val (.int (1 : Int32)), .val (.ref ob52), .val (.int (1 : Int32)), .val (.int ((((p0).toUInt32 >>> ((24 : Int32) &&& 31).toUInt32).toInt32).toInt8.toInt32 &&& (255 : Int32))), .val (.int (-1 : Int32)), .val (.int (-1 : Int32)), .val (.int (-1 : Int32)), .val (.int (-1 : Int32)), .unset] [(.ref ob52)])) rfl (by rw [hml]; rfl) (Steps.refl _) (argsL := []) (rest := []) (lenOf pd2 rfl) rfl (by show 2 * 0 + _ ≤ _; exact Nat.le_of_eq rfl) (hb hby at_120) (fun _ _ => ⟨rfl, hh13, (by decide : 2 + 0 ≤ _), (by decide : 7 + 0 ≤ _)⟩)
    dsimp only [Pt.U, Pt.locs, Pt.cells, Pt.slots] at X14 l14 y14 z14 st14 hQ14
    subst l14 y14 z14
    obtain ⟨rfl, Nq14, hh14⟩ := hQ14
    have N14 := Fr.app N13 Nq14
    refine Goes.go (fun _ kk => st14.trans kk) ?_
    show Goes _ _ _ _ _ _ _ (T14.setTop (mkF m 123 _ [(.int (-1 : Int32))]))
    refine Goes.go (fun _ kk => XS.istore X14.here hx rfl (hb hby at_123) rfl (l' := #[.val (.int p0), .val (.int p1), .val (.int p2), .val (.ref ar1), .val (.int (3 : Int32)), .val (.int (1 : Int32)), .val (.ref ob52), .val (.int (1 : Int32)), .val (.int ((((p0).toUInt32 >>> ((24 : Int32) &&& 31).toUInt32).toInt32).toInt8.toInt32 &&& (255 : Int32))), .val (.int (-1 : Int32)), .val (.int (-1 : Int32)), .val (.int (-1 : Int32)), .val (.int (-1 : Int32)), .val (.int (-1 : Int32))]) rfl kk) ?_
    show Goes _ _ _ _ _ _ _ (T14.setTop (mkF m 125 #[.val (.int p0), .val (.int p1), .val (.int p2), .val (.ref ar1), .val (.int (3 : Int32)), .val (.int (1 : Int32)), .val (.ref ob52), .val (.int (1 : Int32)), .val (.int ((((p0).toUInt32 >>> ((24 : Int32) &&& 31).toUInt32).toInt32).toInt8.toInt32 &&& (255 : Int32))), .val (.int (-1 : Int32)), .val (.int (-1 : Int32)), .val (.int (-1 : Int32)), .val (.int (-1 : Int32)), .val (.int (-1 : Int32))] []))
    refine Goes.go (fun _ kk => XS.iload X14.here hx rfl (hb hby at_125) rfl kk) ?_
    show Goes _ _ _ _ _ _ _ (T14.setTop (mkF m 127 _ [(.int (1 : Int32))]))
    refine Goes.go (fun _ kk => XS.ifNo X14.here hx rfl (hb hby at_127) rfl (XT.i0_eq_f (by decide)) kk) ?_
    show Goes _ _ _ _ _ _ _ (T14.setTop (mkF m 130 _ []))
    refine Goes.go (fun _ kk => XS.iload X14.here hx rfl (hb hby at_130) rfl kk) ?_
    show Goes _ _ _ _ _ _ _ (T14.setTop (mkF m 132 _ [(.int ((((p0).toUInt32 >>> ((24 : Int32) &&& 31).toUInt32).toInt32).toInt8.toInt32 &&& (255 : Int32)))]))
    refine Goes.go (fun _ kk => XS.iloadN X14.here hx rfl (hb hby at_132) rfl kk) ?_
    show Goes _ _ _ _ _ _ _ (T14.setTop (mkF m 133 _ [(.int p0), (.int ((((p0).toUInt32 >>> ((24 : Int32) &&& 31).toUInt32).toInt32).toInt8.toInt32 &&& (255 : Int32)))]))
    refine Goes.go (fun _ kk => XS.iload X14.here hx rfl (hb hby at_133) rfl kk) ?_
    show Goes _ _ _ _ _ _ _ (T14.setTop (mkF m 135 _ [(.int (3 : Int32)), (.int p0), (.int ((((p0).toUInt32 >>> ((24 : Int32) &&& 31).toUInt32).toInt32).toInt8.toInt32 &&& (255 : Int32)))]))
    refine Goes.go (fun _ kk => XS.iload X14.here hx rfl (hb hby at_135) rfl kk) ?_
    show Goes _ _ _ _ _ _ _ (T14.setTop (mkF m 137 _ [(.int (1 : Int32)), (.int (3 : Int32)), (.int p0), (.int ((((p0).toUInt32 >>> ((24 : Int32) &&& 31).toUInt32).toInt32).toInt8.toInt32 &&& (255 : Int32)))]))
    refine Goes.go (fun _ kk => XS.iconst X14.here hx rfl (hb hby at_137) kk) ?_
    show Goes _ _ _ _ _ _ _ (T14.setTop (mkF m 138 _ [(.int (0 : Int32)), (.int (1 : Int32)), (.int (3 : Int32)), (.int p0), (.int ((((p0).toUInt32 >>> ((24 : Int32) &&& 31).toUInt32).toInt32).toInt8.toInt32 &&& (255 : Int32)))]))
    obtain ⟨_, _, ⟨T15, L15, k15, n15⟩, -, X15, ⟨Lc15, hQ15, l15, y15, z15⟩, st15⟩ := Jvm.LawKit.callS X14 hx (y := (⟨"com/example/wide_schema/wideschema/io/BytesInputReadPinLaw", "exp", "(IIII)I"⟩ : MethodName)) hown (mvT hZ (hw _ (List.mem_of_getElem? (i := 32) rfl))) (mvT hZ (hw _ (List.mem_of_getElem? (i := 33) rfl))) (mvT hZ (hw _ (List.mem_of_getElem? (i := 34) rfl))) (mvT hZ (hw _ (List.mem_of_getElem? (i := 35) rfl))) (by decide) (backOf (W := 1) (rm5 l Z a0 hw [] p0 (3 : Int32) (1 : Int32) (0 : Int32) T9.heap n0 Z9) hZ (hw _ (List.mem_of_getElem? (i := 35) rfl)) (hw _ (List.mem_of_getElem? (i := 34) rfl)) (by decide) (by decide)) (g := (mkF m 138 #[.val (.int p0), .val (.int p1), .val (.int p2), .val (.ref ar1), .val (.int (3 : Int32)), .val (.int (1 : Int32)), .val (.ref ob52), .val (.int (1 : Int32)), .val (.int ((((p0).toUInt32 >>> ((24 : Int32) &&& 31).toUInt32).toInt32).toInt8.toInt32 &&& (255 : Int32))), .val (.int (-1 : Int32)), .val (.int (-1 : Int32)), .val (.int (-1 : Int32)), .val (.int (-1 : Int32)), .val (.int (-1 : Int32))] [(.int (0 : Int32)), (.int (1 : Int32)), (.int (3 : Int32)), (.int p0), (.int ((((p0).toUInt32 >>> ((24 : Int32) &&& 31).toUInt32).toInt32).toInt8.toInt32 &&& (255 : Int32)))])) rfl (by rw [hml]; rfl) (argsL := [(.int p0), (.int (3 : Int32)), (.int (1 : Int32)), (.int (0 : Int32))]) (rest := [(.int ((((p0).toUInt32 >>> ((24 : Int32) &&& 31).toUInt32).toInt32).toInt8.toInt32 &&& (255 : Int32)))]) (lenOf pd3 rfl) rfl (by show 2 * 0 + _ ≤ _; exact Nat.le_of_eq rfl) (hb hby at_138) (fun _ _ => ⟨rfl, hh14, (by decide : 2 + 0 ≤ _), (by decide : 7 + 0 ≤ _)⟩)
    dsimp only [Pt.U, Pt.locs, Pt.cells, Pt.slots] at X15 l15 y15 z15 st15 hQ15
    subst l15 y15 z15
    obtain ⟨rfl, Nq15, hh15⟩ := hQ15
    have N15 := Fr.app N14 Nq15
    refine Goes.go (st15) ?_
    show Goes _ _ _ _ _ _ _ (T15.setTop (mkF m 141 _ [(.int (exF p0 (3 : Int32) (1 : Int32) (0 : Int32))), (.int ((((p0).toUInt32 >>> ((24 : Int32) &&& 31).toUInt32).toInt32).toInt8.toInt32 &&& (255 : Int32)))]))
    refine Goes.go (fun _ kk => XS.icmpNo X15.here hx rfl (hb hby at_141) rfl (XT.ii_ne_f (own_n (24 : Int32) (by decide) (by decide))) kk) ?_
    show Goes _ _ _ _ _ _ _ (T15.setTop (mkF m 144 _ []))
    refine Goes.go (fun _ kk => XS.iconst X15.here hx rfl (hb hby at_144) kk) ?_
    show Goes _ _ _ _ _ _ _ (T15.setTop (mkF m 145 _ [(.int (1 : Int32))]))
    refine Goes.go (fun _ kk => XS.goto X15.here hx rfl (pc0 := 145) (pc' := 149) rfl (hb hby at_145) (by decide) (by decide) kk) ?_
    show Goes _ _ _ _ _ _ _ (T15.setTop (mkF m 149 _ [(.int (1 : Int32))]))
    refine Goes.go (fun _ kk => XS.istore X15.here hx rfl (hb hby at_149) rfl (l' := #[.val (.int p0), .val (.int p1), .val (.int p2), .val (.ref ar1), .val (.int (3 : Int32)), .val (.int (1 : Int32)), .val (.ref ob52), .val (.int (1 : Int32)), .val (.int ((((p0).toUInt32 >>> ((24 : Int32) &&& 31).toUInt32).toInt32).toInt8.toInt32 &&& (255 : Int32))), .val (.int (-1 : Int32)), .val (.int (-1 : Int32)), .val (.int (-1 : Int32)), .val (.int (-1 : Int32)), .val (.int (-1 : Int32))]) rfl kk) ?_
    show Goes _ _ _ _ _ _ _ (T15.setTop (mkF m 151 _ []))
    refine Goes.go (fun _ kk => XS.iload X15.here hx rfl (hb hby at_151) rfl kk) ?_
    show Goes _ _ _ _ _ _ _ (T15.setTop (mkF m 153 _ [(.int (1 : Int32))]))
    refine Goes.go (fun _ kk => XS.ifNo X15.here hx rfl (hb hby at_153) rfl (XT.i0_eq_f (by decide)) kk) ?_
    show Goes _ _ _ _ _ _ _ (T15.setTop (mkF m 156 _ []))
    refine Goes.go (fun _ kk => XS.iload X15.here hx rfl (hb hby at_156) rfl kk) ?_
    show Goes _ _ _ _ _ _ _ (T15.setTop (mkF m 158 _ [(.int (-1 : Int32))]))
    refine Goes.go (fun _ kk => XS.iloadN X15.here hx rfl (hb hby at_158) rfl kk) ?_
    show Goes _ _ _ _ _ _ _ (T15.setTop (mkF m 159 _ [(.int p0), (.int (-1 : Int32))]))
    refine Goes.go (fun _ kk => XS.iload X15.here hx rfl (hb hby at_159) rfl kk) ?_
    show Goes _ _ _ _ _ _ _ (T15.setTop (mkF m 161 _ [(.int (3 : Int32)), (.int p0), (.int (-1 : Int32))]))
    refine Goes.go (fun _ kk => XS.iload X15.here hx rfl (hb hby at_161) rfl kk) ?_
    show Goes _ _ _ _ _ _ _ (T15.setTop (mkF m 163 _ [(.int (1 : Int32)), (.int (3 : Int32)), (.int p0), (.int (-1 : Int32))]))
    refine Goes.go (fun _ kk => XS.iconst X15.here hx rfl (hb hby at_163) kk) ?_
    show Goes _ _ _ _ _ _ _ (T15.setTop (mkF m 164 _ [(.int (1 : Int32)), (.int (1 : Int32)), (.int (3 : Int32)), (.int p0), (.int (-1 : Int32))]))
    obtain ⟨_, _, ⟨T16, L16, k16, n16⟩, -, X16, ⟨Lc16, hQ16, l16, y16, z16⟩, st16⟩ := Jvm.LawKit.callS X15 hx (y := (⟨"com/example/wide_schema/wideschema/io/BytesInputReadPinLaw", "exp", "(IIII)I"⟩ : MethodName)) hown (mvT hZ (hw _ (List.mem_of_getElem? (i := 32) rfl))) (mvT hZ (hw _ (List.mem_of_getElem? (i := 33) rfl))) (mvT hZ (hw _ (List.mem_of_getElem? (i := 34) rfl))) (mvT hZ (hw _ (List.mem_of_getElem? (i := 35) rfl))) (by decide) (backOf (W := 1) (rm5 l Z a0 hw [] p0 (3 : Int32) (1 : Int32) (1 : Int32) T9.heap n0 Z9) hZ (hw _ (List.mem_of_getElem? (i := 35) rfl)) (hw _ (List.mem_of_getElem? (i := 34) rfl)) (by decide) (by decide)) (g := (mkF m 164 #[.val (.int p0), .val (.int p1), .val (.int p2), .val (.ref ar1), .val (.int (3 : Int32)), .val (.int (1 : Int32)), .val (.ref ob52), .val (.int (1 : Int32)), .val (.int ((((p0).toUInt32 >>> ((24 : Int32) &&& 31).toUInt32).toInt32).toInt8.toInt32 &&& (255 : Int32))), .val (.int (-1 : Int32)), .val (.int (-1 : Int32)), .val (.int (-1 : Int32)), .val (.int (-1 : Int32)), .val (.int (-1 : Int32))] [(.int (1 : Int32)), (.int (1 : Int32)), (.int (3 : Int32)), (.int p0), (.int (-1 : Int32))])) rfl (by rw [hml]; rfl) (argsL := [(.int p0), (.int (3 : Int32)), (.int (1 : Int32)), (.int (1 : Int32))]) (rest := [(.int (-1 : Int32))]) (lenOf pd3 rfl) rfl (by show 2 * 0 + _ ≤ _; exact Nat.le_of_eq rfl) (hb hby at_164) (fun _ _ => ⟨rfl, hh15, (by decide : 2 + 0 ≤ _), (by decide : 7 + 0 ≤ _)⟩)
    dsimp only [Pt.U, Pt.locs, Pt.cells, Pt.slots] at X16 l16 y16 z16 st16 hQ16
    subst l16 y16 z16
    obtain ⟨rfl, Nq16, hh16⟩ := hQ16
    have N16 := Fr.app N15 Nq16
    refine Goes.go (st16) ?_
    show Goes _ _ _ _ _ _ _ (T16.setTop (mkF m 167 _ [(.int (exF p0 (3 : Int32) (1 : Int32) (1 : Int32))), (.int (-1 : Int32))]))
    refine Goes.go (fun _ kk => XS.icmpNo X16.here hx rfl (hb hby at_167) rfl (XT.ii_ne_f (own_m (by decide))) kk) ?_
    show Goes _ _ _ _ _ _ _ (T16.setTop (mkF m 170 _ []))
    refine Goes.go (fun _ kk => XS.iconst X16.here hx rfl (hb hby at_170) kk) ?_
    show Goes _ _ _ _ _ _ _ (T16.setTop (mkF m 171 _ [(.int (1 : Int32))]))
    refine Goes.go (fun _ kk => XS.goto X16.here hx rfl (pc0 := 171) (pc' := 175) rfl (hb hby at_171) (by decide) (by decide) kk) ?_
    show Goes _ _ _ _ _ _ _ (T16.setTop (mkF m 175 _ [(.int (1 : Int32))]))
    refine Goes.go (fun _ kk => XS.istore X16.here hx rfl (hb hby at_175) rfl (l' := #[.val (.int p0), .val (.int p1), .val (.int p2), .val (.ref ar1), .val (.int (3 : Int32)), .val (.int (1 : Int32)), .val (.ref ob52), .val (.int (1 : Int32)), .val (.int ((((p0).toUInt32 >>> ((24 : Int32) &&& 31).toUInt32).toInt32).toInt8.toInt32 &&& (255 : Int32))), .val (.int (-1 : Int32)), .val (.int (-1 : Int32)), .val (.int (-1 : Int32)), .val (.int (-1 : Int32)), .val (.int (-1 : Int32))]) rfl kk) ?_
    show Goes _ _ _ _ _ _ _ (T16.setTop (mkF m 177 _ []))
    refine Goes.go (fun _ kk => XS.iload X16.here hx rfl (hb hby at_177) rfl kk) ?_
    show Goes _ _ _ _ _ _ _ (T16.setTop (mkF m 179 _ [(.int (1 : Int32))]))
    refine Goes.go (fun _ kk => XS.ifNo X16.here hx rfl (hb hby at_179) rfl (XT.i0_eq_f (by decide)) kk) ?_
    show Goes _ _ _ _ _ _ _ (T16.setTop (mkF m 182 _ []))
    refine Goes.go (fun _ kk => XS.iload X16.here hx rfl (hb hby at_182) rfl kk) ?_
    show Goes _ _ _ _ _ _ _ (T16.setTop (mkF m 184 _ [(.int (-1 : Int32))]))
    refine Goes.go (fun _ kk => XS.iloadN X16.here hx rfl (hb hby at_184) rfl kk) ?_
    show Goes _ _ _ _ _ _ _ (T16.setTop (mkF m 185 _ [(.int p0), (.int (-1 : Int32))]))
    refine Goes.go (fun _ kk => XS.iload X16.here hx rfl (hb hby at_185) rfl kk) ?_
    show Goes _ _ _ _ _ _ _ (T16.setTop (mkF m 187 _ [(.int (3 : Int32)), (.int p0), (.int (-1 : Int32))]))
    refine Goes.go (fun _ kk => XS.iload X16.here hx rfl (hb hby at_187) rfl kk) ?_
    show Goes _ _ _ _ _ _ _ (T16.setTop (mkF m 189 _ [(.int (1 : Int32)), (.int (3 : Int32)), (.int p0), (.int (-1 : Int32))]))
    refine Goes.go (fun _ kk => XS.iconst X16.here hx rfl (hb hby at_189) kk) ?_
    show Goes _ _ _ _ _ _ _ (T16.setTop (mkF m 190 _ [(.int (2 : Int32)), (.int (1 : Int32)), (.int (3 : Int32)), (.int p0), (.int (-1 : Int32))]))
    obtain ⟨_, _, ⟨T17, L17, k17, n17⟩, -, X17, ⟨Lc17, hQ17, l17, y17, z17⟩, st17⟩ := Jvm.LawKit.callS X16 hx (y := (⟨"com/example/wide_schema/wideschema/io/BytesInputReadPinLaw", "exp", "(IIII)I"⟩ : MethodName)) hown (mvT hZ (hw _ (List.mem_of_getElem? (i := 32) rfl))) (mvT hZ (hw _ (List.mem_of_getElem? (i := 33) rfl))) (mvT hZ (hw _ (List.mem_of_getElem? (i := 34) rfl))) (mvT hZ (hw _ (List.mem_of_getElem? (i := 35) rfl))) (by decide) (backOf (W := 1) (rm5 l Z a0 hw [] p0 (3 : Int32) (1 : Int32) (2 : Int32) T9.heap n0 Z9) hZ (hw _ (List.mem_of_getElem? (i := 35) rfl)) (hw _ (List.mem_of_getElem? (i := 34) rfl)) (by decide) (by decide)) (g := (mkF m 190 #[.val (.int p0), .val (.int p1), .val (.int p2), .val (.ref ar1), .val (.int (3 : Int32)), .val (.int (1 : Int32)), .val (.ref ob52), .val (.int (1 : Int32)), .val (.int ((((p0).toUInt32 >>> ((24 : Int32) &&& 31).toUInt32).toInt32).toInt8.toInt32 &&& (255 : Int32))), .val (.int (-1 : Int32)), .val (.int (-1 : Int32)), .val (.int (-1 : Int32)), .val (.int (-1 : Int32)), .val (.int (-1 : Int32))] [(.int (2 : Int32)), (.int (1 : Int32)), (.int (3 : Int32)), (.int p0), (.int (-1 : Int32))])) rfl (by rw [hml]; rfl) (argsL := [(.int p0), (.int (3 : Int32)), (.int (1 : Int32)), (.int (2 : Int32))]) (rest := [(.int (-1 : Int32))]) (lenOf pd3 rfl) rfl (by show 2 * 0 + _ ≤ _; exact Nat.le_of_eq rfl) (hb hby at_190) (fun _ _ => ⟨rfl, hh16, (by decide : 2 + 0 ≤ _), (by decide : 7 + 0 ≤ _)⟩)
    dsimp only [Pt.U, Pt.locs, Pt.cells, Pt.slots] at X17 l17 y17 z17 st17 hQ17
    subst l17 y17 z17
    obtain ⟨rfl, Nq17, hh17⟩ := hQ17
    have N17 := Fr.app N16 Nq17
    refine Goes.go (st17) ?_
    show Goes _ _ _ _ _ _ _ (T17.setTop (mkF m 193 _ [(.int (exF p0 (3 : Int32) (1 : Int32) (2 : Int32))), (.int (-1 : Int32))]))
    refine Goes.go (fun _ kk => XS.icmpNo X17.here hx rfl (hb hby at_193) rfl (XT.ii_ne_f (own_m (by decide))) kk) ?_
    show Goes _ _ _ _ _ _ _ (T17.setTop (mkF m 196 _ []))
    refine Goes.go (fun _ kk => XS.iconst X17.here hx rfl (hb hby at_196) kk) ?_
    show Goes _ _ _ _ _ _ _ (T17.setTop (mkF m 197 _ [(.int (1 : Int32))]))
    refine Goes.go (fun _ kk => XS.goto X17.here hx rfl (pc0 := 197) (pc' := 201) rfl (hb hby at_197) (by decide) (by decide) kk) ?_
    show Goes _ _ _ _ _ _ _ (T17.setTop (mkF m 201 _ [(.int (1 : Int32))]))
    refine Goes.go (fun _ kk => XS.istore X17.here hx rfl (hb hby at_201) rfl (l' := #[.val (.int p0), .val (.int p1), .val (.int p2), .val (.ref ar1), .val (.int (3 : Int32)), .val (.int (1 : Int32)), .val (.ref ob52), .val (.int (1 : Int32)), .val (.int ((((p0).toUInt32 >>> ((24 : Int32) &&& 31).toUInt32).toInt32).toInt8.toInt32 &&& (255 : Int32))), .val (.int (-1 : Int32)), .val (.int (-1 : Int32)), .val (.int (-1 : Int32)), .val (.int (-1 : Int32)), .val (.int (-1 : Int32))]) rfl kk) ?_
    show Goes _ _ _ _ _ _ _ (T17.setTop (mkF m 203 _ []))
    refine Goes.go (fun _ kk => XS.iload X17.here hx rfl (hb hby at_203) rfl kk) ?_
    show Goes _ _ _ _ _ _ _ (T17.setTop (mkF m 205 _ [(.int (1 : Int32))]))
    refine Goes.go (fun _ kk => XS.ifNo X17.here hx rfl (hb hby at_205) rfl (XT.i0_eq_f (by decide)) kk) ?_
    show Goes _ _ _ _ _ _ _ (T17.setTop (mkF m 208 _ []))
    refine Goes.go (fun _ kk => XS.iload X17.here hx rfl (hb hby at_208) rfl kk) ?_
    show Goes _ _ _ _ _ _ _ (T17.setTop (mkF m 210 _ [(.int (-1 : Int32))]))
    refine Goes.go (fun _ kk => XS.iloadN X17.here hx rfl (hb hby at_210) rfl kk) ?_
    show Goes _ _ _ _ _ _ _ (T17.setTop (mkF m 211 _ [(.int p0), (.int (-1 : Int32))]))
    refine Goes.go (fun _ kk => XS.iload X17.here hx rfl (hb hby at_211) rfl kk) ?_
    show Goes _ _ _ _ _ _ _ (T17.setTop (mkF m 213 _ [(.int (3 : Int32)), (.int p0), (.int (-1 : Int32))]))
    refine Goes.go (fun _ kk => XS.iload X17.here hx rfl (hb hby at_213) rfl kk) ?_
    show Goes _ _ _ _ _ _ _ (T17.setTop (mkF m 215 _ [(.int (1 : Int32)), (.int (3 : Int32)), (.int p0), (.int (-1 : Int32))]))
    refine Goes.go (fun _ kk => XS.iconst X17.here hx rfl (hb hby at_215) kk) ?_
    show Goes _ _ _ _ _ _ _ (T17.setTop (mkF m 216 _ [(.int (3 : Int32)), (.int (1 : Int32)), (.int (3 : Int32)), (.int p0), (.int (-1 : Int32))]))
    obtain ⟨_, _, ⟨T18, L18, k18, n18⟩, -, X18, ⟨Lc18, hQ18, l18, y18, z18⟩, st18⟩ := Jvm.LawKit.callS X17 hx (y := (⟨"com/example/wide_schema/wideschema/io/BytesInputReadPinLaw", "exp", "(IIII)I"⟩ : MethodName)) hown (mvT hZ (hw _ (List.mem_of_getElem? (i := 32) rfl))) (mvT hZ (hw _ (List.mem_of_getElem? (i := 33) rfl))) (mvT hZ (hw _ (List.mem_of_getElem? (i := 34) rfl))) (mvT hZ (hw _ (List.mem_of_getElem? (i := 35) rfl))) (by decide) (backOf (W := 1) (rm5 l Z a0 hw [] p0 (3 : Int32) (1 : Int32) (3 : Int32) T9.heap n0 Z9) hZ (hw _ (List.mem_of_getElem? (i := 35) rfl)) (hw _ (List.mem_of_getElem? (i := 34) rfl)) (by decide) (by decide)) (g := (mkF m 216 #[.val (.int p0), .val (.int p1), .val (.int p2), .val (.ref ar1), .val (.int (3 : Int32)), .val (.int (1 : Int32)), .val (.ref ob52), .val (.int (1 : Int32)), .val (.int ((((p0).toUInt32 >>> ((24 : Int32) &&& 31).toUInt32).toInt32).toInt8.toInt32 &&& (255 : Int32))), .val (.int (-1 : Int32)), .val (.int (-1 : Int32)), .val (.int (-1 : Int32)), .val (.int (-1 : Int32)), .val (.int (-1 : Int32))] [(.int (3 : Int32)), (.int (1 : Int32)), (.int (3 : Int32)), (.int p0), (.int (-1 : Int32))])) rfl (by rw [hml]; rfl) (argsL := [(.int p0), (.int (3 : Int32)), (.int (1 : Int32)), (.int (3 : Int32))]) (rest := [(.int (-1 : Int32))]) (lenOf pd3 rfl) rfl (by show 2 * 0 + _ ≤ _; exact Nat.le_of_eq rfl) (hb hby at_216) (fun _ _ => ⟨rfl, hh17, (by decide : 2 + 0 ≤ _), (by decide : 7 + 0 ≤ _)⟩)
    dsimp only [Pt.U, Pt.locs, Pt.cells, Pt.slots] at X18 l18 y18 z18 st18 hQ18
    subst l18 y18 z18
    obtain ⟨rfl, Nq18, hh18⟩ := hQ18
    have N18 := Fr.app N17 Nq18
    refine Goes.go (st18) ?_
    show Goes _ _ _ _ _ _ _ (T18.setTop (mkF m 219 _ [(.int (exF p0 (3 : Int32) (1 : Int32) (3 : Int32))), (.int (-1 : Int32))]))
    refine Goes.go (fun _ kk => XS.icmpNo X18.here hx rfl (hb hby at_219) rfl (XT.ii_ne_f (own_m (by decide))) kk) ?_
    show Goes _ _ _ _ _ _ _ (T18.setTop (mkF m 222 _ []))
    refine Goes.go (fun _ kk => XS.iconst X18.here hx rfl (hb hby at_222) kk) ?_
    show Goes _ _ _ _ _ _ _ (T18.setTop (mkF m 223 _ [(.int (1 : Int32))]))
    refine Goes.go (fun _ kk => XS.goto X18.here hx rfl (pc0 := 223) (pc' := 227) rfl (hb hby at_223) (by decide) (by decide) kk) ?_
    show Goes _ _ _ _ _ _ _ (T18.setTop (mkF m 227 _ [(.int (1 : Int32))]))
    refine Goes.go (fun _ kk => XS.istore X18.here hx rfl (hb hby at_227) rfl (l' := #[.val (.int p0), .val (.int p1), .val (.int p2), .val (.ref ar1), .val (.int (3 : Int32)), .val (.int (1 : Int32)), .val (.ref ob52), .val (.int (1 : Int32)), .val (.int ((((p0).toUInt32 >>> ((24 : Int32) &&& 31).toUInt32).toInt32).toInt8.toInt32 &&& (255 : Int32))), .val (.int (-1 : Int32)), .val (.int (-1 : Int32)), .val (.int (-1 : Int32)), .val (.int (-1 : Int32)), .val (.int (-1 : Int32))]) rfl kk) ?_
    show Goes _ _ _ _ _ _ _ (T18.setTop (mkF m 229 _ []))
    refine Goes.go (fun _ kk => XS.iload X18.here hx rfl (hb hby at_229) rfl kk) ?_
    show Goes _ _ _ _ _ _ _ (T18.setTop (mkF m 231 _ [(.int (1 : Int32))]))
    refine Goes.go (fun _ kk => XS.ifNo X18.here hx rfl (hb hby at_231) rfl (XT.i0_eq_f (by decide)) kk) ?_
    show Goes _ _ _ _ _ _ _ (T18.setTop (mkF m 234 _ []))
    refine Goes.go (fun _ kk => XS.iload X18.here hx rfl (hb hby at_234) rfl kk) ?_
    show Goes _ _ _ _ _ _ _ (T18.setTop (mkF m 236 _ [(.int (-1 : Int32))]))
    refine Goes.go (fun _ kk => XS.iloadN X18.here hx rfl (hb hby at_236) rfl kk) ?_
    show Goes _ _ _ _ _ _ _ (T18.setTop (mkF m 237 _ [(.int p0), (.int (-1 : Int32))]))
    refine Goes.go (fun _ kk => XS.iload X18.here hx rfl (hb hby at_237) rfl kk) ?_
    show Goes _ _ _ _ _ _ _ (T18.setTop (mkF m 239 _ [(.int (3 : Int32)), (.int p0), (.int (-1 : Int32))]))
    refine Goes.go (fun _ kk => XS.iload X18.here hx rfl (hb hby at_239) rfl kk) ?_
    show Goes _ _ _ _ _ _ _ (T18.setTop (mkF m 241 _ [(.int (1 : Int32)), (.int (3 : Int32)), (.int p0), (.int (-1 : Int32))]))
    refine Goes.go (fun _ kk => XS.iconst X18.here hx rfl (hb hby at_241) kk) ?_
    show Goes _ _ _ _ _ _ _ (T18.setTop (mkF m 242 _ [(.int (4 : Int32)), (.int (1 : Int32)), (.int (3 : Int32)), (.int p0), (.int (-1 : Int32))]))
    obtain ⟨_, _, ⟨T19, L19, k19, n19⟩, -, X19, ⟨Lc19, hQ19, l19, y19, z19⟩, st19⟩ := Jvm.LawKit.callS X18 hx (y := (⟨"com/example/wide_schema/wideschema/io/BytesInputReadPinLaw", "exp", "(IIII)I"⟩ : MethodName)) hown (mvT hZ (hw _ (List.mem_of_getElem? (i := 32) rfl))) (mvT hZ (hw _ (List.mem_of_getElem? (i := 33) rfl))) (mvT hZ (hw _ (List.mem_of_getElem? (i := 34) rfl))) (mvT hZ (hw _ (List.mem_of_getElem? (i := 35) rfl))) (by decide) (backOf (W := 1) (rm5 l Z a0 hw [] p0 (3 : Int32) (1 : Int32) (4 : Int32) T9.heap n0 Z9) hZ (hw _ (List.mem_of_getElem? (i := 35) rfl)) (hw _ (List.mem_of_getElem? (i := 34) rfl)) (by decide) (by decide)) (g := (mkF m 242 #[.val (.int p0), .val (.int p1), .val (.int p2), .val (.ref ar1), .val (.int (3 : Int32)), .val (.int (1 : Int32)), .val (.ref ob52), .val (.int (1 : Int32)), .val (.int ((((p0).toUInt32 >>> ((24 : Int32) &&& 31).toUInt32).toInt32).toInt8.toInt32 &&& (255 : Int32))), .val (.int (-1 : Int32)), .val (.int (-1 : Int32)), .val (.int (-1 : Int32)), .val (.int (-1 : Int32)), .val (.int (-1 : Int32))] [(.int (4 : Int32)), (.int (1 : Int32)), (.int (3 : Int32)), (.int p0), (.int (-1 : Int32))])) rfl (by rw [hml]; rfl) (argsL := [(.int p0), (.int (3 : Int32)), (.int (1 : Int32)), (.int (4 : Int32))]) (rest := [(.int (-1 : Int32))]) (lenOf pd3 rfl) rfl (by show 2 * 0 + _ ≤ _; exact Nat.le_of_eq rfl) (hb hby at_242) (fun _ _ => ⟨rfl, hh18, (by decide : 2 + 0 ≤ _), (by decide : 7 + 0 ≤ _)⟩)
    dsimp only [Pt.U, Pt.locs, Pt.cells, Pt.slots] at X19 l19 y19 z19 st19 hQ19
    subst l19 y19 z19
    obtain ⟨rfl, Nq19, hh19⟩ := hQ19
    have N19 := Fr.app N18 Nq19
    refine Goes.go (st19) ?_
    show Goes _ _ _ _ _ _ _ (T19.setTop (mkF m 245 _ [(.int (exF p0 (3 : Int32) (1 : Int32) (4 : Int32))), (.int (-1 : Int32))]))
    refine Goes.go (fun _ kk => XS.icmpNo X19.here hx rfl (hb hby at_245) rfl (XT.ii_ne_f (own_m (by decide))) kk) ?_
    show Goes _ _ _ _ _ _ _ (T19.setTop (mkF m 248 _ []))
    refine Goes.go (fun _ kk => XS.iconst X19.here hx rfl (hb hby at_248) kk) ?_
    show Goes _ _ _ _ _ _ _ (T19.setTop (mkF m 249 _ [(.int (1 : Int32))]))
    refine Goes.go (fun _ kk => XS.goto X19.here hx rfl (pc0 := 249) (pc' := 253) rfl (hb hby at_249) (by decide) (by decide) kk) ?_
    show Goes _ _ _ _ _ _ _ (T19.setTop (mkF m 253 _ [(.int (1 : Int32))]))
    refine Goes.go (fun _ kk => XS.istore X19.here hx rfl (hb hby at_253) rfl (l' := #[.val (.int p0), .val (.int p1), .val (.int p2), .val (.ref ar1), .val (.int (3 : Int32)), .val (.int (1 : Int32)), .val (.ref ob52), .val (.int (1 : Int32)), .val (.int ((((p0).toUInt32 >>> ((24 : Int32) &&& 31).toUInt32).toInt32).toInt8.toInt32 &&& (255 : Int32))), .val (.int (-1 : Int32)), .val (.int (-1 : Int32)), .val (.int (-1 : Int32)), .val (.int (-1 : Int32)), .val (.int (-1 : Int32))]) rfl kk) ?_
    show Goes _ _ _ _ _ _ _ (T19.setTop (mkF m 255 _ []))
    refine Goes.go (fun _ kk => XS.iload X19.here hx rfl (hb hby at_255) rfl kk) ?_
    show Goes _ _ _ _ _ _ _ (T19.setTop (mkF m 257 _ [(.int (1 : Int32))]))
    refine Goes.go (fun _ kk => XS.ifNo X19.here hx rfl (hb hby at_257) rfl (XT.i0_eq_f (by decide)) kk) ?_
    show Goes _ _ _ _ _ _ _ (T19.setTop (mkF m 260 _ []))
    refine Goes.go (fun _ kk => XS.iload X19.here hx rfl (hb hby at_260) rfl kk) ?_
    show Goes _ _ _ _ _ _ _ (T19.setTop (mkF m 262 _ [(.int (-1 : Int32))]))
    refine Goes.go (fun _ kk => XS.iloadN X19.here hx rfl (hb hby at_262) rfl kk) ?_
    show Goes _ _ _ _ _ _ _ (T19.setTop (mkF m 263 _ [(.int p0), (.int (-1 : Int32))]))
    refine Goes.go (fun _ kk => XS.iload X19.here hx rfl (hb hby at_263) rfl kk) ?_
    show Goes _ _ _ _ _ _ _ (T19.setTop (mkF m 265 _ [(.int (3 : Int32)), (.int p0), (.int (-1 : Int32))]))
    refine Goes.go (fun _ kk => XS.iload X19.here hx rfl (hb hby at_265) rfl kk) ?_
    show Goes _ _ _ _ _ _ _ (T19.setTop (mkF m 267 _ [(.int (1 : Int32)), (.int (3 : Int32)), (.int p0), (.int (-1 : Int32))]))
    refine Goes.go (fun _ kk => XS.iconst X19.here hx rfl (hb hby at_267) kk) ?_
    show Goes _ _ _ _ _ _ _ (T19.setTop (mkF m 268 _ [(.int (5 : Int32)), (.int (1 : Int32)), (.int (3 : Int32)), (.int p0), (.int (-1 : Int32))]))
    obtain ⟨_, _, ⟨T20, L20, k20, n20⟩, -, X20, ⟨Lc20, hQ20, l20, y20, z20⟩, st20⟩ := Jvm.LawKit.callS X19 hx (y := (⟨"com/example/wide_schema/wideschema/io/BytesInputReadPinLaw", "exp", "(IIII)I"⟩ : MethodName)) hown (mvT hZ (hw _ (List.mem_of_getElem? (i := 32) rfl))) (mvT hZ (hw _ (List.mem_of_getElem? (i := 33) rfl))) (mvT hZ (hw _ (List.mem_of_getElem? (i := 34) rfl))) (mvT hZ (hw _ (List.mem_of_getElem? (i := 35) rfl))) (by decide) (backOf (W := 1) (rm5 l Z a0 hw [] p0 (3 : Int32) (1 : Int32) (5 : Int32) T9.heap n0 Z9) hZ (hw _ (List.mem_of_getElem? (i := 35) rfl)) (hw _ (List.mem_of_getElem? (i := 34) rfl)) (by decide) (by decide)) (g := (mkF m 268 #[.val (.int p0), .val (.int p1), .val (.int p2), .val (.ref ar1), .val (.int (3 : Int32)), .val (.int (1 : Int32)), .val (.ref ob52), .val (.int (1 : Int32)), .val (.int ((((p0).toUInt32 >>> ((24 : Int32) &&& 31).toUInt32).toInt32).toInt8.toInt32 &&& (255 : Int32))), .val (.int (-1 : Int32)), .val (.int (-1 : Int32)), .val (.int (-1 : Int32)), .val (.int (-1 : Int32)), .val (.int (-1 : Int32))] [(.int (5 : Int32)), (.int (1 : Int32)), (.int (3 : Int32)), (.int p0), (.int (-1 : Int32))])) rfl (by rw [hml]; rfl) (argsL := [(.int p0), (.int (3 : Int32)), (.int (1 : Int32)), (.int (5 : Int32))]) (rest := [(.int (-1 : Int32))]) (lenOf pd3 rfl) rfl (by show 2 * 0 + _ ≤ _; exact Nat.le_of_eq rfl) (hb hby at_268) (fun _ _ => ⟨rfl, hh19, (by decide : 2 + 0 ≤ _), (by decide : 7 + 0 ≤ _)⟩)
    dsimp only [Pt.U, Pt.locs, Pt.cells, Pt.slots] at X20 l20 y20 z20 st20 hQ20
    subst l20 y20 z20
    obtain ⟨rfl, Nq20, hh20⟩ := hQ20
    have N20 := Fr.app N19 Nq20
    refine Goes.go (st20) ?_
    show Goes _ _ _ _ _ _ _ (T20.setTop (mkF m 271 _ [(.int (exF p0 (3 : Int32) (1 : Int32) (5 : Int32))), (.int (-1 : Int32))]))
    refine Goes.go (fun _ kk => XS.icmpNo X20.here hx rfl (hb hby at_271) rfl (XT.ii_ne_f (own_m (by decide))) kk) ?_
    show Goes _ _ _ _ _ _ _ (T20.setTop (mkF m 274 _ []))
    refine Goes.go (fun _ kk => XS.iconst X20.here hx rfl (hb hby at_274) kk) ?_
    show Goes _ _ _ _ _ _ _ (T20.setTop (mkF m 275 _ [(.int (1 : Int32))]))
    refine Goes.go (fun _ kk => XS.goto X20.here hx rfl (pc0 := 275) (pc' := 279) rfl (hb hby at_275) (by decide) (by decide) kk) ?_
    show Goes _ _ _ _ _ _ _ (T20.setTop (mkF m 279 _ [(.int (1 : Int32))]))
    refine Goes.go (fun _ kk => XS.istore X20.here hx rfl (hb hby at_279) rfl (l' := #[.val (.int p0), .val (.int p1), .val (.int p2), .val (.ref ar1), .val (.int (3 : Int32)), .val (.int (1 : Int32)), .val (.ref ob52), .val (.int (1 : Int32)), .val (.int ((((p0).toUInt32 >>> ((24 : Int32) &&& 31).toUInt32).toInt32).toInt8.toInt32 &&& (255 : Int32))), .val (.int (-1 : Int32)), .val (.int (-1 : Int32)), .val (.int (-1 : Int32)), .val (.int (-1 : Int32)), .val (.int (-1 : Int32))]) rfl kk) ?_
    show Goes _ _ _ _ _ _ _ (T20.setTop (mkF m 281 _ []))
    refine Goes.go (fun _ kk => XS.iload X20.here hx rfl (hb hby at_281) rfl kk) ?_
    show Goes _ _ _ _ _ _ _ (T20.setTop (mkF m 283 _ [(.int (1 : Int32))]))
    refine Goes.go (fun _ kk => XS.ifNo X20.here hx rfl (hb hby at_283) rfl (XT.i0_eq_f (by decide)) kk) ?_
    show Goes _ _ _ _ _ _ _ (T20.setTop (mkF m 286 _ []))
    refine Goes.go (fun _ kk => XS.aload X20.here hx rfl (hb hby at_286) rfl rfl kk) ?_
    show Goes _ _ _ _ _ _ _ (T20.setTop (mkF m 288 _ [(.ref ob52)]))
    obtain ⟨cq21, kq21, qa21, qb21, qc21⟩ := isOf hZ hh20 Eq9
    obtain ⟨_, _, ⟨T21, L21, k21, n21⟩, -, X21, ⟨Lc21, hQ21, l21, y21, z21⟩, st21⟩ := X20.virtualBack hx (y := (⟨"com/example/wide_schema/wideschema/io/BytesInput", "available", "()I"⟩ : MethodName)) (z := (⟨"com/example/wide_schema/wideschema/io/BytesInput", "available", "()I"⟩ : MethodName)) hown (mvT hZ (hw _ (List.mem_of_getElem? (i := 22) rfl))) (mvT hZ (hw _ (List.mem_of_getElem? (i := 23) rfl))) (notFace_of_selects (args := #[]) (mvT hZ (hw _ (List.mem_of_getElem? (i := 25) rfl)))) (mvT hZ (hw _ (List.mem_of_getElem? (i := 25) rfl))) (mvT hZ (hw _ (List.mem_of_getElem? (i := 24) rfl))) (by decide) (backOf (W := 0) (rm3 l Z a0 hw [] ob52 (4 : Int32) (4 : Int32) T9.heap n0 Z9 Fq9_1 Fq9_2) hZ (hw _ (List.mem_of_getElem? (i := 26) rfl)) (hw _ (List.mem_of_getElem? (i := 4) rfl)) (by decide) (by decide)) qa21 qc21 (g := (mkF m 288 #[.val (.int p0), .val (.int p1), .val (.int p2), .val (.ref ar1), .val (.int (3 : Int32)), .val (.int (1 : Int32)), .val (.ref ob52), .val (.int (1 : Int32)), .val (.int ((((p0).toUInt32 >>> ((24 : Int32) &&& 31).toUInt32).toInt32).toInt8.toInt32 &&& (255 : Int32))), .val (.int (-1 : Int32)), .val (.int (-1 : Int32)), .val (.int (-1 : Int32)), .val (.int (-1 : Int32)), .val (.int (-1 : Int32))] [(.ref ob52)])) rfl (by rw [hml]; rfl) (Steps.refl _) (argsL := []) (rest := []) (lenOf pd2 rfl) rfl (by show 2 * 0 + _ ≤ _; exact Nat.le_of_eq rfl) (hb hby at_288) (fun _ _ => ⟨rfl, hh20, (by decide : 2 + 0 ≤ _), (by decide : 7 + 0 ≤ _)⟩)
    dsimp only [Pt.U, Pt.locs, Pt.cells, Pt.slots] at X21 l21 y21 z21 st21 hQ21
    subst l21 y21 z21
    obtain ⟨rfl, Nq21, hh21⟩ := hQ21
    have N21 := Fr.app N20 Nq21
    refine Goes.go (fun _ kk => st21.trans kk) ?_
    show Goes _ _ _ _ _ _ _ (T21.setTop (mkF m 291 _ [(.int (0 : Int32))]))
    refine Goes.go (fun _ kk => XS.ifNo X21.here hx rfl (hb hby at_291) rfl (XT.i0_ne_f (by decide)) kk) ?_
    show Goes _ _ _ _ _ _ _ (T21.setTop (mkF m 294 _ []))
    refine Goes.go (fun _ kk => XS.iconst X21.here hx rfl (hb hby at_294) kk) ?_
    show Goes _ _ _ _ _ _ _ (T21.setTop (mkF m 295 _ [(.int (1 : Int32))]))
    refine Goes.go (fun _ kk => XS.goto X21.here hx rfl (pc0 := 295) (pc' := 299) rfl (hb hby at_295) (by decide) (by decide) kk) ?_
    show Goes _ _ _ _ _ _ _ (T21.setTop (mkF m 299 _ [(.int (1 : Int32))]))
    refine Goes.go (fun _ kk => XS.istore X21.here hx rfl (hb hby at_299) rfl (l' := #[.val (.int p0), .val (.int p1), .val (.int p2), .val (.ref ar1), .val (.int (3 : Int32)), .val (.int (1 : Int32)), .val (.ref ob52), .val (.int (1 : Int32)), .val (.int ((((p0).toUInt32 >>> ((24 : Int32) &&& 31).toUInt32).toInt32).toInt8.toInt32 &&& (255 : Int32))), .val (.int (-1 : Int32)), .val (.int (-1 : Int32)), .val (.int (-1 : Int32)), .val (.int (-1 : Int32)), .val (.int (-1 : Int32))]) rfl kk) ?_
    show Goes _ _ _ _ _ _ _ (T21.setTop (mkF m 301 _ []))
    refine Goes.go (fun _ kk => XS.iload X21.here hx rfl (hb hby at_301) rfl kk) ?_
    show Goes _ _ _ _ _ _ _ (T21.setTop (mkF m 303 _ [(.int (1 : Int32))]))
    exact Goes.outZ X21 hx hlk hret rfl (hb hby at_303) hh21 ⟨rfl, N21⟩ (by decide) (by decide)
  · skip
    show Goes _ _ _ _ _ _ _ (T5.setTop (mkF m 52 #[.val (.int p0), .val (.int p1), .val (.int p2), .val (.ref ar1), .val (.int (4 : Int32)), .val (.int (0 : Int32)), .unset, .unset, .unset, .unset, .unset, .unset, .unset, .unset] []))
    obtain ⟨T6, h6, X6, e6, E6, A6, D6, -, st6⟩ := newO X5 hx hZ hown (hw _ (List.mem_of_getElem? (i := 2) rfl)) (hw _ (List.mem_of_getElem? (i := 3) rfl)) (hw _ (List.mem_of_getElem? (i := 4) rfl)) e5 (g := (mkF m 52 #[.val (.int p0), .val (.int p1), .val (.int p2), .val (.ref ar1), .val (.int (4 : Int32)), .val (.int (0 : Int32)), .unset, .unset, .unset, .unset, .unset, .unset, .unset, .unset] [])) rfl (hb hby at_52) (by decide) (by decide)
    obtain ⟨ob52, gob52⟩ : ∃ z, z = h5.size := ⟨_, rfl⟩
    rw [← gob52] at A6 D6 st6
    have ne_ar1_ob52 : ar1 ≠ ob52 := by rw [gob52]; exact Nat.ne_of_lt f_4.lt
    have f_5 := f_4.ext E6
    have Z6 : n0 ≤ h6.size := Nat.le_trans Z5 E6.1
    have ge_ob52 : n0 ≤ ob52 := Nat.le_trans Z5 (Nat.le_of_eq gob52.symm)
    have f_6 : Fld Z h6 ob52 "com/example/wide_schema/wideschema/io/BytesInput" "_bytes" "[B" .null := D6 (Or.inr (hw _ (List.mem_of_getElem? (i := 17) rfl))) (ty := (.array .byte)) (by decide)
    have f_7 : Fld Z h6 ob52 "com/example/wide_schema/wideschema/io/BytesInput" "_next" "I" (.int (0 : Int32)) := D6 (Or.inl (hw _ (List.mem_of_getElem? (i := 19) rfl))) (ty := .int) (by decide)
    have f_8 : Fld Z h6 ob52 "com/example/wide_schema/wideschema/io/BytesInput" "_end" "I" (.int (0 : Int32)) := D6 (Or.inr (hw _ (List.mem_of_getElem? (i := 21) rfl))) (ty := .int) (by decide)
    refine Goes.go (st6) ?_
    show Goes _ _ _ _ _ _ _ (T6.setTop (mkF m 55 _ [(.ref ob52)]))
    refine Goes.go (fun _ kk => XS.dup X6.here hx rfl (hb hby at_55) rfl rfl kk) ?_
    show Goes _ _ _ _ _ _ _ (T6.setTop (mkF m 56 _ [(.ref ob52), (.ref ob52)]))
    refine Goes.go (fun _ kk => XS.aloadN X6.here hx rfl (hb hby at_56) rfl rfl kk) ?_
    show Goes _ _ _ _ _ _ _ (T6.setTop (mkF m 57 _ [(.ref ar1), (.ref ob52), (.ref ob52)]))
    refine Goes.go (fun _ kk => XS.iload X6.here hx rfl (hb hby at_57) rfl kk) ?_
    show Goes _ _ _ _ _ _ _ (T6.setTop (mkF m 59 _ [(.int (4 : Int32)), (.ref ar1), (.ref ob52), (.ref ob52)]))
    refine Goes.go (fun _ kk => XS.iload X6.here hx rfl (hb hby at_59) rfl kk) ?_
    show Goes _ _ _ _ _ _ _ (T6.setTop (mkF m 61 _ [(.int (0 : Int32)), (.int (4 : Int32)), (.ref ar1), (.ref ob52), (.ref ob52)]))
    obtain ⟨_, _, ⟨T7, L7, k7, n7⟩, -, X7, ⟨Lc7, hQ7, l7, y7, z7⟩, st7⟩ := X6.specialBack hx (y := (⟨"com/example/wide_schema/wideschema/io/BytesInput", "<init>", "([BII)V"⟩ : MethodName)) rfl hown (mvT hZ (hw _ (List.mem_of_getElem? (i := 5) rfl))) (mvT hZ (hw _ (List.mem_of_getElem? (i := 6) rfl))) (mvT hZ (hw _ (List.mem_of_getElem? (i := 7) rfl))) (by decide) (backOf (W := 1) (rm1 l Z a0 hw [] ob52 ar1 (4 : Int32) (0 : Int32) h6 n0 Z6 A6 f_6 f_7 f_8 ge_ob52) hZ (hw _ (List.mem_of_getElem? (i := 7) rfl)) (hw _ (List.mem_of_getElem? (i := 4) rfl)) (by decide) (by decide)) (g := (mkF m 61 #[.val (.int p0), .val (.int p1), .val (.int p2), .val (.ref ar1), .val (.int (4 : Int32)), .val (.int (0 : Int32)), .unset, .unset, .unset, .unset, .unset, .unset, .unset, .unset] [(.int (0 : Int32)), (.int (4 : Int32)), (.ref ar1), (.ref ob52), (.ref ob52)])) rfl (by rw [hml]; rfl) (Steps.refl _) (a := ob52) (argsL := [(.ref ar1), (.int (4 : Int32)), (.int (0 : Int32))]) (rest := [(.ref ob52)]) (lenOf pd0 rfl) rfl (by show 2 * 0 + _ ≤ _; exact Nat.le_of_eq rfl) (hb hby at_61) (fun _ _ => ⟨rfl, e6, (by decide : 2 + 0 ≤ _), (by decide : 7 + 0 ≤ _)⟩)
    dsimp only [Pt.U, Pt.locs, Pt.cells, Pt.slots] at X7 l7 y7 z7 st7 hQ7
    subst l7 y7 z7
    obtain ⟨rfl, Nq7, Kq7, Eq7, Fq7_0, Fq7_1, Fq7_2⟩ := hQ7
    have N7 := Fr.app N5 Nq7
    have Z7 : n0 ≤ T7.heap.size := Nat.le_trans Z6 Kq7.1
    have f_9 := Arl.keep f_5 Kq7 (ninS ne_ar1_ob52 nin0)
    refine Goes.go (fun _ kk => st7.trans kk) ?_
    show Goes _ _ _ _ _ _ _ (T7.setTop (mkF m 64 _ [(.ref ob52)]))
    refine Goes.go (fun _ kk => XS.astore X7.here hx rfl (hb hby at_64) rfl rfl (l' := #[.val (.int p0), .val (.int p1), .val (.int p2), .val (.ref ar1), .val (.int (4 : Int32)), .val (.int (0 : Int32)), .val (.ref ob52), .unset, .unset, .unset, .unset, .unset, .unset, .unset]) rfl kk) ?_
    show Goes _ _ _ _ _ _ _ (T7.setTop (mkF m 66 #[.val (.int p0), .val (.int p1), .val (.int p2), .val (.ref ar1), .val (.int (4 : Int32)), .val (.int (0 : Int32)), .val (.ref ob52), .unset, .unset, .unset, .unset, .unset, .unset, .unset] []))
    refine Goes.go (fun _ kk => XS.aload X7.here hx rfl (hb hby at_66) rfl rfl kk) ?_
    show Goes _ _ _ _ _ _ _ (T7.setTop (mkF m 68 _ [(.ref ob52)]))
    obtain ⟨cq8, kq8, qa8, qb8, qc8⟩ := isOf hZ rfl Eq7
    obtain ⟨_, _, ⟨T8, L8, k8, n8⟩, -, X8, ⟨Lc8, hQ8, l8, y8, z8⟩, st8⟩ := X7.virtualBack hx (y := (⟨"com/example/wide_schema/wideschema/io/BytesInput", "available", "()I"⟩ : MethodName)) (z := (⟨"com/example/wide_schema/wideschema/io/BytesInput", "available", "()I"⟩ : MethodName)) hown (mvT hZ (hw _ (List.mem_of_getElem? (i := 22) rfl))) (mvT hZ (hw _ (List.mem_of_getElem? (i := 23) rfl))) (notFace_of_selects (args := #[]) (mvT hZ (hw _ (List.mem_of_getElem? (i := 25) rfl)))) (mvT hZ (hw _ (List.mem_of_getElem? (i := 25) rfl))) (mvT hZ (hw _ (List.mem_of_getElem? (i := 24) rfl))) (by decide) (backOf (W := 0) (rm3 l Z a0 hw [] ob52 (4 : Int32) (4 : Int32) T7.heap n0 Z7 Fq7_1 Fq7_2) hZ (hw _ (List.mem_of_getElem? (i := 26) rfl)) (hw _ (List.mem_of_getElem? (i := 4) rfl)) (by decide) (by decide)) qa8 qc8 (g := (mkF m 68 #[.val (.int p0), .val (.int p1), .val (.int p2), .val (.ref ar1), .val (.int (4 : Int32)), .val (.int (0 : Int32)), .val (.ref ob52), .unset, .unset, .unset, .unset, .unset, .unset, .unset] [(.ref ob52)])) rfl (by rw [hml]; rfl) (Steps.refl _) (argsL := []) (rest := []) (lenOf pd2 rfl) rfl (by show 2 * 0 + _ ≤ _; exact Nat.le_of_eq rfl) (hb hby at_68) (fun _ _ => ⟨rfl, rfl, (by decide : 2 + 0 ≤ _), (by decide : 7 + 0 ≤ _)⟩)
    dsimp only [Pt.U, Pt.locs, Pt.cells, Pt.slots] at X8 l8 y8 z8 st8 hQ8
    subst l8 y8 z8
    obtain ⟨rfl, Nq8, hh8⟩ := hQ8
    have N8 := Fr.app N7 Nq8
    refine Goes.go (fun _ kk => st8.trans kk) ?_
    show Goes _ _ _ _ _ _ _ (T8.setTop (mkF m 71 _ [(.int (0 : Int32))]))
    refine Goes.go (fun _ kk => XS.iload X8.here hx rfl (hb hby at_71) rfl kk) ?_
    show Goes _ _ _ _ _ _ _ (T8.setTop (mkF m 73 _ [(.int (0 : Int32)), (.int (0 : Int32))]))
    refine Goes.go (fun _ kk => XS.icmpNo X8.here hx rfl (hb hby at_73) rfl (XT.ii_ne_f (by decide)) kk) ?_
    show Goes _ _ _ _ _ _ _ (T8.setTop (mkF m 76 _ []))
    refine Goes.go (fun _ kk => XS.iconst X8.here hx rfl (hb hby at_76) kk) ?_
    show Goes _ _ _ _ _ _ _ (T8.setTop (mkF m 77 _ [(.int (1 : Int32))]))
    refine Goes.go (fun _ kk => XS.goto X8.here hx rfl (pc0 := 77) (pc' := 81) rfl (hb hby at_77) (by decide) (by decide) kk) ?_
    show Goes _ _ _ _ _ _ _ (T8.setTop (mkF m 81 _ [(.int (1 : Int32))]))
    refine Goes.go (fun _ kk => XS.istore X8.here hx rfl (hb hby at_81) rfl (l' := #[.val (.int p0), .val (.int p1), .val (.int p2), .val (.ref ar1), .val (.int (4 : Int32)), .val (.int (0 : Int32)), .val (.ref ob52), .val (.int (1 : Int32)), .unset, .unset, .unset, .unset, .unset, .unset]) rfl kk) ?_
    show Goes _ _ _ _ _ _ _ (T8.setTop (mkF m 83 #[.val (.int p0), .val (.int p1), .val (.int p2), .val (.ref ar1), .val (.int (4 : Int32)), .val (.int (0 : Int32)), .val (.ref ob52), .val (.int (1 : Int32)), .unset, .unset, .unset, .unset, .unset, .unset] []))
    refine Goes.go (fun _ kk => XS.aload X8.here hx rfl (hb hby at_83) rfl rfl kk) ?_
    show Goes _ _ _ _ _ _ _ (T8.setTop (mkF m 85 _ [(.ref ob52)]))
    obtain ⟨cq9, kq9, qa9, qb9, qc9⟩ := isOf hZ hh8 Eq7
    obtain ⟨_, _, ⟨T9, L9, k9, n9⟩, -, X9, ⟨Lc9, hQ9, l9, y9, z9⟩, st9⟩ := X8.virtualBack hx (y := (⟨"com/example/wide_schema/wideschema/io/BytesInput", "read", "()I"⟩ : MethodName)) (z := (⟨"com/example/wide_schema/wideschema/io/BytesInput", "read", "()I"⟩ : MethodName)) hown (mvT hZ (hw _ (List.mem_of_getElem? (i := 27) rfl))) (mvT hZ (hw _ (List.mem_of_getElem? (i := 28) rfl))) (notFace_of_selects (args := #[]) (mvT hZ (hw _ (List.mem_of_getElem? (i := 30) rfl)))) (mvT hZ (hw _ (List.mem_of_getElem? (i := 30) rfl))) (mvT hZ (hw _ (List.mem_of_getElem? (i := 29) rfl))) (by decide) (backOf (W := 0) (rmN l Z a0 hw [] ob52 (4 : Int32) (4 : Int32) T7.heap n0 Z7 Fq7_1 Fq7_2 (by decide)) hZ (hw _ (List.mem_of_getElem? (i := 31) rfl)) (hw _ (List.mem_of_getElem? (i := 4) rfl)) (by decide) (by decide)) qa9 qc9 (g := (mkF m 85 #[.val (.int p0), .val (.int p1), .val (.int p2), .val (.ref ar1), .val (.int (4 : Int32)), .val (.int (0 : Int32)), .val (.ref ob52), .val (.int (1 : Int32)), .unset, .unset, .unset, .unset, .unset, .unset] [(.ref ob52)])) rfl (by rw [hml]; rfl) (Steps.refl _) (argsL := []) (rest := []) (lenOf pd2 rfl) rfl (by show 2 * 0 + _ ≤ _; exact Nat.le_of_eq rfl) (hb hby at_85) (fun _ _ => ⟨rfl, hh8, (by decide : 2 + 0 ≤ _), (by decide : 7 + 0 ≤ _)⟩)
    dsimp only [Pt.U, Pt.locs, Pt.cells, Pt.slots] at X9 l9 y9 z9 st9 hQ9
    subst l9 y9 z9
    obtain ⟨rfl, Nq9, hh9⟩ := hQ9
    have N9 := Fr.app N8 Nq9
    refine Goes.go (fun _ kk => st9.trans kk) ?_
    show Goes _ _ _ _ _ _ _ (T9.setTop (mkF m 88 _ [(.int (-1 : Int32))]))
    refine Goes.go (fun _ kk => XS.istore X9.here hx rfl (hb hby at_88) rfl (l' := #[.val (.int p0), .val (.int p1), .val (.int p2), .val (.ref ar1), .val (.int (4 : Int32)), .val (.int (0 : Int32)), .val (.ref ob52), .val (.int (1 : Int32)), .val (.int (-1 : Int32)), .unset, .unset, .unset, .unset, .unset]) rfl kk) ?_
    show Goes _ _ _ _ _ _ _ (T9.setTop (mkF m 90 #[.val (.int p0), .val (.int p1), .val (.int p2), .val (.ref ar1), .val (.int (4 : Int32)), .val (.int (0 : Int32)), .val (.ref ob52), .val (.int (1 : Int32)), .val (.int (-1 : Int32)), .unset, .unset, .unset, .unset, .unset] []))
    refine Goes.go (fun _ kk => XS.aload X9.here hx rfl (hb hby at_90) rfl rfl kk) ?_
    show Goes _ _ _ _ _ _ _ (T9.setTop (mkF m 92 _ [(.ref ob52)]))
    obtain ⟨cq10, kq10, qa10, qb10, qc10⟩ := isOf hZ hh9 Eq7
    obtain ⟨_, _, ⟨T10, L10, k10, n10⟩, -, X10, ⟨Lc10, hQ10, l10, y10, z10⟩, st10⟩ := X9.virtualBack hx (y := (⟨"com/example/wide_schema/wideschema/io/BytesInput", "read", "()I"⟩ : MethodName)) (z := (⟨"com/example/wide_schema/wideschema/io/BytesInput", "read", "()I"⟩ : MethodName)) hown (mvT hZ (hw _ (List.mem_of_getElem? (i := 27) rfl))) (mvT hZ (hw _ (List.mem_of_getElem? (i := 28) rfl))) (notFace_of_selects (args := #[]) (mvT hZ (hw _ (List.mem_of_getElem? (i := 30) rfl)))) (mvT hZ (hw _ (List.mem_of_getElem? (i := 30) rfl))) (mvT hZ (hw _ (List.mem_of_getElem? (i := 29) rfl))) (by decide) (backOf (W := 0) (rmN l Z a0 hw [] ob52 (4 : Int32) (4 : Int32) T7.heap n0 Z7 Fq7_1 Fq7_2 (by decide)) hZ (hw _ (List.mem_of_getElem? (i := 31) rfl)) (hw _ (List.mem_of_getElem? (i := 4) rfl)) (by decide) (by decide)) qa10 qc10 (g := (mkF m 92 #[.val (.int p0), .val (.int p1), .val (.int p2), .val (.ref ar1), .val (.int (4 : Int32)), .val (.int (0 : Int32)), .val (.ref ob52), .val (.int (1 : Int32)), .val (.int (-1 : Int32)), .unset, .unset, .unset, .unset, .unset] [(.ref ob52)])) rfl (by rw [hml]; rfl) (Steps.refl _) (argsL := []) (rest := []) (lenOf pd2 rfl) rfl (by show 2 * 0 + _ ≤ _; exact Nat.le_of_eq rfl) (hb hby at_92) (fun _ _ => ⟨rfl, hh9, (by decide : 2 + 0 ≤ _), (by decide : 7 + 0 ≤ _)⟩)
    dsimp only [Pt.U, Pt.locs, Pt.cells, Pt.slots] at X10 l10 y10 z10 st10 hQ10
    subst l10 y10 z10
    obtain ⟨rfl, Nq10, hh10⟩ := hQ10
    have N10 := Fr.app N9 Nq10
    refine Goes.go (fun _ kk => st10.trans kk) ?_
    show Goes _ _ _ _ _ _ _ (T10.setTop (mkF m 95 _ [(.int (-1 : Int32))]))
    refine Goes.go (fun _ kk => XS.istore X10.here hx rfl (hb hby at_95) rfl (l' := #[.val (.int p0), .val (.int p1), .val (.int p2), .val (.ref ar1), .val (.int (4 : Int32)), .val (.int (0 : Int32)), .val (.ref ob52), .val (.int (1 : Int32)), .val (.int (-1 : Int32)), .val (.int (-1 : Int32)), .unset, .unset, .unset, .unset]) rfl kk) ?_
    show Goes _ _ _ _ _ _ _ (T10.setTop (mkF m 97 #[.val (.int p0), .val (.int p1), .val (.int p2), .val (.ref ar1), .val (.int (4 : Int32)), .val (.int (0 : Int32)), .val (.ref ob52), .val (.int (1 : Int32)), .val (.int (-1 : Int32)), .val (.int (-1 : Int32)), .unset, .unset, .unset, .unset] []))
    refine Goes.go (fun _ kk => XS.aload X10.here hx rfl (hb hby at_97) rfl rfl kk) ?_
    show Goes _ _ _ _ _ _ _ (T10.setTop (mkF m 99 _ [(.ref ob52)]))
    obtain ⟨cq11, kq11, qa11, qb11, qc11⟩ := isOf hZ hh10 Eq7
    obtain ⟨_, _, ⟨T11, L11, k11, n11⟩, -, X11, ⟨Lc11, hQ11, l11, y11, z11⟩, st11⟩ := X10.virtualBack hx (y := (⟨"com/example/wide_schema/wideschema/io/BytesInput", "read", "()I"⟩ : MethodName)) (z := (⟨"com/example/wide_schema/wideschema/io/BytesInput", "read", "()I"⟩ : MethodName)) hown (mvT hZ (hw _ (List.mem_of_getElem? (i := 27) rfl))) (mvT hZ (hw _ (List.mem_of_getElem? (i := 28) rfl))) (notFace_of_selects (args := #[]) (mvT hZ (hw _ (List.mem_of_getElem? (i := 30) rfl)))) (mvT hZ (hw _ (List.mem_of_getElem? (i := 30) rfl))) (mvT hZ (hw _ (List.mem_of_getElem? (i := 29) rfl))) (by decide) (backOf (W := 0) (rmN l Z a0 hw [] ob52 (4 : Int32) (4 : Int32) T7.heap n0 Z7 Fq7_1 Fq7_2 (by decide)) hZ (hw _ (List.mem_of_getElem? (i := 31) rfl)) (hw _ (List.mem_of_getElem? (i := 4) rfl)) (by decide) (by decide)) qa11 qc11 (g := (mkF m 99 #[.val (.int p0), .val (.int p1), .val (.int p2), .val (.ref ar1), .val (.int (4 : Int32)), .val (.int (0 : Int32)), .val (.ref ob52), .val (.int (1 : Int32)), .val (.int (-1 : Int32)), .val (.int (-1 : Int32)), .unset, .unset, .unset, .unset] [(.ref ob52)])) rfl (by rw [hml]; rfl) (Steps.refl _) (argsL := []) (rest := []) (lenOf pd2 rfl) rfl (by show 2 * 0 + _ ≤ _; exact Nat.le_of_eq rfl) (hb hby at_99) (fun _ _ => ⟨rfl, hh10, (by decide : 2 + 0 ≤ _), (by decide : 7 + 0 ≤ _)⟩)
    dsimp only [Pt.U, Pt.locs, Pt.cells, Pt.slots] at X11 l11 y11 z11 st11 hQ11
    subst l11 y11 z11
    obtain ⟨rfl, Nq11, hh11⟩ := hQ11
    have N11 := Fr.app N10 Nq11
    refine Goes.go (fun _ kk => st11.trans kk) ?_
    show Goes _ _ _ _ _ _ _ (T11.setTop (mkF m 102 _ [(.int (-1 : Int32))]))
    refine Goes.go (fun _ kk => XS.istore X11.here hx rfl (hb hby at_102) rfl (l' := #[.val (.int p0), .val (.int p1), .val (.int p2), .val (.ref ar1), .val (.int (4 : Int32)), .val (.int (0 : Int32)), .val (.ref ob52), .val (.int (1 : Int32)), .val (.int (-1 : Int32)), .val (.int (-1 : Int32)), .val (.int (-1 : Int32)), .unset, .unset, .unset]) rfl kk) ?_
    show Goes _ _ _ _ _ _ _ (T11.setTop (mkF m 104 #[.val (.int p0), .val (.int p1), .val (.int p2), .val (.ref ar1), .val (.int (4 : Int32)), .val (.int (0 : Int32)), .val (.ref ob52), .val (.int (1 : Int32)), .val (.int (-1 : Int32)), .val (.int (-1 : Int32)), .val (.int (-1 : Int32)), .unset, .unset, .unset] []))
    refine Goes.go (fun _ kk => XS.aload X11.here hx rfl (hb hby at_104) rfl rfl kk) ?_
    show Goes _ _ _ _ _ _ _ (T11.setTop (mkF m 106 _ [(.ref ob52)]))
    obtain ⟨cq12, kq12, qa12, qb12, qc12⟩ := isOf hZ hh11 Eq7
    obtain ⟨_, _, ⟨T12, L12, k12, n12⟩, -, X12, ⟨Lc12, hQ12, l12, y12, z12⟩, st12⟩ := X11.virtualBack hx (y := (⟨"com/example/wide_schema/wideschema/io/BytesInput", "read", "()I"⟩ : MethodName)) (z := (⟨"com/example/wide_schema/wideschema/io/BytesInput", "read", "()I"⟩ : MethodName)) hown (mvT hZ (hw _ (List.mem_of_getElem? (i := 27) rfl))) (mvT hZ (hw _ (List.mem_of_getElem? (i := 28) rfl))) (notFace_of_selects (args := #[]) (mvT hZ (hw _ (List.mem_of_getElem? (i := 30) rfl)))) (mvT hZ (hw _ (List.mem_of_getElem? (i := 30) rfl))) (mvT hZ (hw _ (List.mem_of_getElem? (i := 29) rfl))) (by decide) (backOf (W := 0) (rmN l Z a0 hw [] ob52 (4 : Int32) (4 : Int32) T7.heap n0 Z7 Fq7_1 Fq7_2 (by decide)) hZ (hw _ (List.mem_of_getElem? (i := 31) rfl)) (hw _ (List.mem_of_getElem? (i := 4) rfl)) (by decide) (by decide)) qa12 qc12 (g := (mkF m 106 #[.val (.int p0), .val (.int p1), .val (.int p2), .val (.ref ar1), .val (.int (4 : Int32)), .val (.int (0 : Int32)), .val (.ref ob52), .val (.int (1 : Int32)), .val (.int (-1 : Int32)), .val (.int (-1 : Int32)), .val (.int (-1 : Int32)), .unset, .unset, .unset] [(.ref ob52)])) rfl (by rw [hml]; rfl) (Steps.refl _) (argsL := []) (rest := []) (lenOf pd2 rfl) rfl (by show 2 * 0 + _ ≤ _; exact Nat.le_of_eq rfl) (hb hby at_106) (fun _ _ => ⟨rfl, hh11, (by decide : 2 + 0 ≤ _), (by decide : 7 + 0 ≤ _)⟩)
    dsimp only [Pt.U, Pt.locs, Pt.cells, Pt.slots] at X12 l12 y12 z12 st12 hQ12
    subst l12 y12 z12
    obtain ⟨rfl, Nq12, hh12⟩ := hQ12
    have N12 := Fr.app N11 Nq12
    refine Goes.go (fun _ kk => st12.trans kk) ?_
    show Goes _ _ _ _ _ _ _ (T12.setTop (mkF m 109 _ [(.int (-1 : Int32))]))
    refine Goes.go (fun _ kk => XS.istore X12.here hx rfl (hb hby at_109) rfl (l' := #[.val (.int p0), .val (.int p1), .val (.int p2), .val (.ref ar1), .val (.int (4 : Int32)), .val (.int (0 : Int32)), .val (.ref ob52), .val (.int (1 : Int32)), .val (.int (-1 : Int32)), .val (.int (-1 : Int32)), .val (.int (-1 : Int32)), .val (.int (-1 : Int32)), .unset, .unset]) rfl kk) ?_
    show Goes _ _ _ _ _ _ _ (T12.setTop (mkF m 111 #[.val (.int p0), .val (.int p1), .val (.int p2), .val (.ref ar1), .val (.int (4 : Int32)), .val (.int (0 : Int32)), .val (.ref ob52), .val (.int (1 : Int32)), .val (.int (-1 : Int32)), .val (.int (-1 : Int32)), .val (.int (-1 : Int32)), .val (.int (-1 : Int32)), .unset, .unset] []))
    refine Goes.go (fun _ kk => XS.aload X12.here hx rfl (hb hby at_111) rfl rfl kk) ?_
    show Goes _ _ _ _ _ _ _ (T12.setTop (mkF m 113 _ [(.ref ob52)]))
    obtain ⟨cq13, kq13, qa13, qb13, qc13⟩ := isOf hZ hh12 Eq7
    obtain ⟨_, _, ⟨T13, L13, k13, n13⟩, -, X13, ⟨Lc13, hQ13, l13, y13, z13⟩, st13⟩ := X12.virtualBack hx (y := (⟨"com/example/wide_schema/wideschema/io/BytesInput", "read", "()I"⟩ : MethodName)) (z := (⟨"com/example/wide_schema/wideschema/io/BytesInput", "read", "()I"⟩ : MethodName)) hown (mvT hZ (hw _ (List.mem_of_getElem? (i := 27) rfl))) (mvT hZ (hw _ (List.mem_of_getElem? (i := 28) rfl))) (notFace_of_selects (args := #[]) (mvT hZ (hw _ (List.mem_of_getElem? (i := 30) rfl)))) (mvT hZ (hw _ (List.mem_of_getElem? (i := 30) rfl))) (mvT hZ (hw _ (List.mem_of_getElem? (i := 29) rfl))) (by decide) (backOf (W := 0) (rmN l Z a0 hw [] ob52 (4 : Int32) (4 : Int32) T7.heap n0 Z7 Fq7_1 Fq7_2 (by decide)) hZ (hw _ (List.mem_of_getElem? (i := 31) rfl)) (hw _ (List.mem_of_getElem? (i := 4) rfl)) (by decide) (by decide)) qa13 qc13 (g := (mkF m 113 #[.val (.int p0), .val (.int p1), .val (.int p2), .val (.ref ar1), .val (.int (4 : Int32)), .val (.int (0 : Int32)), .val (.ref ob52), .val (.int (1 : Int32)), .val (.int (-1 : Int32)), .val (.int (-1 : Int32)), .val (.int (-1 : Int32)), .val (.int (-1 : Int32)), .unset, .unset] [(.ref ob52)])) rfl (by rw [hml]; rfl) (Steps.refl _) (argsL := []) (rest := []) (lenOf pd2 rfl) rfl (by show 2 * 0 + _ ≤ _; exact Nat.le_of_eq rfl) (hb hby at_113) (fun _ _ => ⟨rfl, hh12, (by decide : 2 + 0 ≤ _), (by decide : 7 + 0 ≤ _)⟩)
    dsimp only [Pt.U, Pt.locs, Pt.cells, Pt.slots] at X13 l13 y13 z13 st13 hQ13
    subst l13 y13 z13
    obtain ⟨rfl, Nq13, hh13⟩ := hQ13
    have N13 := Fr.app N12 Nq13
    refine Goes.go (fun _ kk => st13.trans kk) ?_
    show Goes _ _ _ _ _ _ _ (T13.setTop (mkF m 116 _ [(.int (-1 : Int32))]))
    refine Goes.go (fun _ kk => XS.istore X13.here hx rfl (hb hby at_116) rfl (l' := #[.val (.int p0), .val (.int p1), .val (.int p2), .val (.ref ar1), .val (.int (4 : Int32)), .val (.int (0 : Int32)), .val (.ref ob52), .val (.int (1 : Int32)), .val (.int (-1 : Int32)), .val (.int (-1 : Int32)), .val (.int (-1 : Int32)), .val (.int (-1 : Int32)), .val (.int (-1 : Int32)), .unset]) rfl kk) ?_
    show Goes _ _ _ _ _ _ _ (T13.setTop (mkF m 118 #[.val (.int p0), .val (.int p1), .val (.int p2), .val (.ref ar1), .val (.int (4 : Int32)), .val (.int (0 : Int32)), .val (.ref ob52), .val (.int (1 : Int32)), .val (.int (-1 : Int32)), .val (.int (-1 : Int32)), .val (.int (-1 : Int32)), .val (.int (-1 : Int32)), .val (.int (-1 : Int32)), .unset] []))
    refine Goes.go (fun _ kk => XS.aload X13.here hx rfl (hb hby at_118) rfl rfl kk) ?_
    show Goes _ _ _ _ _ _ _ (T13.setTop (mkF m 120 _ [(.ref ob52)]))
    obtain ⟨cq14, kq14, qa14, qb14, qc14⟩ := isOf hZ hh13 Eq7
    obtain ⟨_, _, ⟨T14, L14, k14, n14⟩, -, X14, ⟨Lc14, hQ14, l14, y14, z14⟩, st14⟩ := X13.virtualBack hx (y := (⟨"com/example/wide_schema/wideschema/io/BytesInput", "read", "()I"⟩ : MethodName)) (z := (⟨"com/example/wide_schema/wideschema/io/BytesInput", "read", "()I"⟩ : MethodName)) hown (mvT hZ (hw _ (List.mem_of_getElem? (i := 27) rfl))) (mvT hZ (hw _ (List.mem_of_getElem? (i := 28) rfl))) (notFace_of_selects (args := #[]) (mvT hZ (hw _ (List.mem_of_getElem? (i := 30) rfl)))) (mvT hZ (hw _ (List.mem_of_getElem? (i := 30) rfl))) (mvT hZ (hw _ (List.mem_of_getElem? (i := 29) rfl))) (by decide) (backOf (W := 0) (rmN l Z a0 hw [] ob52 (4 : Int32) (4 : Int32) T7.heap n0 Z7 Fq7_1 Fq7_2 (by decide)) hZ (hw _ (List.mem_of_getElem? (i := 31) rfl)) (hw _ (List.mem_of_getElem? (i := 4) rfl)) (by decide) (by decide)) qa14 qc14 (g := (mkF m 120 #[.val (.int p0), .val (.int p1), .val (.int p2), .val (.ref ar1), .val (.int (4 : Int32)), .val (.int (0 : Int32)), .val (.ref ob52), .val (.int (1 : Int32)), .val (.int (-1 : Int32)), .val (.int (-1 : Int32)), .val (.int (-1 : Int32)), .val (.int (-1 : Int32)), .val (.int (-1 : Int32)), .unset] [(.ref ob52)])) rfl (by rw [hml]; rfl) (Steps.refl _) (argsL := []) (rest := []) (lenOf pd2 rfl) rfl (by show 2 * 0 + _ ≤ _; exact Nat.le_of_eq rfl) (hb hby at_120) (fun _ _ => ⟨rfl, hh13, (by decide : 2 + 0 ≤ _), (by decide : 7 + 0 ≤ _)⟩)
    dsimp only [Pt.U, Pt.locs, Pt.cells, Pt.slots] at X14 l14 y14 z14 st14 hQ14
    subst l14 y14 z14
    obtain ⟨rfl, Nq14, hh14⟩ := hQ14
    have N14 := Fr.app N13 Nq14
    refine Goes.go (fun _ kk => st14.trans kk) ?_
    show Goes _ _ _ _ _ _ _ (T14.setTop (mkF m 123 _ [(.int (-1 : Int32))]))
    refine Goes.go (fun _ kk => XS.istore X14.here hx rfl (hb hby at_123) rfl (l' := #[.val (.int p0), .val (.int p1), .val (.int p2), .val (.ref ar1), .val (.int (4 : Int32)), .val (.int (0 : Int32)), .val (.ref ob52), .val (.int (1 : Int32)), .val (.int (-1 : Int32)), .val (.int (-1 : Int32)), .val (.int (-1 : Int32)), .val (.int (-1 : Int32)), .val (.int (-1 : Int32)), .val (.int (-1 : Int32))]) rfl kk) ?_
    show Goes _ _ _ _ _ _ _ (T14.setTop (mkF m 125 #[.val (.int p0), .val (.int p1), .val (.int p2), .val (.ref ar1), .val (.int (4 : Int32)), .val (.int (0 : Int32)), .val (.ref ob52), .val (.int (1 : Int32)), .val (.int (-1 : Int32)), .val (.int (-1 : Int32)), .val (.int (-1 : Int32)), .val (.int (-1 : Int32)), .val (.int (-1 : Int32)), .val (.int (-1 : Int32))] []))
    refine Goes.go (fun _ kk => XS.iload X14.here hx rfl (hb hby at_125) rfl kk) ?_
    show Goes _ _ _ _ _ _ _ (T14.setTop (mkF m 127 _ [(.int (1 : Int32))]))
    refine Goes.go (fun _ kk => XS.ifNo X14.here hx rfl (hb hby at_127) rfl (XT.i0_eq_f (by decide)) kk) ?_
    show Goes _ _ _ _ _ _ _ (T14.setTop (mkF m 130 _ []))
    refine Goes.go (fun _ kk => XS.iload X14.here hx rfl (hb hby at_130) rfl kk) ?_
    show Goes _ _ _ _ _ _ _ (T14.setTop (mkF m 132 _ [(.int (-1 : Int32))]))
    refine Goes.go (fun _ kk => XS.iloadN X14.here hx rfl (hb hby at_132) rfl kk) ?_
    show Goes _ _ _ _ _ _ _ (T14.setTop (mkF m 133 _ [(.int p0), (.int (-1 : Int32))]))
    refine Goes.go (fun _ kk => XS.iload X14.here hx rfl (hb hby at_133) rfl kk) ?_
    show Goes _ _ _ _ _ _ _ (T14.setTop (mkF m 135 _ [(.int (4 : Int32)), (.int p0), (.int (-1 : Int32))]))
    refine Goes.go (fun _ kk => XS.iload X14.here hx rfl (hb hby at_135) rfl kk) ?_
    show Goes _ _ _ _ _ _ _ (T14.setTop (mkF m 137 _ [(.int (0 : Int32)), (.int (4 : Int32)), (.int p0), (.int (-1 : Int32))]))
    refine Goes.go (fun _ kk => XS.iconst X14.here hx rfl (hb hby at_137) kk) ?_
    show Goes _ _ _ _ _ _ _ (T14.setTop (mkF m 138 _ [(.int (0 : Int32)), (.int (0 : Int32)), (.int (4 : Int32)), (.int p0), (.int (-1 : Int32))]))
    obtain ⟨_, _, ⟨T15, L15, k15, n15⟩, -, X15, ⟨Lc15, hQ15, l15, y15, z15⟩, st15⟩ := Jvm.LawKit.callS X14 hx (y := (⟨"com/example/wide_schema/wideschema/io/BytesInputReadPinLaw", "exp", "(IIII)I"⟩ : MethodName)) hown (mvT hZ (hw _ (List.mem_of_getElem? (i := 32) rfl))) (mvT hZ (hw _ (List.mem_of_getElem? (i := 33) rfl))) (mvT hZ (hw _ (List.mem_of_getElem? (i := 34) rfl))) (mvT hZ (hw _ (List.mem_of_getElem? (i := 35) rfl))) (by decide) (backOf (W := 1) (rm5 l Z a0 hw [] p0 (4 : Int32) (0 : Int32) (0 : Int32) T7.heap n0 Z7) hZ (hw _ (List.mem_of_getElem? (i := 35) rfl)) (hw _ (List.mem_of_getElem? (i := 34) rfl)) (by decide) (by decide)) (g := (mkF m 138 #[.val (.int p0), .val (.int p1), .val (.int p2), .val (.ref ar1), .val (.int (4 : Int32)), .val (.int (0 : Int32)), .val (.ref ob52), .val (.int (1 : Int32)), .val (.int (-1 : Int32)), .val (.int (-1 : Int32)), .val (.int (-1 : Int32)), .val (.int (-1 : Int32)), .val (.int (-1 : Int32)), .val (.int (-1 : Int32))] [(.int (0 : Int32)), (.int (0 : Int32)), (.int (4 : Int32)), (.int p0), (.int (-1 : Int32))])) rfl (by rw [hml]; rfl) (argsL := [(.int p0), (.int (4 : Int32)), (.int (0 : Int32)), (.int (0 : Int32))]) (rest := [(.int (-1 : Int32))]) (lenOf pd3 rfl) rfl (by show 2 * 0 + _ ≤ _; exact Nat.le_of_eq rfl) (hb hby at_138) (fun _ _ => ⟨rfl, hh14, (by decide : 2 + 0 ≤ _), (by decide : 7 + 0 ≤ _)⟩)
    dsimp only [Pt.U, Pt.locs, Pt.cells, Pt.slots] at X15 l15 y15 z15 st15 hQ15
    subst l15 y15 z15
    obtain ⟨rfl, Nq15, hh15⟩ := hQ15
    have N15 := Fr.app N14 Nq15
    refine Goes.go (st15) ?_
    show Goes _ _ _ _ _ _ _ (T15.setTop (mkF m 141 _ [(.int (exF p0 (4 : Int32) (0 : Int32) (0 : Int32))), (.int (-1 : Int32))]))
    refine Goes.go (fun _ kk => XS.icmpNo X15.here hx rfl (hb hby at_141) rfl (XT.ii_ne_f (own_m (by decide))) kk) ?_
    show Goes _ _ _ _ _ _ _ (T15.setTop (mkF m 144 _ []))
    refine Goes.go (fun _ kk => XS.iconst X15.here hx rfl (hb hby at_144) kk) ?_
    show Goes _ _ _ _ _ _ _ (T15.setTop (mkF m 145 _ [(.int (1 : Int32))]))
    refine Goes.go (fun _ kk => XS.goto X15.here hx rfl (pc0 := 145) (pc' := 149) rfl (hb hby at_145) (by decide) (by decide) kk) ?_
    show Goes _ _ _ _ _ _ _ (T15.setTop (mkF m 149 _ [(.int (1 : Int32))]))
    refine Goes.go (fun _ kk => XS.istore X15.here hx rfl (hb hby at_149) rfl (l' := #[.val (.int p0), .val (.int p1), .val (.int p2), .val (.ref ar1), .val (.int (4 : Int32)), .val (.int (0 : Int32)), .val (.ref ob52), .val (.int (1 : Int32)), .val (.int (-1 : Int32)), .val (.int (-1 : Int32)), .val (.int (-1 : Int32)), .val (.int (-1 : Int32)), .val (.int (-1 : Int32)), .val (.int (-1 : Int32))]) rfl kk) ?_
    show Goes _ _ _ _ _ _ _ (T15.setTop (mkF m 151 _ []))
    refine Goes.go (fun _ kk => XS.iload X15.here hx rfl (hb hby at_151) rfl kk) ?_
    show Goes _ _ _ _ _ _ _ (T15.setTop (mkF m 153 _ [(.int (1 : Int32))]))
    refine Goes.go (fun _ kk => XS.ifNo X15.here hx rfl (hb hby at_153) rfl (XT.i0_eq_f (by decide)) kk) ?_
    show Goes _ _ _ _ _ _ _ (T15.setTop (mkF m 156 _ []))
    refine Goes.go (fun _ kk => XS.iload X15.here hx rfl (hb hby at_156) rfl kk) ?_
    show Goes _ _ _ _ _ _ _ (T15.setTop (mkF m 158 _ [(.int (-1 : Int32))]))
    refine Goes.go (fun _ kk => XS.iloadN X15.here hx rfl (hb hby at_158) rfl kk) ?_
    show Goes _ _ _ _ _ _ _ (T15.setTop (mkF m 159 _ [(.int p0), (.int (-1 : Int32))]))
    refine Goes.go (fun _ kk => XS.iload X15.here hx rfl (hb hby at_159) rfl kk) ?_
    show Goes _ _ _ _ _ _ _ (T15.setTop (mkF m 161 _ [(.int (4 : Int32)), (.int p0), (.int (-1 : Int32))]))
    refine Goes.go (fun _ kk => XS.iload X15.here hx rfl (hb hby at_161) rfl kk) ?_
    show Goes _ _ _ _ _ _ _ (T15.setTop (mkF m 163 _ [(.int (0 : Int32)), (.int (4 : Int32)), (.int p0), (.int (-1 : Int32))]))
    refine Goes.go (fun _ kk => XS.iconst X15.here hx rfl (hb hby at_163) kk) ?_
    show Goes _ _ _ _ _ _ _ (T15.setTop (mkF m 164 _ [(.int (1 : Int32)), (.int (0 : Int32)), (.int (4 : Int32)), (.int p0), (.int (-1 : Int32))]))
    obtain ⟨_, _, ⟨T16, L16, k16, n16⟩, -, X16, ⟨Lc16, hQ16, l16, y16, z16⟩, st16⟩ := Jvm.LawKit.callS X15 hx (y := (⟨"com/example/wide_schema/wideschema/io/BytesInputReadPinLaw", "exp", "(IIII)I"⟩ : MethodName)) hown (mvT hZ (hw _ (List.mem_of_getElem? (i := 32) rfl))) (mvT hZ (hw _ (List.mem_of_getElem? (i := 33) rfl))) (mvT hZ (hw _ (List.mem_of_getElem? (i := 34) rfl))) (mvT hZ (hw _ (List.mem_of_getElem? (i := 35) rfl))) (by decide) (backOf (W := 1) (rm5 l Z a0 hw [] p0 (4 : Int32) (0 : Int32) (1 : Int32) T7.heap n0 Z7) hZ (hw _ (List.mem_of_getElem? (i := 35) rfl)) (hw _ (List.mem_of_getElem? (i := 34) rfl)) (by decide) (by decide)) (g := (mkF m 164 #[.val (.int p0), .val (.int p1), .val (.int p2), .val (.ref ar1), .val (.int (4 : Int32)), .val (.int (0 : Int32)), .val (.ref ob52), .val (.int (1 : Int32)), .val (.int (-1 : Int32)), .val (.int (-1 : Int32)), .val (.int (-1 : Int32)), .val (.int (-1 : Int32)), .val (.int (-1 : Int32)), .val (.int (-1 : Int32))] [(.int (1 : Int32)), (.int (0 : Int32)), (.int (4 : Int32)), (.int p0), (.int (-1 : Int32))])) rfl (by rw [hml]; rfl) (argsL := [(.int p0), (.int (4 : Int32)), (.int (0 : Int32)), (.int (1 : Int32))]) (rest := [(.int (-1 : Int32))]) (lenOf pd3 rfl) rfl (by show 2 * 0 + _ ≤ _; exact Nat.le_of_eq rfl) (hb hby at_164) (fun _ _ => ⟨rfl, hh15, (by decide : 2 + 0 ≤ _), (by decide : 7 + 0 ≤ _)⟩)
    dsimp only [Pt.U, Pt.locs, Pt.cells, Pt.slots] at X16 l16 y16 z16 st16 hQ16
    subst l16 y16 z16
    obtain ⟨rfl, Nq16, hh16⟩ := hQ16
    have N16 := Fr.app N15 Nq16
    refine Goes.go (st16) ?_
    show Goes _ _ _ _ _ _ _ (T16.setTop (mkF m 167 _ [(.int (exF p0 (4 : Int32) (0 : Int32) (1 : Int32))), (.int (-1 : Int32))]))
    refine Goes.go (fun _ kk => XS.icmpNo X16.here hx rfl (hb hby at_167) rfl (XT.ii_ne_f (own_m (by decide))) kk) ?_
    show Goes _ _ _ _ _ _ _ (T16.setTop (mkF m 170 _ []))
    refine Goes.go (fun _ kk => XS.iconst X16.here hx rfl (hb hby at_170) kk) ?_
    show Goes _ _ _ _ _ _ _ (T16.setTop (mkF m 171 _ [(.int (1 : Int32))]))
    refine Goes.go (fun _ kk => XS.goto X16.here hx rfl (pc0 := 171) (pc' := 175) rfl (hb hby at_171) (by decide) (by decide) kk) ?_
    show Goes _ _ _ _ _ _ _ (T16.setTop (mkF m 175 _ [(.int (1 : Int32))]))
    refine Goes.go (fun _ kk => XS.istore X16.here hx rfl (hb hby at_175) rfl (l' := #[.val (.int p0), .val (.int p1), .val (.int p2), .val (.ref ar1), .val (.int (4 : Int32)), .val (.int (0 : Int32)), .val (.ref ob52), .val (.int (1 : Int32)), .val (.int (-1 : Int32)), .val (.int (-1 : Int32)), .val (.int (-1 : Int32)), .val (.int (-1 : Int32)), .val (.int (-1 : Int32)), .val (.int (-1 : Int32))]) rfl kk) ?_
    show Goes _ _ _ _ _ _ _ (T16.setTop (mkF m 177 _ []))
    refine Goes.go (fun _ kk => XS.iload X16.here hx rfl (hb hby at_177) rfl kk) ?_
    show Goes _ _ _ _ _ _ _ (T16.setTop (mkF m 179 _ [(.int (1 : Int32))]))
    refine Goes.go (fun _ kk => XS.ifNo X16.here hx rfl (hb hby at_179) rfl (XT.i0_eq_f (by decide)) kk) ?_
    show Goes _ _ _ _ _ _ _ (T16.setTop (mkF m 182 _ []))
    refine Goes.go (fun _ kk => XS.iload X16.here hx rfl (hb hby at_182) rfl kk) ?_
    show Goes _ _ _ _ _ _ _ (T16.setTop (mkF m 184 _ [(.int (-1 : Int32))]))
    refine Goes.go (fun _ kk => XS.iloadN X16.here hx rfl (hb hby at_184) rfl kk) ?_
    show Goes _ _ _ _ _ _ _ (T16.setTop (mkF m 185 _ [(.int p0), (.int (-1 : Int32))]))
    refine Goes.go (fun _ kk => XS.iload X16.here hx rfl (hb hby at_185) rfl kk) ?_
    show Goes _ _ _ _ _ _ _ (T16.setTop (mkF m 187 _ [(.int (4 : Int32)), (.int p0), (.int (-1 : Int32))]))
    refine Goes.go (fun _ kk => XS.iload X16.here hx rfl (hb hby at_187) rfl kk) ?_
    show Goes _ _ _ _ _ _ _ (T16.setTop (mkF m 189 _ [(.int (0 : Int32)), (.int (4 : Int32)), (.int p0), (.int (-1 : Int32))]))
    refine Goes.go (fun _ kk => XS.iconst X16.here hx rfl (hb hby at_189) kk) ?_
    show Goes _ _ _ _ _ _ _ (T16.setTop (mkF m 190 _ [(.int (2 : Int32)), (.int (0 : Int32)), (.int (4 : Int32)), (.int p0), (.int (-1 : Int32))]))
    obtain ⟨_, _, ⟨T17, L17, k17, n17⟩, -, X17, ⟨Lc17, hQ17, l17, y17, z17⟩, st17⟩ := Jvm.LawKit.callS X16 hx (y := (⟨"com/example/wide_schema/wideschema/io/BytesInputReadPinLaw", "exp", "(IIII)I"⟩ : MethodName)) hown (mvT hZ (hw _ (List.mem_of_getElem? (i := 32) rfl))) (mvT hZ (hw _ (List.mem_of_getElem? (i := 33) rfl))) (mvT hZ (hw _ (List.mem_of_getElem? (i := 34) rfl))) (mvT hZ (hw _ (List.mem_of_getElem? (i := 35) rfl))) (by decide) (backOf (W := 1) (rm5 l Z a0 hw [] p0 (4 : Int32) (0 : Int32) (2 : Int32) T7.heap n0 Z7) hZ (hw _ (List.mem_of_getElem? (i := 35) rfl)) (hw _ (List.mem_of_getElem? (i := 34) rfl)) (by decide) (by decide)) (g := (mkF m 190 #[.val (.int p0), .val (.int p1), .val (.int p2), .val (.ref ar1), .val (.int (4 : Int32)), .val (.int (0 : Int32)), .val (.ref ob52), .val (.int (1 : Int32)), .val (.int (-1 : Int32)), .val (.int (-1 : Int32)), .val (.int (-1 : Int32)), .val (.int (-1 : Int32)), .val (.int (-1 : Int32)), .val (.int (-1 : Int32))] [(.int (2 : Int32)), (.int (0 : Int32)), (.int (4 : Int32)), (.int p0), (.int (-1 : Int32))])) rfl (by rw [hml]; rfl) (argsL := [(.int p0), (.int (4 : Int32)), (.int (0 : Int32)), (.int (2 : Int32))]) (rest := [(.int (-1 : Int32))]) (lenOf pd3 rfl) rfl (by show 2 * 0 + _ ≤ _; exact Nat.le_of_eq rfl) (hb hby at_190) (fun _ _ => ⟨rfl, hh16, (by decide : 2 + 0 ≤ _), (by decide : 7 + 0 ≤ _)⟩)
    dsimp only [Pt.U, Pt.locs, Pt.cells, Pt.slots] at X17 l17 y17 z17 st17 hQ17
    subst l17 y17 z17
    obtain ⟨rfl, Nq17, hh17⟩ := hQ17
    have N17 := Fr.app N16 Nq17
    refine Goes.go (st17) ?_
    show Goes _ _ _ _ _ _ _ (T17.setTop (mkF m 193 _ [(.int (exF p0 (4 : Int32) (0 : Int32) (2 : Int32))), (.int (-1 : Int32))]))
    refine Goes.go (fun _ kk => XS.icmpNo X17.here hx rfl (hb hby at_193) rfl (XT.ii_ne_f (own_m (by decide))) kk) ?_
    show Goes _ _ _ _ _ _ _ (T17.setTop (mkF m 196 _ []))
    refine Goes.go (fun _ kk => XS.iconst X17.here hx rfl (hb hby at_196) kk) ?_
    show Goes _ _ _ _ _ _ _ (T17.setTop (mkF m 197 _ [(.int (1 : Int32))]))
    refine Goes.go (fun _ kk => XS.goto X17.here hx rfl (pc0 := 197) (pc' := 201) rfl (hb hby at_197) (by decide) (by decide) kk) ?_
    show Goes _ _ _ _ _ _ _ (T17.setTop (mkF m 201 _ [(.int (1 : Int32))]))
    refine Goes.go (fun _ kk => XS.istore X17.here hx rfl (hb hby at_201) rfl (l' := #[.val (.int p0), .val (.int p1), .val (.int p2), .val (.ref ar1), .val (.int (4 : Int32)), .val (.int (0 : Int32)), .val (.ref ob52), .val (.int (1 : Int32)), .val (.int (-1 : Int32)), .val (.int (-1 : Int32)), .val (.int (-1 : Int32)), .val (.int (-1 : Int32)), .val (.int (-1 : Int32)), .val (.int (-1 : Int32))]) rfl kk) ?_
    show Goes _ _ _ _ _ _ _ (T17.setTop (mkF m 203 _ []))
    refine Goes.go (fun _ kk => XS.iload X17.here hx rfl (hb hby at_203) rfl kk) ?_
    show Goes _ _ _ _ _ _ _ (T17.setTop (mkF m 205 _ [(.int (1 : Int32))]))
    refine Goes.go (fun _ kk => XS.ifNo X17.here hx rfl (hb hby at_205) rfl (XT.i0_eq_f (by decide)) kk) ?_
    show Goes _ _ _ _ _ _ _ (T17.setTop (mkF m 208 _ []))
    refine Goes.go (fun _ kk => XS.iload X17.here hx rfl (hb hby at_208) rfl kk) ?_
    show Goes _ _ _ _ _ _ _ (T17.setTop (mkF m 210 _ [(.int (-1 : Int32))]))
    refine Goes.go (fun _ kk => XS.iloadN X17.here hx rfl (hb hby at_210) rfl kk) ?_
    show Goes _ _ _ _ _ _ _ (T17.setTop (mkF m 211 _ [(.int p0), (.int (-1 : Int32))]))
    refine Goes.go (fun _ kk => XS.iload X17.here hx rfl (hb hby at_211) rfl kk) ?_
    show Goes _ _ _ _ _ _ _ (T17.setTop (mkF m 213 _ [(.int (4 : Int32)), (.int p0), (.int (-1 : Int32))]))
    refine Goes.go (fun _ kk => XS.iload X17.here hx rfl (hb hby at_213) rfl kk) ?_
    show Goes _ _ _ _ _ _ _ (T17.setTop (mkF m 215 _ [(.int (0 : Int32)), (.int (4 : Int32)), (.int p0), (.int (-1 : Int32))]))
    refine Goes.go (fun _ kk => XS.iconst X17.here hx rfl (hb hby at_215) kk) ?_
    show Goes _ _ _ _ _ _ _ (T17.setTop (mkF m 216 _ [(.int (3 : Int32)), (.int (0 : Int32)), (.int (4 : Int32)), (.int p0), (.int (-1 : Int32))]))
    obtain ⟨_, _, ⟨T18, L18, k18, n18⟩, -, X18, ⟨Lc18, hQ18, l18, y18, z18⟩, st18⟩ := Jvm.LawKit.callS X17 hx (y := (⟨"com/example/wide_schema/wideschema/io/BytesInputReadPinLaw", "exp", "(IIII)I"⟩ : MethodName)) hown (mvT hZ (hw _ (List.mem_of_getElem? (i := 32) rfl))) (mvT hZ (hw _ (List.mem_of_getElem? (i := 33) rfl))) (mvT hZ (hw _ (List.mem_of_getElem? (i := 34) rfl))) (mvT hZ (hw _ (List.mem_of_getElem? (i := 35) rfl))) (by decide) (backOf (W := 1) (rm5 l Z a0 hw [] p0 (4 : Int32) (0 : Int32) (3 : Int32) T7.heap n0 Z7) hZ (hw _ (List.mem_of_getElem? (i := 35) rfl)) (hw _ (List.mem_of_getElem? (i := 34) rfl)) (by decide) (by decide)) (g := (mkF m 216 #[.val (.int p0), .val (.int p1), .val (.int p2), .val (.ref ar1), .val (.int (4 : Int32)), .val (.int (0 : Int32)), .val (.ref ob52), .val (.int (1 : Int32)), .val (.int (-1 : Int32)), .val (.int (-1 : Int32)), .val (.int (-1 : Int32)), .val (.int (-1 : Int32)), .val (.int (-1 : Int32)), .val (.int (-1 : Int32))] [(.int (3 : Int32)), (.int (0 : Int32)), (.int (4 : Int32)), (.int p0), (.int (-1 : Int32))])) rfl (by rw [hml]; rfl) (argsL := [(.int p0), (.int (4 : Int32)), (.int (0 : Int32)), (.int (3 : Int32))]) (rest := [(.int (-1 : Int32))]) (lenOf pd3 rfl) rfl (by show 2 * 0 + _ ≤ _; exact Nat.le_of_eq rfl) (hb hby at_216) (fun _ _ => ⟨rfl, hh17, (by decide : 2 + 0 ≤ _), (by decide : 7 + 0 ≤ _)⟩)
    dsimp only [Pt.U, Pt.locs, Pt.cells, Pt.slots] at X18 l18 y18 z18 st18 hQ18
    subst l18 y18 z18
    obtain ⟨rfl, Nq18, hh18⟩ := hQ18
    have N18 := Fr.app N17 Nq18
    refine Goes.go (st18) ?_
    show Goes _ _ _ _ _ _ _ (T18.setTop (mkF m 219 _ [(.int (exF p0 (4 : Int32) (0 : Int32) (3 : Int32))), (.int (-1 : Int32))]))
    refine Goes.go (fun _ kk => XS.icmpNo X18.here hx rfl (hb hby at_219) rfl (XT.ii_ne_f (own_m (by decide))) kk) ?_
    show Goes _ _ _ _ _ _ _ (T18.setTop (mkF m 222 _ []))
    refine Goes.go (fun _ kk => XS.iconst X18.here hx rfl (hb hby at_222) kk) ?_
    show Goes _ _ _ _ _ _ _ (T18.setTop (mkF m 223 _ [(.int (1 : Int32))]))
    refine Goes.go (fun _ kk => XS.goto X18.here hx rfl (pc0 := 223) (pc' := 227) rfl (hb hby at_223) (by decide) (by decide) kk) ?_
    show Goes _ _ _ _ _ _ _ (T18.setTop (mkF m 227 _ [(.int (1 : Int32))]))
    refine Goes.go (fun _ kk => XS.istore X18.here hx rfl (hb hby at_227) rfl (l' := #[.val (.int p0), .val (.int p1), .val (.int p2), .val (.ref ar1), .val (.int (4 : Int32)), .val (.int (0 : Int32)), .val (.ref ob52), .val (.int (1 : Int32)), .val (.int (-1 : Int32)), .val (.int (-1 : Int32)), .val (.int (-1 : Int32)), .val (.int (-1 : Int32)), .val (.int (-1 : Int32)), .val (.int (-1 : Int32))]) rfl kk) ?_
    show Goes _ _ _ _ _ _ _ (T18.setTop (mkF m 229 _ []))
    refine Goes.go (fun _ kk => XS.iload X18.here hx rfl (hb hby at_229) rfl kk) ?_
    show Goes _ _ _ _ _ _ _ (T18.setTop (mkF m 231 _ [(.int (1 : Int32))]))
    refine Goes.go (fun _ kk => XS.ifNo X18.here hx rfl (hb hby at_231) rfl (XT.i0_eq_f (by decide)) kk) ?_
    show Goes _ _ _ _ _ _ _ (T18.setTop (mkF m 234 _ []))
    refine Goes.go (fun _ kk => XS.iload X18.here hx rfl (hb hby at_234) rfl kk) ?_
    show Goes _ _ _ _ _ _ _ (T18.setTop (mkF m 236 _ [(.int (-1 : Int32))]))
    refine Goes.go (fun _ kk => XS.iloadN X18.here hx rfl (hb hby at_236) rfl kk) ?_
    show Goes _ _ _ _ _ _ _ (T18.setTop (mkF m 237 _ [(.int p0), (.int (-1 : Int32))]))
    refine Goes.go (fun _ kk => XS.iload X18.here hx rfl (hb hby at_237) rfl kk) ?_
    show Goes _ _ _ _ _ _ _ (T18.setTop (mkF m 239 _ [(.int (4 : Int32)), (.int p0), (.int (-1 : Int32))]))
    refine Goes.go (fun _ kk => XS.iload X18.here hx rfl (hb hby at_239) rfl kk) ?_
    show Goes _ _ _ _ _ _ _ (T18.setTop (mkF m 241 _ [(.int (0 : Int32)), (.int (4 : Int32)), (.int p0), (.int (-1 : Int32))]))
    refine Goes.go (fun _ kk => XS.iconst X18.here hx rfl (hb hby at_241) kk) ?_
    show Goes _ _ _ _ _ _ _ (T18.setTop (mkF m 242 _ [(.int (4 : Int32)), (.int (0 : Int32)), (.int (4 : Int32)), (.int p0), (.int (-1 : Int32))]))
    obtain ⟨_, _, ⟨T19, L19, k19, n19⟩, -, X19, ⟨Lc19, hQ19, l19, y19, z19⟩, st19⟩ := Jvm.LawKit.callS X18 hx (y := (⟨"com/example/wide_schema/wideschema/io/BytesInputReadPinLaw", "exp", "(IIII)I"⟩ : MethodName)) hown (mvT hZ (hw _ (List.mem_of_getElem? (i := 32) rfl))) (mvT hZ (hw _ (List.mem_of_getElem? (i := 33) rfl))) (mvT hZ (hw _ (List.mem_of_getElem? (i := 34) rfl))) (mvT hZ (hw _ (List.mem_of_getElem? (i := 35) rfl))) (by decide) (backOf (W := 1) (rm5 l Z a0 hw [] p0 (4 : Int32) (0 : Int32) (4 : Int32) T7.heap n0 Z7) hZ (hw _ (List.mem_of_getElem? (i := 35) rfl)) (hw _ (List.mem_of_getElem? (i := 34) rfl)) (by decide) (by decide)) (g := (mkF m 242 #[.val (.int p0), .val (.int p1), .val (.int p2), .val (.ref ar1), .val (.int (4 : Int32)), .val (.int (0 : Int32)), .val (.ref ob52), .val (.int (1 : Int32)), .val (.int (-1 : Int32)), .val (.int (-1 : Int32)), .val (.int (-1 : Int32)), .val (.int (-1 : Int32)), .val (.int (-1 : Int32)), .val (.int (-1 : Int32))] [(.int (4 : Int32)), (.int (0 : Int32)), (.int (4 : Int32)), (.int p0), (.int (-1 : Int32))])) rfl (by rw [hml]; rfl) (argsL := [(.int p0), (.int (4 : Int32)), (.int (0 : Int32)), (.int (4 : Int32))]) (rest := [(.int (-1 : Int32))]) (lenOf pd3 rfl) rfl (by show 2 * 0 + _ ≤ _; exact Nat.le_of_eq rfl) (hb hby at_242) (fun _ _ => ⟨rfl, hh18, (by decide : 2 + 0 ≤ _), (by decide : 7 + 0 ≤ _)⟩)
    dsimp only [Pt.U, Pt.locs, Pt.cells, Pt.slots] at X19 l19 y19 z19 st19 hQ19
    subst l19 y19 z19
    obtain ⟨rfl, Nq19, hh19⟩ := hQ19
    have N19 := Fr.app N18 Nq19
    refine Goes.go (st19) ?_
    show Goes _ _ _ _ _ _ _ (T19.setTop (mkF m 245 _ [(.int (exF p0 (4 : Int32) (0 : Int32) (4 : Int32))), (.int (-1 : Int32))]))
    refine Goes.go (fun _ kk => XS.icmpNo X19.here hx rfl (hb hby at_245) rfl (XT.ii_ne_f (own_m (by decide))) kk) ?_
    show Goes _ _ _ _ _ _ _ (T19.setTop (mkF m 248 _ []))
    refine Goes.go (fun _ kk => XS.iconst X19.here hx rfl (hb hby at_248) kk) ?_
    show Goes _ _ _ _ _ _ _ (T19.setTop (mkF m 249 _ [(.int (1 : Int32))]))
    refine Goes.go (fun _ kk => XS.goto X19.here hx rfl (pc0 := 249) (pc' := 253) rfl (hb hby at_249) (by decide) (by decide) kk) ?_
    show Goes _ _ _ _ _ _ _ (T19.setTop (mkF m 253 _ [(.int (1 : Int32))]))
    refine Goes.go (fun _ kk => XS.istore X19.here hx rfl (hb hby at_253) rfl (l' := #[.val (.int p0), .val (.int p1), .val (.int p2), .val (.ref ar1), .val (.int (4 : Int32)), .val (.int (0 : Int32)), .val (.ref ob52), .val (.int (1 : Int32)), .val (.int (-1 : Int32)), .val (.int (-1 : Int32)), .val (.int (-1 : Int32)), .val (.int (-1 : Int32)), .val (.int (-1 : Int32)), .val (.int (-1 : Int32))]) rfl kk) ?_
    show Goes _ _ _ _ _ _ _ (T19.setTop (mkF m 255 _ []))
    refine Goes.go (fun _ kk => XS.iload X19.here hx rfl (hb hby at_255) rfl kk) ?_
    show Goes _ _ _ _ _ _ _ (T19.setTop (mkF m 257 _ [(.int (1 : Int32))]))
    refine Goes.go (fun _ kk => XS.ifNo X19.here hx rfl (hb hby at_257) rfl (XT.i0_eq_f (by decide)) kk) ?_
    show Goes _ _ _ _ _ _ _ (T19.setTop (mkF m 260 _ []))
    refine Goes.go (fun _ kk => XS.iload X19.here hx rfl (hb hby at_260) rfl kk) ?_
    show Goes _ _ _ _ _ _ _ (T19.setTop (mkF m 262 _ [(.int (-1 : Int32))]))
    refine Goes.go (fun _ kk => XS.iloadN X19.here hx rfl (hb hby at_262) rfl kk) ?_
    show Goes _ _ _ _ _ _ _ (T19.setTop (mkF m 263 _ [(.int p0), (.int (-1 : Int32))]))
    refine Goes.go (fun _ kk => XS.iload X19.here hx rfl (hb hby at_263) rfl kk) ?_
    show Goes _ _ _ _ _ _ _ (T19.setTop (mkF m 265 _ [(.int (4 : Int32)), (.int p0), (.int (-1 : Int32))]))
    refine Goes.go (fun _ kk => XS.iload X19.here hx rfl (hb hby at_265) rfl kk) ?_
    show Goes _ _ _ _ _ _ _ (T19.setTop (mkF m 267 _ [(.int (0 : Int32)), (.int (4 : Int32)), (.int p0), (.int (-1 : Int32))]))
    refine Goes.go (fun _ kk => XS.iconst X19.here hx rfl (hb hby at_267) kk) ?_
    show Goes _ _ _ _ _ _ _ (T19.setTop (mkF m 268 _ [(.int (5 : Int32)), (.int (0 : Int32)), (.int (4 : Int32)), (.int p0), (.int (-1 : Int32))]))
    obtain ⟨_, _, ⟨T20, L20, k20, n20⟩, -, X20, ⟨Lc20, hQ20, l20, y20, z20⟩, st20⟩ := Jvm.LawKit.callS X19 hx (y := (⟨"com/example/wide_schema/wideschema/io/BytesInputReadPinLaw", "exp", "(IIII)I"⟩ : MethodName)) hown (mvT hZ (hw _ (List.mem_of_getElem? (i := 32) rfl))) (mvT hZ (hw _ (List.mem_of_getElem? (i := 33) rfl))) (mvT hZ (hw _ (List.mem_of_getElem? (i := 34) rfl))) (mvT hZ (hw _ (List.mem_of_getElem? (i := 35) rfl))) (by decide) (backOf (W := 1) (rm5 l Z a0 hw [] p0 (4 : Int32) (0 : Int32) (5 : Int32) T7.heap n0 Z7) hZ (hw _ (List.mem_of_getElem? (i := 35) rfl)) (hw _ (List.mem_of_getElem? (i := 34) rfl)) (by decide) (by decide)) (g := (mkF m 268 #[.val (.int p0), .val (.int p1), .val (.int p2), .val (.ref ar1), .val (.int (4 : Int32)), .val (.int (0 : Int32)), .val (.ref ob52), .val (.int (1 : Int32)), .val (.int (-1 : Int32)), .val (.int (-1 : Int32)), .val (.int (-1 : Int32)), .val (.int (-1 : Int32)), .val (.int (-1 : Int32)), .val (.int (-1 : Int32))] [(.int (5 : Int32)), (.int (0 : Int32)), (.int (4 : Int32)), (.int p0), (.int (-1 : Int32))])) rfl (by rw [hml]; rfl) (argsL := [(.int p0), (.int (4 : Int32)), (.int (0 : Int32)), (.int (5 : Int32))]) (rest := [(.int (-1 : Int32))]) (lenOf pd3 rfl) rfl (by show 2 * 0 + _ ≤ _; exact Nat.le_of_eq rfl) (hb hby at_268) (fun _ _ => ⟨rfl, hh19, (by decide : 2 + 0 ≤ _), (by decide : 7 + 0 ≤ _)⟩)
    dsimp only [Pt.U, Pt.locs, Pt.cells, Pt.slots] at X20 l20 y20 z20 st20 hQ20
    subst l20 y20 z20
    obtain ⟨rfl, Nq20, hh20⟩ := hQ20
    have N20 := Fr.app N19 Nq20
    refine Goes.go (st20) ?_
    show Goes _ _ _ _ _ _ _ (T20.setTop (mkF m 271 _ [(.int (exF p0 (4 : Int32) (0 : Int32) (5 : Int32))), (.int (-1 : Int32))]))
    refine Goes.go (fun _ kk => XS.icmpNo X20.here hx rfl (hb hby at_271) rfl (XT.ii_ne_f (own_m (by decide))) kk) ?_
    show Goes _ _ _ _ _ _ _ (T20.setTop (mkF m 274 _ []))
    refine Goes.go (fun _ kk => XS.iconst X20.here hx rfl (hb hby at_274) kk) ?_
    show Goes _ _ _ _ _ _ _ (T20.setTop (mkF m 275 _ [(.int (1 : Int32))]))
    refine Goes.go (fun _ kk => XS.goto X20.here hx rfl (pc0 := 275) (pc' := 279) rfl (hb hby at_275) (by decide) (by decide) kk) ?_
    show Goes _ _ _ _ _ _ _ (T20.setTop (mkF m 279 _ [(.int (1 : Int32))]))
    refine Goes.go (fun _ kk => XS.istore X20.here hx rfl (hb hby at_279) rfl (l' := #[.val (.int p0), .val (.int p1), .val (.int p2), .val (.ref ar1), .val (.int (4 : Int32)), .val (.int (0 : Int32)), .val (.ref ob52), .val (.int (1 : Int32)), .val (.int (-1 : Int32)), .val (.int (-1 : Int32)), .val (.int (-1 : Int32)), .val (.int (-1 : Int32)), .val (.int (-1 : Int32)), .val (.int (-1 : Int32))]) rfl kk) ?_
    show Goes _ _ _ _ _ _ _ (T20.setTop (mkF m 281 _ []))
    refine Goes.go (fun _ kk => XS.iload X20.here hx rfl (hb hby at_281) rfl kk) ?_
    show Goes _ _ _ _ _ _ _ (T20.setTop (mkF m 283 _ [(.int (1 : Int32))]))
    refine Goes.go (fun _ kk => XS.ifNo X20.here hx rfl (hb hby at_283) rfl (XT.i0_eq_f (by decide)) kk) ?_
    show Goes _ _ _ _ _ _ _ (T20.setTop (mkF m 286 _ []))
    refine Goes.go (fun _ kk => XS.aload X20.here hx rfl (hb hby at_286) rfl rfl kk) ?_
    show Goes _ _ _ _ _ _ _ (T20.setTop (mkF m 288 _ [(.ref ob52)]))
    obtain ⟨cq21, kq21, qa21, qb21, qc21⟩ := isOf hZ hh20 Eq7
    obtain ⟨_, _, ⟨T21, L21, k21, n21⟩, -, X21, ⟨Lc21, hQ21, l21, y21, z21⟩, st21⟩ := X20.virtualBack hx (y := (⟨"com/example/wide_schema/wideschema/io/BytesInput", "available", "()I"⟩ : MethodName)) (z := (⟨"com/example/wide_schema/wideschema/io/BytesInput", "available", "()I"⟩ : MethodName)) hown (mvT hZ (hw _ (List.mem_of_getElem? (i := 22) rfl))) (mvT hZ (hw _ (List.mem_of_getElem? (i := 23) rfl))) (notFace_of_selects (args := #[]) (mvT hZ (hw _ (List.mem_of_getElem? (i := 25) rfl)))) (mvT hZ (hw _ (List.mem_of_getElem? (i := 25) rfl))) (mvT hZ (hw _ (List.mem_of_getElem? (i := 24) rfl))) (by decide) (backOf (W := 0) (rm3 l Z a0 hw [] ob52 (4 : Int32) (4 : Int32) T7.heap n0 Z7 Fq7_1 Fq7_2) hZ (hw _ (List.mem_of_getElem? (i := 26) rfl)) (hw _ (List.mem_of_getElem? (i := 4) rfl)) (by decide) (by decide)) qa21 qc21 (g := (mkF m 288 #[.val (.int p0), .val (.int p1), .val (.int p2), .val (.ref ar1), .val (.int (4 : Int32)), .val (.int (0 : Int32)), .val (.ref ob52), .val (.int (1 : Int32)), .val (.int (-1 : Int32)), .val (.int (-1 : Int32)), .val (.int (-1 : Int32)), .val (.int (-1 : Int32)), .val (.int (-1 : Int32)), .val (.int (-1 : Int32))] [(.ref ob52)])) rfl (by rw [hml]; rfl) (Steps.refl _) (argsL := []) (rest := []) (lenOf pd2 rfl) rfl (by show 2 * 0 + _ ≤ _; exact Nat.le_of_eq rfl) (hb hby at_288) (fun _ _ => ⟨rfl, hh20, (by decide : 2 + 0 ≤ _), (by decide : 7 + 0 ≤ _)⟩)
    dsimp only [Pt.U, Pt.locs, Pt.cells, Pt.slots] at X21 l21 y21 z21 st21 hQ21
    subst l21 y21 z21
    obtain ⟨rfl, Nq21, hh21⟩ := hQ21
    have N21 := Fr.app N20 Nq21
    refine Goes.go (fun _ kk => st21.trans kk) ?_
    show Goes _ _ _ _ _ _ _ (T21.setTop (mkF m 291 _ [(.int (0 : Int32))]))
    refine Goes.go (fun _ kk => XS.ifNo X21.here hx rfl (hb hby at_291) rfl (XT.i0_ne_f (by decide)) kk) ?_
    show Goes _ _ _ _ _ _ _ (T21.setTop (mkF m 294 _ []))
    refine Goes.go (fun _ kk => XS.iconst X21.here hx rfl (hb hby at_294) kk) ?_
    show Goes _ _ _ _ _ _ _ (T21.setTop (mkF m 295 _ [(.int (1 : Int32))]))
    refine Goes.go (fun _ kk => XS.goto X21.here hx rfl (pc0 := 295) (pc' := 299) rfl (hb hby at_295) (by decide) (by decide) kk) ?_
    show Goes _ _ _ _ _ _ _ (T21.setTop (mkF m 299 _ [(.int (1 : Int32))]))
    refine Goes.go (fun _ kk => XS.istore X21.here hx rfl (hb hby at_299) rfl (l' := #[.val (.int p0), .val (.int p1), .val (.int p2), .val (.ref ar1), .val (.int (4 : Int32)), .val (.int (0 : Int32)), .val (.ref ob52), .val (.int (1 : Int32)), .val (.int (-1 : Int32)), .val (.int (-1 : Int32)), .val (.int (-1 : Int32)), .val (.int (-1 : Int32)), .val (.int (-1 : Int32)), .val (.int (-1 : Int32))]) rfl kk) ?_
    show Goes _ _ _ _ _ _ _ (T21.setTop (mkF m 301 _ []))
    refine Goes.go (fun _ kk => XS.iload X21.here hx rfl (hb hby at_301) rfl kk) ?_
    show Goes _ _ _ _ _ _ _ (T21.setTop (mkF m 303 _ [(.int (1 : Int32))]))
    exact Goes.outZ X21 hx hlk hret rfl (hb hby at_303) hh21 ⟨rfl, N21⟩ (by decide) (by decide)
set_option maxRecDepth 65536 in
set_option maxHeartbeats 40000000 in
theorem comes_1 {Post : Tables → Env → Array Value → State → Outcome → State → Prop} (hpost : ∀ tb e args s v u, (limb_1_1.after args s (.returned v) u = true ∧ limb_1_2.after args s (.returned v) u = true ∧ True) → FrameEnd s (.returned v) u (Jvm.fieldLocs frame_1_writes args s ++ Jvm.arrayLocs frame_1_arrays args s ++ Jvm.staticLocs frame_1_statics s) 16 128 → Post tb e args s (.returned v) u) :
    ArmFor flags0 classFile x code maxLocals ret World_1 tables_1 room_1 Calls_1 rest_1 Pre_1 Post := by
  intro l hfl _ _ p e ha hc hk s m args below hf hA hF happ hP
  obtain ⟨hcalls, hrest, hpre⟩ := hP
  obtain ⟨-, -, -, hnamed, -, -, -, hat⟩ := (Spec.applies_iff hf).mp happ
  obtain ⟨hg, hn⟩ := and_e (Cond.before_iff.mp (show (Jvm.Cond.and given_1 narrow_1).before args s = true from hpre))
  obtain ⟨gc, gr0⟩ := and_e hg
  obtain ⟨g0, gr1⟩ := and_e gr0
  obtain ⟨g1, gr2⟩ := and_e gr1
  obtain ⟨w0, w1, w2, rfl⟩ : ∃ w0 w1 w2 : Value, args = #[w0, w1, w2] := by
    have hs : args.size = 3 := by simpa [Cond.value, given_1] using gc
    obtain ⟨L⟩ := args
    match L, hs with
    | [w0, w1, w2], _ => exact ⟨w0, w1, w2, rfl⟩
  have hw := fun d (hd : d ∈ tables_1) => atoms_spec (ws := Jvm.Cond.code x code maxLocals ret :: tables_1) hat d (List.mem_cons_of_mem _ hd)
  obtain ⟨i0, ei0⟩ := is_v g0
  obtain rfl : w0 = (.int i0) := Option.some.inj ei0
  obtain ⟨i1, ei1⟩ := is_v g1
  obtain rfl : w1 = (.int i1) := Option.some.inj ei1
  obtain ⟨i2, ei2⟩ := is_v gr2
  obtain rfl : w2 = (.int i2) := Option.some.inj ei2
  obtain ⟨n, o, h1, h2, h3, _, L, rfl, ⟨rfl, N⟩, hq⟩ := rm0 l s _ hw tables_1 i0 i1 i2 s.heap s.heap.size (Nat.le_refl _)  p e ha hc hk s m _ below hf ((Spec.applies_iff_loose hf).mp happ).1 ⟨rfl, State.Warmed39.refl s, rfl⟩ trivial
  refine ⟨n, _, h1, h2, h3, hpost _ _ _ _ _ _ ⟨Cond.after_iff.mpr rfl, Cond.after_iff.mpr (eq_i res_at (Term.int_eval (1)) rfl), trivial⟩ ⟨hq.1, hq.2.1, (hq.2.2.sift fun y hy => Or.inr (N y hy)).mono (by decide) (by decide)⟩⟩
theorem main_1_1 : Claimed_1_1 := comes_1 fun _ _ _ _ _ _ h hF => ⟨h.1, hF⟩
theorem main_1_2 : Claimed_1_2 := comes_1 fun _ _ _ _ _ _ h hF => ⟨h.2.1, hF⟩
end Jvm.Pilot.@@N@@
namespace Jvm.Pilot.@@N@@
open Jvm Jvm.ClassFile Sem Op Lib Jvm.Free Jvm.Stand Jvm.Pilot.@@N@@.Jvm.D
/-! MADE BY PROGRAM (witnessworld.py) out of the Statement's table words and the real class files: 12 classes; the members and pool entries that the words name. The judged class is class 1, her method 2. -/
namespace start1
open Jvm.ClassFile
def u (s : String) : CpInfo := .utf8 (stringToUtf16 s)
/-- a pool by its gaps: so many unusable entries, then the entry; so many at the end -/
def gap : Nat → List CpInfo → List CpInfo
  | 0, r => r
  | n + 1, r => .unusable :: gap n r
def poolList (es : List (Nat × CpInfo)) (last : Nat) : List CpInfo := es.foldr (fun e r => gap e.1 (e.2 :: r)) (gap last [])
def pool (es : List (Nat × CpInfo)) (last : Nat) : Array CpInfo := ⟨poolList es last⟩
def fileOf (pool : Array CpInfo) (this : Nat) (attrs : Array Attribute := #[]) (ms : Array MethodInfo := #[]) (fl : Nat := 33) (sup : Nat := 0) (ifs : Array Nat := #[]) (fds : Array FieldInfo := #[]) : ClassFile where
  minorVersion := 0
  majorVersion := 65
  constantPool := pool
  accessFlags := fl
  thisClass := this
  superClass := sup
  interfaces := ifs
  fields := fds
  methods := ms
  attributes := attrs
def plain (name : String) (sup : Option ClassId) : Class where
  name := name
  kind := .ordinary
  loader := none
  accessFlags := 33
  super := sup
  interfaces := #[]
  cf := none
  fields := #[]
  methods := #[]
  instanceTypes := #[]
  staticTypes := #[]
  resolved := #[]
  callSites := []
  init := .initialized
  statics := none
  mirror := none

def pool0 : Array CpInfo := pool [(5, u "<init>"), (0, u "()V"), (1, .class_ 10), (1, u "java/lang/Object")] 113

def k0c0 : Code := { maxStack := 0, maxLocals := 1, code := object_method_1_code, exceptionTable := #[], attributes := #[] }
def k0m0 : Method := { name := "<init>", desc := "()V", sig := { parameters := [], returnType := none }, accessFlags := 1, code := some k0c0 }
/-- java/lang/Object -/
def k0 : Class := { plain "java/lang/Object" none with
  accessFlags := 33
  interfaces := #[]
  cf := some (fileOf pool0 8 #[] #[{ accessFlags := 1, nameIndex := 5, descriptorIndex := 6, attributes := #[] }] 33 0 #[] #[])
  fields := #[]
  methods := #[k0m0]
  instanceTypes := #[]
  staticTypes := #[]
  resolved := Array.replicate 124 none
  statics := none }

def pool1 : Array CpInfo := pool [(2, .class_ 4), (1, u "java/lang/Object"), (0, u "<init>"), (0, u "()V"), (0, .integer 2147483647), (0, .class_ 9), (0, u "com/example/wide_schema/wideschema/io/BytesInput"), (0, .methodref 8 11), (0, .nameAndType 5 12), (0, u "([BII)V"), (0, .methodref 8 14), (0, .nameAndType 15 16), (0, u "available"), (0, u "()I"), (0, .methodref 8 18), (0, .nameAndType 19 16), (0, u "read"), (0, .methodref 21 22), (0, .class_ 23), (0, .nameAndType 24 25), (0, u "com/example/wide_schema/wideschema/io/BytesInputReadPinLaw"), (0, u "exp"), (0, u "(IIII)I"), (3, u "law"), (0, u "(III)Z")] 4

def k1m0 : Method := { name := "<init>", desc := "()V", sig := { parameters := [], returnType := none }, accessFlags := 1, code := none }
def k1c1 : Code := { maxStack := 4, maxLocals := 4, code := method_2_code, exceptionTable := #[], attributes := #[] }
def k1m1 : Method := { name := "exp", desc := "(IIII)I", sig := { parameters := [.int, .int, .int, .int], returnType := some .int }, accessFlags := 10, code := some k1c1 }
def k1c2 : Code := { maxStack := 5, maxLocals := 14, code := code, exceptionTable := #[], attributes := #[] }
def k1m2 : Method := { name := "law", desc := "(III)Z", sig := { parameters := [.int, .int, .int], returnType := some .boolean }, accessFlags := 9, code := some k1c2 }
/-- com/example/wide_schema/wideschema/io/BytesInputReadPinLaw -/
def k1 : Class := { plain "com/example/wide_schema/wideschema/io/BytesInputReadPinLaw" (some 0) with
  accessFlags := 49
  interfaces := #[]
  cf := some (fileOf pool1 21 #[] #[{ accessFlags := 1, nameIndex := 5, descriptorIndex := 6, attributes := #[] }, { accessFlags := 10, nameIndex := 24, descriptorIndex := 25, attributes := #[] }, { accessFlags := 9, nameIndex := 29, descriptorIndex := 30, attributes := #[] }] 49 2 #[] #[])
  fields := #[]
  methods := #[k1m0, k1m1, k1m2]
  instanceTypes := #[]
  staticTypes := #[]
  resolved := Array.replicate 35 none
  statics := none }

def pool2 : Array CpInfo := pool [(1, .class_ 2), (0, u "java/lang/AutoCloseable"), (0, .class_ 4), (0, u "java/lang/Object")] 7

/-- java/lang/AutoCloseable -/
def k2 : Class := { plain "java/lang/AutoCloseable" (some 0) with
  accessFlags := 1537
  interfaces := #[]
  cf := some (fileOf pool2 1 #[] #[] 1537 3 #[] #[])
  fields := #[]
  methods := #[]
  instanceTypes := #[]
  staticTypes := #[]
  resolved := Array.replicate 12 none
  statics := none }

def pool3 : Array CpInfo := pool [(1, .class_ 2), (0, u "java/io/Closeable"), (0, .class_ 4), (0, u "java/lang/Object"), (0, .class_ 6), (0, u "java/lang/AutoCloseable")] 7

/-- java/io/Closeable -/
def k3 : Class := { plain "java/io/Closeable" (some 0) with
  accessFlags := 1537
  interfaces := #[2]
  cf := some (fileOf pool3 1 #[] #[] 1537 3 #[5] #[])
  fields := #[]
  methods := #[]
  instanceTypes := #[]
  staticTypes := #[]
  resolved := Array.replicate 14 none
  statics := none }

def pool4 : Array CpInfo := pool [(3, .methodref 4 5), (0, .class_ 6), (0, .nameAndType 7 8), (0, u "java/lang/Object"), (0, u "<init>"), (0, u "()V"), (0, .class_ 10), (0, u "java/io/InputStream$1"), (2, .class_ 15), (1, u "java/io/InputStream"), (116, .class_ 133), (0, u "java/io/Closeable"), (0, u "MAX_SKIP_BUFFER_SIZE"), (0, u "I"), (2, u "DEFAULT_BUFFER_SIZE"), (1, u "MAX_BUFFER_SIZE")] 54

def k4c0 : Code := { maxStack := 1, maxLocals := 1, code := jdk_2022_method_1_code, exceptionTable := #[], attributes := #[] }
def k4m0 : Method := { name := "<init>", desc := "()V", sig := { parameters := [], returnType := none }, accessFlags := 1, code := some k4c0 }
/-- java/io/InputStream -/
def k4 : Class := { plain "java/io/InputStream" (some 0) with
  accessFlags := 1057
  interfaces := #[3]
  cf := some (fileOf pool4 13 #[.nestMembers #[9]] #[{ accessFlags := 1, nameIndex := 7, descriptorIndex := 8, attributes := #[] }] 1057 4 #[132] #[{ accessFlags := 26, nameIndex := 134, descriptorIndex := 135, attributes := #[] }, { accessFlags := 26, nameIndex := 138, descriptorIndex := 135, attributes := #[] }, { accessFlags := 26, nameIndex := 140, descriptorIndex := 135, attributes := #[] }])
  fields := #[{ name := "MAX_SKIP_BUFFER_SIZE", type := .int, accessFlags := 26, slot := 0, constantValue := 0 }, { name := "DEFAULT_BUFFER_SIZE", type := .int, accessFlags := 26, slot := 1, constantValue := 0 }, { name := "MAX_BUFFER_SIZE", type := .int, accessFlags := 26, slot := 2, constantValue := 0 }]
  methods := #[k4m0]
  instanceTypes := #[]
  staticTypes := #[.int, .int, .int]
  resolved := Array.replicate 195 none
  statics := none }

def pool5 : Array CpInfo := pool [(1, .methodref 2 3), (0, .class_ 4), (0, .nameAndType 5 6), (0, u "java/io/InputStream"), (0, u "<init>"), (0, u "()V"), (0, .fieldref 8 9), (0, .class_ 10), (0, .nameAndType 11 12), (0, u "com/example/wide_schema/wideschema/io/BytesInput"), (0, u "_bytes"), (0, u "[B"), (0, .fieldref 8 14), (0, .nameAndType 15 16), (0, u "_next"), (0, u "I"), (0, .fieldref 8 18), (0, .nameAndType 19 16), (0, u "_end"), (18, u "([BII)V"), (2, u "read"), (0, u "()I"), (4, u "available")] 2

def k5c0 : Code := { maxStack := 3, maxLocals := 4, code := prog_11_method_1_code, exceptionTable := #[], attributes := #[] }
def k5m0 : Method := { name := "<init>", desc := "([BII)V", sig := { parameters := [(.array .byte), .int, .int], returnType := none }, accessFlags := 0, code := some k5c0 }
def k5c1 : Code := { maxStack := 5, maxLocals := 1, code := prog_11_method_2_code, exceptionTable := #[], attributes := #[] }
def k5m1 : Method := { name := "read", desc := "()I", sig := { parameters := [], returnType := some .int }, accessFlags := 1, code := some k5c1 }
def k5c2 : Code := { maxStack := 2, maxLocals := 1, code := prog_11_method_5_code, exceptionTable := #[], attributes := #[] }
def k5m2 : Method := { name := "available", desc := "()I", sig := { parameters := [], returnType := some .int }, accessFlags := 1, code := some k5c2 }
/-- com/example/wide_schema/wideschema/io/BytesInput -/
def k5 : Class := { plain "com/example/wide_schema/wideschema/io/BytesInput" (some 4) with
  accessFlags := 32
  interfaces := #[]
  cf := some (fileOf pool5 8 #[] #[{ accessFlags := 0, nameIndex := 5, descriptorIndex := 38, attributes := #[] }, { accessFlags := 1, nameIndex := 41, descriptorIndex := 42, attributes := #[] }, { accessFlags := 1, nameIndex := 47, descriptorIndex := 42, attributes := #[] }] 32 2 #[] #[{ accessFlags := 18, nameIndex := 11, descriptorIndex := 12, attributes := #[] }, { accessFlags := 18, nameIndex := 19, descriptorIndex := 16, attributes := #[] }, { accessFlags := 2, nameIndex := 15, descriptorIndex := 16, attributes := #[] }])
  fields := #[{ name := "_bytes", type := (.array .byte), accessFlags := 18, slot := 0, constantValue := 0 }, { name := "_end", type := .int, accessFlags := 18, slot := 1, constantValue := 0 }, { name := "_next", type := .int, accessFlags := 2, slot := 2, constantValue := 0 }]
  methods := #[k5m0, k5m1, k5m2]
  instanceTypes := #[(.array .byte), .int, .int]
  staticTypes := #[]
  resolved := Array.replicate 50 none
  statics := none }

def pool6 : Array CpInfo := pool [(1, u "java/lang/Cloneable"), (0, .class_ 1), (0, u "java/lang/Object"), (0, .class_ 3)] 3

/-- java/lang/Cloneable -/
def k6 : Class := { plain "java/lang/Cloneable" (some 0) with
  accessFlags := 1537
  interfaces := #[]
  cf := some (fileOf pool6 2 #[] #[] 1537 4 #[] #[])
  fields := #[]
  methods := #[]
  instanceTypes := #[]
  staticTypes := #[]
  resolved := Array.replicate 8 none
  statics := none }

def pool7 : Array CpInfo := pool [(1, u "java/io/Serializable"), (0, .class_ 1), (0, u "java/lang/Object"), (0, .class_ 3)] 3

/-- java/io/Serializable -/
def k7 : Class := { plain "java/io/Serializable" (some 0) with
  accessFlags := 1537
  interfaces := #[]
  cf := some (fileOf pool7 2 #[] #[] 1537 4 #[] #[])
  fields := #[]
  methods := #[]
  instanceTypes := #[]
  staticTypes := #[]
  resolved := Array.replicate 8 none
  statics := none }

/-- the primitive byte -/
def k8 : Class := { plain "byte" none with kind := .primitive 'B', accessFlags := 0x411 }
/-- [B -/
def k9 : Class := { plain "[B" (some 0) with kind := .array 8 .byte, interfaces := #[6, 7], accessFlags := 1041 }

/-- the primitive int -/
def k10 : Class := { plain "int" none with kind := .primitive 'I', accessFlags := 0x411 }
/-- [I -/
def k11 : Class := { plain "[I" (some 0) with kind := .array 10 .int, interfaces := #[6, 7], accessFlags := 1041 }

def heap : Heap := #[]
def classes : Array Class := #[k0, k1, k2, k3, k4, k5, k6, k7, k8, k9, k10, k11]
def interned : List (Array UInt16 × Addr) := []
def slotsUsed : Nat := 0
def theMethod : MethodId := ⟨1, 2⟩
def args0 : Array Value := #[.int 500, .int 7, .int 9]
def aboutOver (below : List Frame) : State where
  vm := { classes := classes, interned := interned.toArray }
  heap := heap
  slotsUsed := slotsUsed
  threads := #[{ frames := .invoking theMethod args0 :: below }]
def below0 : List Frame := [.native { method := ⟨0, 0⟩, args := #[] }]
def about1 : State := aboutOver below0
def p0 : Program := .bare "" "" ""
def e0 : Env := launch0.env 0 0 0
theorem w_frames : about1.frames = Frame.invoking theMethod args0 :: below0 := rfl
set_option maxRecDepth 65536 in
theorem w_args : argsFit about1.vm theMethod args0 = true := by decide +kernel
set_option maxRecDepth 65536 in
theorem w_heap : heapFits about1 = true := by decide +kernel
set_option maxRecDepth 65536 in
theorem w_runnable : about1.curStatus? = some .runnable := by decide +kernel
set_option maxRecDepth 65536 in
theorem w_alone : about1.alone = true := by decide +kernel
set_option maxRecDepth 65536 in
theorem w_named : about1.methodNamed? x = some theMethod := by decide +kernel
set_option maxRecDepth 65536 in
theorem w_hears : about1.hears theMethod below0 = true := by decide +kernel
set_option maxRecDepth 65536 in
theorem w_ripe : about1.ripe theMethod args0 below0 = true := by decide +kernel
theorem w_running : about1.status = .running := rfl
set_option maxRecDepth 65536 in
theorem w_room : about1.hasRoom e0.platform room_1 = true :=
  launch0.hasRoom_least _ room_1 (by decide +kernel) (by decide +kernel) (by decide +kernel) (by decide +kernel) (by decide +kernel) (by decide +kernel)
theorem allAtoms_all (ts : List Jvm.Cond) (a : Array Jvm.Value) (st : Jvm.State) : (allAtoms ts).before a st = ts.all (fun c => c.before a st) := by
  induction ts with
  | nil => rfl
  | cons c t ih =>
    show (Jvm.Cond.and c (allAtoms t)).before a st = _
    rw [Jvm.Cond.before_and, ih, List.all_cons]
def words1 : List Jvm.Cond := Jvm.Cond.code x code maxLocals ret :: tables_1
/-- a 'code' word, met by the world's own term for the bytes: nothing is compared byte by byte -/
theorem code_word {y : MethodName} {bytes : ByteArray} {mx : Nat} {rt : Option FieldType} {a : Array Value} {s : State} {m : MethodId} {meth : Method} {c : Code} (h1 : s.methodNamed? y = some m) (h2 : s.vm.method? m = some meth) (h3 : meth.code = some c) (h4 : c.code = bytes)
    (h5 : (c.maxLocals == mx && c.exceptionTable.isEmpty && decide (c.maxStack ≤ mostOperands) && decide (meth.sig.returnType = rt) && !meth.locks && decide (parseMethodDescriptor y.desc = some meth.sig)) = true) : (Jvm.Cond.code y bytes mx rt).before a s = true := by
  simp only [Bool.and_eq_true, beq_iff_eq, Bool.not_eq_true', decide_eq_true_eq] at h5
  obtain ⟨⟨⟨⟨⟨g1, g2⟩, g3⟩, g4⟩, g5⟩, g6⟩ := h5
  simp [Cond.before, Cond.holds, Cond.value, h1, h2, h3, h4, g1, g2, g3, g4, g5, g6]
def isCode : Jvm.Cond → Bool
  | .code _ _ _ _ => true
  | _ => false
theorem all_split {L : List Jvm.Cond} {P : Jvm.Cond → Bool} (h1 : L.all (fun c => isCode c || P c) = true) (h2 : ∀ c ∈ L.filter isCode, P c = true) : L.all P = true := by
  refine List.all_eq_true.mpr fun c hc => ?_
  have h := List.all_eq_true.mp h1 c hc
  rcases Bool.eq_false_or_eq_true (isCode c) with hi | hi
  · exact h2 c (List.mem_filter.mpr ⟨hc, hi⟩)
  · simpa [hi] using h
set_option maxRecDepth 65536 in
theorem w_c0 : (Jvm.Cond.code x code maxLocals ret).before args0 about1 = true := code_word (m := ⟨1, 2⟩) (meth := k1m2) (c := k1c2) (by decide +kernel) rfl rfl rfl (by decide +kernel)
set_option maxRecDepth 65536 in
theorem w_c1 : (Jvm.Cond.code ({ cls := "com/example/wide_schema/wideschema/io/BytesInput", name := "<init>", desc := "([BII)V" } : Jvm.MethodName) prog_11_method_1_code (4 : Nat) (Option.none : Option Jvm.ClassFile.FieldType)).before args0 about1 = true := code_word (m := ⟨5, 0⟩) (meth := k5m0) (c := k5c0) (by decide +kernel) rfl rfl rfl (by decide +kernel)
set_option maxRecDepth 65536 in
theorem w_c2 : (Jvm.Cond.code ({ cls := "java/io/InputStream", name := "<init>", desc := "()V" } : Jvm.MethodName) jdk_2022_method_1_code (1 : Nat) (Option.none : Option Jvm.ClassFile.FieldType)).before args0 about1 = true := code_word (m := ⟨4, 0⟩) (meth := k4m0) (c := k4c0) (by decide +kernel) rfl rfl rfl (by decide +kernel)
set_option maxRecDepth 65536 in
theorem w_c3 : (Jvm.Cond.code ({ cls := "java/lang/Object", name := "<init>", desc := "()V" } : Jvm.MethodName) object_method_1_code (1 : Nat) (Option.none : Option Jvm.ClassFile.FieldType)).before args0 about1 = true := code_word (m := ⟨0, 0⟩) (meth := k0m0) (c := k0c0) (by decide +kernel) rfl rfl rfl (by decide +kernel)
set_option maxRecDepth 65536 in
theorem w_c4 : (Jvm.Cond.code ({ cls := "com/example/wide_schema/wideschema/io/BytesInput", name := "available", desc := "()I" } : Jvm.MethodName) prog_11_method_5_code (1 : Nat) (Option.some Jvm.ClassFile.FieldType.int)).before args0 about1 = true := code_word (m := ⟨5, 2⟩) (meth := k5m2) (c := k5c2) (by decide +kernel) rfl rfl rfl (by decide +kernel)
set_option maxRecDepth 65536 in
theorem w_c5 : (Jvm.Cond.code ({ cls := "com/example/wide_schema/wideschema/io/BytesInput", name := "read", desc := "()I" } : Jvm.MethodName) prog_11_method_2_code (1 : Nat) (Option.some Jvm.ClassFile.FieldType.int)).before args0 about1 = true := code_word (m := ⟨5, 1⟩) (meth := k5m1) (c := k5c1) (by decide +kernel) rfl rfl rfl (by decide +kernel)
set_option maxRecDepth 65536 in
theorem w_c6 : (Jvm.Cond.code ({ cls := "com/example/wide_schema/wideschema/io/BytesInputReadPinLaw", name := "exp", desc := "(IIII)I" } : Jvm.MethodName) method_2_code (4 : Nat) (Option.some Jvm.ClassFile.FieldType.int)).before args0 about1 = true := code_word (m := ⟨1, 1⟩) (meth := k1m1) (c := k1c1) (by decide +kernel) rfl rfl rfl (by decide +kernel)
def codes1 : List Jvm.Cond := [Jvm.Cond.code x code maxLocals ret, Jvm.Cond.code ({ cls := "com/example/wide_schema/wideschema/io/BytesInput", name := "<init>", desc := "([BII)V" } : Jvm.MethodName) prog_11_method_1_code (4 : Nat) (Option.none : Option Jvm.ClassFile.FieldType), Jvm.Cond.code ({ cls := "java/io/InputStream", name := "<init>", desc := "()V" } : Jvm.MethodName) jdk_2022_method_1_code (1 : Nat) (Option.none : Option Jvm.ClassFile.FieldType), Jvm.Cond.code ({ cls := "java/lang/Object", name := "<init>", desc := "()V" } : Jvm.MethodName) object_method_1_code (1 : Nat) (Option.none : Option Jvm.ClassFile.FieldType), Jvm.Cond.code ({ cls := "com/example/wide_schema/wideschema/io/BytesInput", name := "available", desc := "()I" } : Jvm.MethodName) prog_11_method_5_code (1 : Nat) (Option.some Jvm.ClassFile.FieldType.int), Jvm.Cond.code ({ cls := "com/example/wide_schema/wideschema/io/BytesInput", name := "read", desc := "()I" } : Jvm.MethodName) prog_11_method_2_code (1 : Nat) (Option.some Jvm.ClassFile.FieldType.int), Jvm.Cond.code ({ cls := "com/example/wide_schema/wideschema/io/BytesInputReadPinLaw", name := "exp", desc := "(IIII)I" } : Jvm.MethodName) method_2_code (4 : Nat) (Option.some Jvm.ClassFile.FieldType.int)]
set_option maxRecDepth 65536 in
theorem codes_eq : words1.filter isCode = codes1 := rfl
theorem w_codes : ∀ c ∈ words1.filter isCode, c.before args0 about1 = true := by
  rw [codes_eq]
  intro c hc
  simp only [codes1, List.mem_cons, List.not_mem_nil, or_false] at hc
  rcases hc with rfl | rfl | rfl | rfl | rfl | rfl | rfl
  · exact w_c0
  · exact w_c1
  · exact w_c2
  · exact w_c3
  · exact w_c4
  · exact w_c5
  · exact w_c6
set_option maxRecDepth 65536 in
theorem w_t1 : (words1.take 24).all (fun c => isCode c || c.before args0 about1) = true := by decide +kernel
set_option maxRecDepth 65536 in
theorem w_t2 : (words1.drop 24).all (fun c => isCode c || c.before args0 about1) = true := by decide +kernel
theorem w_tables : (allAtoms (Jvm.Cond.code x code maxLocals ret :: tables_1)).before args0 about1 = true := by
  rw [allAtoms_all]
  show words1.all (fun c => c.before args0 about1) = true
  refine all_split ?_ w_codes
  rw [← List.take_append_drop 24 words1, List.all_append, w_t1, w_t2]
  rfl
set_option maxRecDepth 65536 in
theorem w_case : (Jvm.Cond.and given_1 narrow_1).before args0 about1 = true := by decide +kernel
theorem w_applies : (headSpec (Jvm.Cond.code x code maxLocals ret :: tables_1) room_1).applies x e0.platform about1 = true :=
  (Spec.applies_iff w_frames).mpr ⟨w_running, w_runnable, w_alone, w_named, w_hears, w_ripe, w_room, w_tables⟩
theorem atStart : AtStart classFile x code maxLocals ret World_1 tables_1 room_1 Calls_1 rest_1 Pre_1 launch0 p0 e0 about1 theMethod args0 below0 :=
  ⟨lists_1, trivial, launch0.admits_env _ _ _, launch0.least_env, fairChoices_fair.cas, fairChoices_fair.clock, w_frames, w_args, w_heap, w_applies, trivial, trivial, w_case⟩
end start1
theorem witness_1 : WitnessClaimed_1 := ⟨start1.p0, start1.e0, start1.about1, start1.theMethod, start1.args0, start1.below0, start1.atStart⟩
end Jvm.Pilot.@@N@@
