import JvmDerived
import JvmDerived.Pilot.@@N@@Statement
import JvmDerived.Pilot.@@N@@Code
set_option linter.unusedVariables false
set_option linter.unusedSimpArgs false
namespace Jvm.Pilot.@@N@@
open Jvm Jvm.ClassFile Sem Op Lib Jvm.Free Jvm.Stand Jvm.LawKit Jvm.RoadKit Bundle Jvm.Pilot.@@N@@.Jvm.D
section Own
variable {p : Program} {l : Launch} {e : Env} {R : Room} {s : State} {m : MethodId} {args : Array Value} {below : List Frame} {meth : Method} {c : Code} {T : State} {locs : List Loc} {cells slots : Nat} {Z : State} {a0 : Array Value} {h h' : Heap} {Q : Option Value → Heap → List Loc → Prop} {k n : Nat}
/-- from U the walk comes to a return of which Q holds -/
def Goes (p : Program) (e : Env) (below : List Frame) (s : State) (Q : Option Value → Heap → List Loc → Prop) (k n : Nat) (U : State) : Prop :=
  ∃ s₂ o, Steps p.tables e below U s₂ ∧ s₂.status = .running ∧ Ended s₂ below o ∧ ∃ v L, o = .returned v ∧ Q v s₂.heap L ∧ FrameEnd s o s₂ L k n
theorem Goes.go {U U' : State} (h : ∀ t, Steps p.tables e below U' t → Steps p.tables e below U t) (r : Goes p e below s Q k n U') : Goes p e below s Q k n U := by
  obtain ⟨s₂, o, h1, r⟩ := r
  exact ⟨s₂, o, h _ h1, r⟩
theorem Goes.outI (X : Stand p l e R s m args below meth c T locs cells slots) (hx : p.tables.exec = Jvm.exec) (hlk : meth.locks = false) (hret : meth.sig.returnType = some .int) {pc : Nat} {Ls : Array Slot} {z : Int32} (hd : decode c.code pc = .ok (.ireturn, 1)) (eT : T.heap = h) (hq : Q (some (.int z)) h locs) (hk : cells ≤ k) (hn : slots ≤ n) :
    Goes p e below s Q k n (T.setTop (mkF m pc Ls [.int z])) := by
  obtain ⟨fs, hr, hrun, hended, hW, hsame⟩ := X.leave (v := some (.int z)) (fun h => by rw [hret] at h; cases h) hlk
  refine ⟨_, _, X.ireturnOut hx hret rfl (Or.inl rfl) hd hr, hrun, hended, _, _, rfl, ?_, ⟨_, rfl⟩, hW, hsame.mono hk hn⟩
  show Q _ T.heap _
  rw [eT]; exact hq
theorem Goes.outZ (X : Stand p l e R s m args below meth c T locs cells slots) (hx : p.tables.exec = Jvm.exec) (hlk : meth.locks = false) (hret : meth.sig.returnType = some .boolean) {pc : Nat} {Ls : Array Slot} {z : Int32} (hz : narrow .boolean (.int z) = .int z) (hd : decode c.code pc = .ok (.ireturn, 1)) (eT : T.heap = h) (hq : Q (some (.int z)) h locs) (hk : cells ≤ k) (hn : slots ≤ n) :
    Goes p e below s Q k n (T.setTop (mkF m pc Ls [.int z])) := by
  obtain ⟨fs, hr, hrun, hended, hW, hsame⟩ := X.leave (v := some (.int z)) (fun h => by rw [hret] at h; cases h) hlk
  refine ⟨_, _, X.ireturnOut hx hret hz (Or.inr (Or.inl rfl)) hd hr, hrun, hended, _, _, rfl, ?_, ⟨_, rfl⟩, hW, hsame.mono hk hn⟩
  show Q _ T.heap _
  rw [eT]; exact hq
theorem Goes.outJ (X : Stand p l e R s m args below meth c T locs cells slots) (hx : p.tables.exec = Jvm.exec) (hlk : meth.locks = false) (hret : meth.sig.returnType = some .long) {pc : Nat} {Ls : Array Slot} {z : Int64} (hd : decode c.code pc = .ok (.lreturn, 1)) (eT : T.heap = h) (hq : Q (some (.long z)) h locs) (hk : cells ≤ k) (hn : slots ≤ n) :
    Goes p e below s Q k n (T.setTop (mkF m pc Ls [.long z])) := by
  obtain ⟨fs, hr, hrun, hended, hW, hsame⟩ := X.leave (v := some (.long z)) (fun h => by rw [hret] at h; cases h) hlk
  refine ⟨_, _, X.lreturnOut hx hret hd hr, hrun, hended, _, _, rfl, ?_, ⟨_, rfl⟩, hW, hsame.mono hk hn⟩
  show Q _ T.heap _
  rw [eT]; exact hq
theorem Goes.outA (X : Stand p l e R s m args below meth c T locs cells slots) (hx : p.tables.exec = Jvm.exec) (hlk : meth.locks = false) {t : FieldType} (hret : meth.sig.returnType = some t) (ht : t.isReference = true) {pc : Nat} {Ls : Array Slot} {w : Value} (hw : w.isRef = true) (hd : decode c.code pc = .ok (.areturn, 1)) (eT : T.heap = h) (hq : Q (some w) h locs) (hk : cells ≤ k) (hn : slots ≤ n) :
    Goes p e below s Q k n (T.setTop (mkF m pc Ls [w])) := by
  obtain ⟨fs, hr, hrun, hended, hW, hsame⟩ := X.leave (v := some w) (fun h => by rw [hret] at h; cases h) hlk
  refine ⟨_, _, X.areturnOut hx hw hret ht hd hr, hrun, hended, _, _, rfl, ?_, ⟨_, rfl⟩, hW, hsame.mono hk hn⟩
  show Q _ T.heap _
  rw [eT]; exact hq
theorem Goes.outV (X : Stand p l e R s m args below meth c T locs cells slots) (hx : p.tables.exec = Jvm.exec) (hlk : meth.locks = false) (hret : meth.sig.returnType = none) {pc : Nat} {Ls : Array Slot} (hd : decode c.code pc = .ok (.return_, 1)) (eT : T.heap = h) (hq : Q none h locs) (hk : cells ≤ k) (hn : slots ≤ n) :
    Goes p e below s Q k n (T.setTop (mkF m pc Ls [])) := by
  obtain ⟨fs, hr, hrun, hended, hW, hsame⟩ := X.leave (v := none) (fun _ => rfl) hlk
  refine ⟨_, _, X.returnOut hx hret hd hr, hrun, hended, _, _, rfl, ?_, ⟨_, rfl⟩, hW, hsame.mono hk hn⟩
  show Q _ T.heap _
  rw [eT]; exact hq
/-- an array, by the list of what it holds -/
def Arl (Z : State) (h : Heap) (a : Addr) (ty : FieldType) (vs : List Value) : Prop := ∃ c : Cell, Arr Z h a c ty ∧ c.slots.toList = vs
section Arls
variable {a b : Addr} {ty : FieldType} {vs : List Value} {v : Value} {sl : Nat} {ws : List Addr} {j : Int32}
theorem Arl.lt (F : Arl Z h a ty vs) : a < h.size := by obtain ⟨c, A, -⟩ := F; exact A.lt
theorem Arl.ext (F : Arl Z h a ty vs) (E : Ext h h') : Arl Z h' a ty vs := by obtain ⟨c, A, r⟩ := F; exact ⟨c, A.ext E, r⟩
theorem Arl.other (F : Arl Z h b ty vs) (W : Wr h h' a sl v) (q : b ≠ a) : Arl Z h' b ty vs := by obtain ⟨c, A, r⟩ := F; exact ⟨c, A.other W q, r⟩
theorem Arl.keep (F : Arl Z h a ty vs) (K : Keep h h' ws) (q : a ∉ ws) : Arl Z h' a ty vs := by obtain ⟨c, A, r⟩ := F; exact ⟨c, ⟨K.2.1 a c A.1 q, A.2⟩, r⟩
theorem Arl.set (F : Arl Z h a ty vs) (W : Wr h h' a sl v) : Arl Z h' a ty (vs.set sl v) := by
  obtain ⟨c, A, r⟩ := F
  refine ⟨_, A.same W, ?_⟩
  subst r
  simp [Cell.setSlot]
theorem Arl.eq {vs' : List Value} (F : Arl Z h a ty vs) (e : vs = vs') : Arl Z h a ty vs' := e ▸ F
theorem own_in {c : Cell} (r : c.slots.toList = vs) (h0 : ¬ j < 0) (h1 : j.toNatClampNeg < vs.length) : ¬ (j < 0 ∨ c.slots.size ≤ j.toNatClampNeg) := by
  subst r
  intro q
  rcases q with q | q
  · exact h0 q
  · rw [Array.length_toList] at h1; omega
theorem own_lt (hv : vs[sl]? = some v) : sl < vs.length := (List.getElem?_eq_some_iff.mp hv).1
end Arls
theorem own_ati {xs : List Int32} {j : Nat} {w : Int32} (h : xs[j]? = some w) : (xs.map Value.int)[j]? = some (.int w) := by
  rw [List.getElem?_map, h]; rfl
theorem own_lni {xs : List Int32} {j k : Nat} (hl : xs.length = k) (h : j < k) : j < (xs.map Value.int).length := by
  rw [List.length_map, hl]; exact h
theorem own_sti {a : Addr} {xs : List Int32} {j : Nat} {w : Int32} (A : Arl Z h a .int ((xs.map Value.int).set j (.int w))) : Arl Z h a .int ((xs.set j w).map Value.int) := A.eq List.map_set.symm
theorem own_selP {C : String} {y y' : MethodName} (hs : (Cond.selects C y' y').before args s = true) (hcls : y'.cls = y.cls) (hpriv : s.PrivateAt y) (hinst : (Cond.instanceMethod y).before args s = true) (hy : y.cls ≠ "java/lang/invoke/MethodHandle" ∧ y.cls ≠ "java/lang/invoke/VarHandle") : (Cond.selects y.cls y y).before args s = true := by
  obtain ⟨c2, r2, m2, -, -, q3, -, kP, hkP, hkPi⟩ := Cond.selects_spec hs
  have hc : s.vm.findClass y.cls = some m2.cls := hcls ▸ findClass_of_methodNamed q3
  exact selects_self_of_private hc hkP hkPi hpriv hinst hy
theorem own_neA {a b : Addr} {C : String} {k : Nat} {ty : FieldType} {vs : List Value} (F : Exa Z h a C) (wi : (Cond.instantiable C k).before a0 Z = true) (G : Arl Z h b ty vs) : a ≠ b := by
  obtain ⟨c', A', -⟩ := G
  exact ne_arr F wi A'
theorem own_newP (X : Stand p l e R s m args below meth c T locs cells slots) (hx : p.tables.exec = Jvm.exec) (hZ : Z.Warmed39 s.vm) {aty : ArrayType} (w : (Cond.arrayClass (newarray.typeOf aty)).before a0 Z = true) (eT : T.heap = h) {g : JFrame} (hg : g.method = m) (hd : decode c.code g.pc = .ok (.newarray aty, 2)) {n : Int32} {rest : List Value} (hs : g.stack = .int n :: rest)
    (hn : ¬ n < 0) {cap : Nat} (hcap : n.toNatClampNeg ≤ cap) (hb : cap * 8 ≤ 536870912) (hc : cells + 1 ≤ R.cells) (hl : slots + cap ≤ R.slots) :
    ∃ T' h', Stand p l e R s m args below meth c T' locs (cells + 1) (slots + cap) ∧ T'.heap = h' ∧ Ext h h' ∧ Arl Z h' h.size (newarray.typeOf aty) (List.replicate n.toNatClampNeg (defaultValue (newarray.typeOf aty))) ∧
      ∀ target, Steps p.tables e below (T'.setTop { g with pc := g.pc + 2, stack := .ref h.size :: rest }) target → Steps p.tables e below (T.setTop g) target := by
  obtain ⟨T', h', cA, X', e', E', A', st⟩ := newP X hx hZ w eT hg hd hs hn hcap hb hc hl
  exact ⟨T', h', X', e', E', ⟨_, A', by simp [newA]⟩, st⟩
theorem own_stB (X : Stand p l e R s m args below meth c T locs cells slots) (hx : p.tables.exec = Jvm.exec) (hZ : Z.Warmed39 s.vm) (eT : T.heap = h) {a : Addr} {vs : List Value} (A : Arl Z h a .byte vs) {j x : Int32} (hj : ¬ j < 0) (hj' : j.toNatClampNeg < vs.length) {g : JFrame} (hg : g.method = m) {rest : List Value} (hs : g.stack = .int x :: .int j :: .ref a :: rest) (hd : decode c.code g.pc = .ok (.bastore, 1)) :
    ∃ T' h', Stand p l e R s m args below meth c T' (locs ++ [⟨a, j.toNatClampNeg⟩]) cells slots ∧ T'.heap = h' ∧ Wr h h' a j.toNatClampNeg (.int x.toInt8.toInt32) ∧ Arl Z h' a .byte (vs.set j.toNatClampNeg (.int x.toInt8.toInt32)) ∧ ∀ target, Steps p.tables e below (T'.setTop { g with pc := g.pc + 1, stack := rest }) target → Steps p.tables e below (T.setTop g) target := by
  obtain ⟨c', A', r⟩ := A
  obtain ⟨T', h', X', e', W, st⟩ := stB X hx hZ eT A' (own_in r hj hj') hg hs hd
  exact ⟨T', h', X', e', W, Arl.set ⟨c', A', r⟩ W, st⟩
theorem own_stI (X : Stand p l e R s m args below meth c T locs cells slots) (hx : p.tables.exec = Jvm.exec) (hZ : Z.Warmed39 s.vm) (eT : T.heap = h) {a : Addr} {vs : List Value} (A : Arl Z h a .int vs) {j x : Int32} (hj : ¬ j < 0) (hj' : j.toNatClampNeg < vs.length) {g : JFrame} (hg : g.method = m) {rest : List Value} (hs : g.stack = .int x :: .int j :: .ref a :: rest) (hd : decode c.code g.pc = .ok (.iastore, 1)) :
    ∃ T' h', Stand p l e R s m args below meth c T' (locs ++ [⟨a, j.toNatClampNeg⟩]) cells slots ∧ T'.heap = h' ∧ Wr h h' a j.toNatClampNeg (.int x) ∧ Arl Z h' a .int (vs.set j.toNatClampNeg (.int x)) ∧ ∀ target, Steps p.tables e below (T'.setTop { g with pc := g.pc + 1, stack := rest }) target → Steps p.tables e below (T.setTop g) target := by
  obtain ⟨c', A', r⟩ := A
  obtain ⟨T', h', X', e', W, st⟩ := stI X hx hZ eT A' (own_in r hj hj') hg hs hd
  exact ⟨T', h', X', e', W, Arl.set ⟨c', A', r⟩ W, st⟩
theorem own_stJ (X : Stand p l e R s m args below meth c T locs cells slots) (hx : p.tables.exec = Jvm.exec) (hZ : Z.Warmed39 s.vm) (eT : T.heap = h) {a : Addr} {vs : List Value} (A : Arl Z h a .long vs) {j : Int32} {x : Int64} (hj : ¬ j < 0) (hj' : j.toNatClampNeg < vs.length) {g : JFrame} (hg : g.method = m) {rest : List Value} (hs : g.stack = .long x :: .int j :: .ref a :: rest) (hd : decode c.code g.pc = .ok (.lastore, 1)) :
    ∃ T' h', Stand p l e R s m args below meth c T' (locs ++ [⟨a, j.toNatClampNeg⟩]) cells slots ∧ T'.heap = h' ∧ Wr h h' a j.toNatClampNeg (.long x) ∧ Arl Z h' a .long (vs.set j.toNatClampNeg (.long x)) ∧ ∀ target, Steps p.tables e below (T'.setTop { g with pc := g.pc + 1, stack := rest }) target → Steps p.tables e below (T.setTop g) target := by
  obtain ⟨c', A', r⟩ := A
  obtain ⟨T', h', X', e', W, st⟩ := stJ X hx hZ eT A' (own_in r hj hj') hg hs hd
  exact ⟨T', h', X', e', W, Arl.set ⟨c', A', r⟩ W, st⟩
theorem own_at {a : Addr} {c' : Cell} {vs : List Value} {v : Value} {j : Int32} (r : c'.slots.toList = vs) (hv : vs[j.toNatClampNeg]? = some v) : c'.slots[j.toNatClampNeg]? = some v := by
  subst r; simpa using hv
theorem own_ldB (X : Stand p l e R s m args below meth c T locs cells slots) (hx : p.tables.exec = Jvm.exec) (hZ : Z.Warmed39 s.vm) (eT : T.heap = h) {a : Addr} {vs : List Value} {v : Value} (A : Arl Z h a .byte vs) {j : Int32} (hj : ¬ j < 0) (hv : vs[j.toNatClampNeg]? = some v) {g : JFrame} (hg : g.method = m) {rest : List Value} (hs : g.stack = .int j :: .ref a :: rest) (hd : decode c.code g.pc = .ok (.baload, 1)) :
    ∀ target, Steps p.tables e below (T.setTop { g with pc := g.pc + 1, stack := v :: rest }) target → Steps p.tables e below (T.setTop g) target := by
  obtain ⟨c', A', r⟩ := A
  exact fun t k => X.baloadBytes hx (by rw [eT]; exact A'.1) (State.isArrayOf_alike hZ.alike A'.2.1) A'.2.2 (own_in r hj (own_lt hv)) (own_at (a := a) r hv) hg hs hd t k
theorem own_ldI (X : Stand p l e R s m args below meth c T locs cells slots) (hx : p.tables.exec = Jvm.exec) (hZ : Z.Warmed39 s.vm) (eT : T.heap = h) {a : Addr} {vs : List Value} {v : Value} (A : Arl Z h a .int vs) {j : Int32} (hj : ¬ j < 0) (hv : vs[j.toNatClampNeg]? = some v) {g : JFrame} (hg : g.method = m) {rest : List Value} (hs : g.stack = .int j :: .ref a :: rest) (hd : decode c.code g.pc = .ok (.iaload, 1)) :
    ∀ target, Steps p.tables e below (T.setTop { g with pc := g.pc + 1, stack := v :: rest }) target → Steps p.tables e below (T.setTop g) target := by
  obtain ⟨c', A', r⟩ := A
  exact fun t k => X.iaload hx (by rw [eT]; exact A'.1) (State.isArrayOf_alike hZ.alike A'.2.1) A'.2.2 (own_in r hj (own_lt hv)) (own_at (a := a) r hv) hg hs hd t k
theorem own_ldJ (X : Stand p l e R s m args below meth c T locs cells slots) (hx : p.tables.exec = Jvm.exec) (hZ : Z.Warmed39 s.vm) (eT : T.heap = h) {a : Addr} {vs : List Value} {v : Value} (A : Arl Z h a .long vs) {j : Int32} (hj : ¬ j < 0) (hv : vs[j.toNatClampNeg]? = some v) {g : JFrame} (hg : g.method = m) {rest : List Value} (hs : g.stack = .int j :: .ref a :: rest) (hd : decode c.code g.pc = .ok (.laload, 1)) :
    ∀ target, Steps p.tables e below (T.setTop { g with pc := g.pc + 1, stack := v :: rest }) target → Steps p.tables e below (T.setTop g) target := by
  obtain ⟨c', A', r⟩ := A
  exact fun t k => X.laload hx (by rw [eT]; exact A'.1) (State.isArrayOf_alike hZ.alike A'.2.1) A'.2.2 (own_in r hj (own_lt hv)) (own_at (a := a) r hv) hg hs hd t k
theorem own_len (X : Stand p l e R s m args below meth c T locs cells slots) (hx : p.tables.exec = Jvm.exec) (hZ : Z.Warmed39 s.vm) (eT : T.heap = h) {a : Addr} {ty : FieldType} {vs : List Value} (A : Arl Z h a ty vs) {n : Int32} (hn : vs.length.toInt32 = n) {g : JFrame} (hg : g.method = m) {rest : List Value} (hs : g.stack = .ref a :: rest) (hd : decode c.code g.pc = .ok (.arraylength, 1)) :
    ∀ target, Steps p.tables e below (T.setTop { g with pc := g.pc + 1, stack := .int n :: rest }) target → Steps p.tables e below (T.setTop g) target := by
  obtain ⟨c', A', r⟩ := A
  have q : c'.slots.size.toInt32 = n := by rw [← hn, ← r, Array.length_toList]
  exact fun t k => X.arraylength hx (ty := ty) (by rw [eT]; exact A'.1) (State.isArrayOf_alike hZ.alike A'.2.1) hg hs hd t (q.symm ▸ k)
end Own
def mhF (k : Int32) (o : Int64) (t q : Int32) : Int32 := if k = 0 then 1 else if (o &&& (255 : Int64)) = (0 : Int64) then (if t = 0 then (if q = 0 then 1 else 0) else 0) else 0
theorem own_byte (o : Int64) : (o.toInt32).toInt8.toInt32 = 0 ↔ (o &&& (255 : Int64)) = (0 : Int64) := by
  have h1 := c_l2i o
  have h2 := c_i2b o.toInt32
  have h3 := c_maskL o 255 8 (by decide) (by decide)
  generalize o.toInt32.toInt8.toInt32 = x at *
  generalize o &&& (255 : Int64) = y at *
  have z1 : (0 : Int32).toInt = 0 := by decide
  have z2 : (0 : Int64).toInt = 0 := by decide
  constructor
  · intro h; apply Int64.toInt_inj.mp; rw [h] at h2; omega
  · intro h; apply Int32.toInt_inj.mp; rw [h] at h3; omega
theorem own_or (t q : Int32) : (t ||| q) = 0 ↔ t = 0 ∧ q = 0 := by
  rw [← Int32.toBitVec_inj, ← Int32.toBitVec_inj, ← Int32.toBitVec_inj]
  simp [Int32.toBitVec_or, BitVec.or_eq_zero_iff]
theorem mhF_1 {k o t q} (h : k = 0) : mhF k o t q = 1 := if_pos h
theorem mhF_2 {k o t q} (h : ¬ k = 0) (h2 : ¬ (o.toInt32).toInt8.toInt32 = 0) : mhF k o t q = 0 := by
  rw [own_byte] at h2; simp [mhF, h, h2]
theorem mhF_3 {k o t q} (h : ¬ k = 0) (h2 : (o.toInt32).toInt8.toInt32 = 0) (h3 : (t ||| q) = 0) : mhF k o t q = 1 := by
  rw [own_byte] at h2; rw [own_or] at h3; simp [mhF, h, h2, h3]
theorem mhF_4 {k o t q} (h : ¬ k = 0) (h2 : (o.toInt32).toInt8.toInt32 = 0) (h3 : ¬ (t ||| q) = 0) : mhF k o t q = 0 := by
  rw [own_byte] at h2; rw [own_or] at h3
  by_cases ht : t = 0
  · have hq : ¬ q = 0 := fun e => h3 ⟨ht, e⟩
    simp [mhF, h, h2, ht, hq]
  · simp [mhF, h, h2, ht]
theorem pd0 : parseMethodDescriptor "(IJII)V" = some ⟨[.int, .long, .int, .int], none⟩ := by decide +kernel
theorem pd1 : parseMethodDescriptor "()V" = some ⟨[], none⟩ := by decide +kernel
theorem pd2 : parseMethodDescriptor "()Z" = some ⟨[], (some .boolean)⟩ := by decide +kernel
theorem pd3 : parseMethodDescriptor "(IJIII)Z" = some ⟨[.int, .long, .int, .int, .int], (some .boolean)⟩ := by decide +kernel
theorem d2_0 : decode jdk_30_method_1_code 0 = .ok (.aload_n 0, 1) := by decide +kernel
theorem d2_1 : decode jdk_30_method_1_code 1 = .ok (.invokespecial 1, 3) := by decide +kernel
theorem d2_4 : decode jdk_30_method_1_code 4 = .ok (.return_, 1) := by decide +kernel
theorem pn0 : plainName "java/lang/Record" = true := by first | (simp [plainName, overriddenIn]; done) | decide +kernel
theorem ef_rm2 (m : MethodId) (a : Addr) : entryFrame m #[(.ref a)] 1 = mkF m 0 #[.val (.ref a)] [] := by first | (simp [entryFrame, mkF, argsToLocals, Value.category]; done) | rfl
def Q_rm2 (Z : State) (a : Addr) (h0 : Heap) (n0 : Nat) (v : Option Value) (h : Heap) (L : List Loc) : Prop := v = none ∧ Fr n0 L ∧ h = h0
set_option maxRecDepth 65536 in
set_option maxHeartbeats 40000000 in
theorem rm2 (l : Launch) (Z : State) (a0 : Array Value) (hw : ∀ d ∈ tables_1, d.before a0 Z = true) (ws : List Jvm.Cond) (a : Addr) (h0 : Heap) (n0 : Nat) (Z0 : n0 ≤ h0.size)  :
    MetFree l (⟨"java/lang/Record", "<init>", "()V"⟩ : MethodName) (head1 (Jvm.Cond.code (⟨"java/lang/Record", "<init>", "()V"⟩ : MethodName) jdk_30_method_1_code 1 none :: ws) ({ frames := 1, cells := 0, slots := 0, locals := 12 } : Room)) (fun aa U => aa = #[(.ref a)] ∧ Z.Warmed39 U.vm ∧ U.heap = h0) (fun _ _ _ _ _ => True) (fun _ U oo U' => ∃ v L, oo = .returned v ∧ Q_rm2 Z a h0 n0 v U'.heap L ∧ FrameEnd U oo U' L ({ frames := 1, cells := 0, slots := 0, locals := 12 } : Room).cells ({ frames := 1, cells := 0, slots := 0, locals := 12 } : Room).slots) := by
  refine MetFree.of_bodySF (plainFor_of_name pn0) hisR ?_
  intro p e s m args below meth c s₁ Bd hml0 hP hK
  obtain ⟨rfl, hZ, hh⟩ := hP
  have hx := Bd.exec
  have hby := Bd.bytes
  have hml : c.maxLocals = 1 := hml0
  have hown : s.vm.findClass "java/lang/Record" = some m.cls := findClass_of_methodNamed Bd.named
  have hnm := (name_of_methodNamed Bd.named Bd.method).1
  have hlk : meth.locks = false := Bd.notSynchronized
  have hret := Bd.returns
  have X0 : Stand p l e ({ frames := 1, cells := 0, slots := 0, locals := 12 } : Room) s m #[(.ref a)] below meth c s₁ [] 0 0 := Stand.of_body Bd
  have e0 : s₁.heap = h0 := by rw [← hh, Bd.state]; rfl
  have N0 := Fr.nil n0
  have K0 : Keep h0 h0 [] := Keep.refl _ _
  show Goes p e below s (Q_rm2 Z a h0 n0) ({ frames := 1, cells := 0, slots := 0, locals := 12 } : Room).cells ({ frames := 1, cells := 0, slots := 0, locals := 12 } : Room).slots _
  refine Goes.go (fun t k => castTop (ef_rm2 m a) k) ?_
  show Goes _ _ _ _ _ _ _ (s₁.setTop (mkF m 0 #[.val (.ref a)] []))
  refine Goes.go (fun _ kk => XS.aloadN X0.here hx rfl (hb hby d2_0) rfl rfl kk) ?_
  show Goes _ _ _ _ _ _ _ (s₁.setTop (mkF m 1 _ [(.ref a)]))
  obtain ⟨T1, X1, e1, st1⟩ := initO X0 hx hZ hown (hw _ (List.mem_of_getElem? (i := 12) rfl)) (hw _ (List.mem_of_getElem? (i := 13) rfl)) (hw _ (List.mem_of_getElem? (i := 14) rfl)) e0 (g := (mkF m 1 #[.val (.ref a)] [(.ref a)])) rfl (by rw [hml]; rfl) rfl (hb hby d2_1) (by decide) (W := 0) (by show 2 * 0 + _ ≤ _; exact Nat.le_of_eq rfl) (by decide)
  refine Goes.go (st1) ?_
  show Goes _ _ _ _ _ _ _ (T1.setTop (mkF m 4 _ []))
  exact Goes.outV X1 hx hlk hret (hb hby d2_4) e1 ⟨rfl, N0, rfl⟩ (by decide) (by decide)
theorem d1_0 : decode prog_63_method_1_code 0 = .ok (.aload_n 0, 1) := by decide +kernel
theorem d1_1 : decode prog_63_method_1_code 1 = .ok (.invokespecial 3, 3) := by decide +kernel
theorem d1_4 : decode prog_63_method_1_code 4 = .ok (.aload_n 0, 1) := by decide +kernel
theorem d1_5 : decode prog_63_method_1_code 5 = .ok (.iload_n 1, 1) := by decide +kernel
theorem d1_6 : decode prog_63_method_1_code 6 = .ok (.putfield 9, 3) := by decide +kernel
theorem d1_9 : decode prog_63_method_1_code 9 = .ok (.aload_n 0, 1) := by decide +kernel
theorem d1_10 : decode prog_63_method_1_code 10 = .ok (.lload_n 2, 1) := by decide +kernel
theorem d1_11 : decode prog_63_method_1_code 11 = .ok (.putfield 15, 3) := by decide +kernel
theorem d1_14 : decode prog_63_method_1_code 14 = .ok (.aload_n 0, 1) := by decide +kernel
theorem d1_15 : decode prog_63_method_1_code 15 = .ok (.iload 4, 2) := by decide +kernel
theorem d1_17 : decode prog_63_method_1_code 17 = .ok (.putfield 19, 3) := by decide +kernel
theorem d1_20 : decode prog_63_method_1_code 20 = .ok (.aload_n 0, 1) := by decide +kernel
theorem d1_21 : decode prog_63_method_1_code 21 = .ok (.iload 5, 2) := by decide +kernel
theorem d1_23 : decode prog_63_method_1_code 23 = .ok (.putfield 22, 3) := by decide +kernel
theorem d1_26 : decode prog_63_method_1_code 26 = .ok (.return_, 1) := by decide +kernel
theorem pn1 : plainName "com/example/log_into_queues/logintoqueues/layout/KeyIndexFile$Entry" = true := by first | (simp [plainName, overriddenIn]; done) | decide +kernel
theorem ef_rm1 (m : MethodId) (a : Addr) (p0 : Int32) (p1 : Int64) (p2 : Int32) (p3 : Int32) : entryFrame m #[(.ref a), (.int p0), (.long p1), (.int p2), (.int p3)] 6 = mkF m 0 #[.val (.ref a), .val (.int p0), .val (.long p1), .second, .val (.int p2), .val (.int p3)] [] := by first | (simp [entryFrame, mkF, argsToLocals, Value.category]; done) | rfl
def Q_rm1 (Z : State) (a : Addr) (p0 : Int32) (p1 : Int64) (p2 : Int32) (p3 : Int32) (h0 : Heap) (n0 : Nat) (v : Option Value) (h : Heap) (L : List Loc) : Prop := v = none ∧ Fr n0 L ∧ Keep h0 h [a] ∧ Exa Z h a "com/example/log_into_queues/logintoqueues/layout/KeyIndexFile$Entry" ∧ Fld Z h a "com/example/log_into_queues/logintoqueues/layout/KeyIndexFile$Entry" "keyHash" "I" (.int p0) ∧ Fld Z h a "com/example/log_into_queues/logintoqueues/layout/KeyIndexFile$Entry" "logOffset" "J" (.long p1) ∧ Fld Z h a "com/example/log_into_queues/logintoqueues/layout/KeyIndexFile$Entry" "timeDifference" "I" (.int p2) ∧ Fld Z h a "com/example/log_into_queues/logintoqueues/layout/KeyIndexFile$Entry" "previous" "I" (.int p3)
set_option maxRecDepth 65536 in
set_option maxHeartbeats 40000000 in
theorem rm1 (l : Launch) (Z : State) (a0 : Array Value) (hw : ∀ d ∈ tables_1, d.before a0 Z = true) (ws : List Jvm.Cond) (a : Addr) (p0 : Int32) (p1 : Int64) (p2 : Int32) (p3 : Int32) (h0 : Heap) (n0 : Nat) (Z0 : n0 ≤ h0.size) (E0 : Exa Z h0 a "com/example/log_into_queues/logintoqueues/layout/KeyIndexFile$Entry") (F_keyHash : Fld Z h0 a "com/example/log_into_queues/logintoqueues/layout/KeyIndexFile$Entry" "keyHash" "I" (.int (0 : Int32))) (F_logOffset : Fld Z h0 a "com/example/log_into_queues/logintoqueues/layout/KeyIndexFile$Entry" "logOffset" "J" (.long (0 : Int64))) (F_timeDifference : Fld Z h0 a "com/example/log_into_queues/logintoqueues/layout/KeyIndexFile$Entry" "timeDifference" "I" (.int (0 : Int32))) (F_previous : Fld Z h0 a "com/example/log_into_queues/logintoqueues/layout/KeyIndexFile$Entry" "previous" "I" (.int (0 : Int32))) (ga : n0 ≤ a) :
    MetFree l (⟨"com/example/log_into_queues/logintoqueues/layout/KeyIndexFile$Entry", "<init>", "(IJII)V"⟩ : MethodName) (head1 (Jvm.Cond.code (⟨"com/example/log_into_queues/logintoqueues/layout/KeyIndexFile$Entry", "<init>", "(IJII)V"⟩ : MethodName) prog_63_method_1_code 6 none :: ws) ({ frames := 2, cells := 0, slots := 0, locals := 24 } : Room)) (fun aa U => aa = #[(.ref a), (.int p0), (.long p1), (.int p2), (.int p3)] ∧ Z.Warmed39 U.vm ∧ U.heap = h0) (fun _ _ _ _ _ => True) (fun _ U oo U' => ∃ v L, oo = .returned v ∧ Q_rm1 Z a p0 p1 p2 p3 h0 n0 v U'.heap L ∧ FrameEnd U oo U' L ({ frames := 2, cells := 0, slots := 0, locals := 24 } : Room).cells ({ frames := 2, cells := 0, slots := 0, locals := 24 } : Room).slots) := by
  refine MetFree.of_bodySF (plainFor_of_name pn1) hisR ?_
  intro p e s m args below meth c s₁ Bd hml0 hP hK
  obtain ⟨rfl, hZ, hh⟩ := hP
  have hx := Bd.exec
  have hby := Bd.bytes
  have hml : c.maxLocals = 6 := hml0
  have hown : s.vm.findClass "com/example/log_into_queues/logintoqueues/layout/KeyIndexFile$Entry" = some m.cls := findClass_of_methodNamed Bd.named
  have hnm := (name_of_methodNamed Bd.named Bd.method).1
  have hlk : meth.locks = false := Bd.notSynchronized
  have hret := Bd.returns
  have X0 : Stand p l e ({ frames := 2, cells := 0, slots := 0, locals := 24 } : Room) s m #[(.ref a), (.int p0), (.long p1), (.int p2), (.int p3)] below meth c s₁ [] 0 0 := Stand.of_body Bd
  have e0 : s₁.heap = h0 := by rw [← hh, Bd.state]; rfl
  have N0 := Fr.nil n0
  have K0 : Keep h0 h0 [a] := Keep.refl _ _
  show Goes p e below s (Q_rm1 Z a p0 p1 p2 p3 h0 n0) ({ frames := 2, cells := 0, slots := 0, locals := 24 } : Room).cells ({ frames := 2, cells := 0, slots := 0, locals := 24 } : Room).slots _
  refine Goes.go (fun t k => castTop (ef_rm1 m a p0 p1 p2 p3) k) ?_
  show Goes _ _ _ _ _ _ _ (s₁.setTop (mkF m 0 #[.val (.ref a), .val (.int p0), .val (.long p1), .second, .val (.int p2), .val (.int p3)] []))
  refine Goes.go (fun _ kk => XS.aloadN X0.here hx rfl (hb hby d1_0) rfl rfl kk) ?_
  show Goes _ _ _ _ _ _ _ (s₁.setTop (mkF m 1 _ [(.ref a)]))
  obtain ⟨_, _, ⟨T1, L1, k1, n1⟩, -, X1, ⟨Lc1, hQ1, l1, y1, z1⟩, st1⟩ := X0.specialBack hx (y := (⟨"java/lang/Record", "<init>", "()V"⟩ : MethodName)) rfl hown (mvT hZ (hw _ (List.mem_of_getElem? (i := 7) rfl))) (mvT hZ (hw _ (List.mem_of_getElem? (i := 8) rfl))) (mvT hZ (hw _ (List.mem_of_getElem? (i := 11) rfl))) (by decide) (backOf (W := 0) (rm2 l Z a0 hw [] a h0 n0 Z0) hZ (hw _ (List.mem_of_getElem? (i := 11) rfl)) (hw _ (List.mem_of_getElem? (i := 10) rfl)) (by decide) (by decide)) (g := (mkF m 1 #[.val (.ref a), .val (.int p0), .val (.long p1), .second, .val (.int p2), .val (.int p3)] [(.ref a)])) rfl (by rw [hml]; rfl) (Steps.refl _) (a := a) (argsL := []) (rest := []) (lenOf pd1 rfl) rfl (by show 2 * 0 + _ ≤ _; exact Nat.le_of_eq rfl) (hb hby d1_1) (fun _ _ => ⟨rfl, e0, (by decide : 0 + 0 ≤ _), (by decide : 0 + 0 ≤ _)⟩)
  dsimp only [Pt.U, Pt.locs, Pt.cells, Pt.slots] at X1 l1 y1 z1 st1 hQ1
  subst l1 y1 z1
  obtain ⟨rfl, Nq1, hh1⟩ := hQ1
  have N1 := Fr.app N0 Nq1
  refine Goes.go (fun _ kk => st1.trans kk) ?_
  show Goes _ _ _ _ _ _ _ (T1.setTop (mkF m 4 _ []))
  refine Goes.go (fun _ kk => XS.aloadN X1.here hx rfl (hb hby d1_4) rfl rfl kk) ?_
  show Goes _ _ _ _ _ _ _ (T1.setTop (mkF m 5 _ [(.ref a)]))
  refine Goes.go (fun _ kk => XS.iloadN X1.here hx rfl (hb hby d1_5) rfl kk) ?_
  show Goes _ _ _ _ _ _ _ (T1.setTop (mkF m 6 _ [(.int p0), (.ref a)]))
  obtain ⟨T2, h2, X2, e2, W2, st2⟩ := putF X1 hx hZ hown (host := "") (Or.inl (hw _ (List.mem_of_getElem? (i := 15) rfl))) Via.refl hh1 F_keyHash E0 (Or.inr ⟨(hw _ (List.mem_of_getElem? (i := 16) rfl)), rfl, hnm⟩) (hw _ (List.mem_of_getElem? (i := 2) rfl)) (ty := .int) (by decide) rfl rfl (g := (mkF m 6 #[.val (.ref a), .val (.int p0), .val (.long p1), .second, .val (.int p2), .val (.int p3)] [(.int p0), (.ref a)])) rfl rfl (hb hby d1_6)
  have N2 := Fr.snoc X2 N1 ga
  have f := Exa.wr W2 E0
  have f_1 := Fld.other W2 F_logOffset (Or.inr (slot_ne (Or.inr (hw _ (List.mem_of_getElem? (i := 18) rfl))) (Or.inr (hw _ (List.mem_of_getElem? (i := 16) rfl))) (by decide) (t := .long) (t' := .int) (by decide) (by decide)))
  have f_2 := Fld.other W2 F_timeDifference (Or.inr (slot_ne (Or.inr (hw _ (List.mem_of_getElem? (i := 20) rfl))) (Or.inr (hw _ (List.mem_of_getElem? (i := 16) rfl))) (by decide) (t := .int) (t' := .int) (by decide) (by decide)))
  have f_3 := Fld.other W2 F_previous (Or.inr (slot_ne (Or.inr (hw _ (List.mem_of_getElem? (i := 22) rfl))) (Or.inr (hw _ (List.mem_of_getElem? (i := 16) rfl))) (by decide) (t := .int) (t' := .int) (by decide) (by decide)))
  have f_4 := Fld.same W2 F_keyHash
  have Z2 : n0 ≤ h2.size := by rw [W2.size]; exact Z0
  have K2 := K0.wr W2 (Or.inl (List.mem_of_getElem? (i := 0) rfl))
  refine Goes.go (st2) ?_
  show Goes _ _ _ _ _ _ _ (T2.setTop (mkF m 9 _ []))
  refine Goes.go (fun _ kk => XS.aloadN X2.here hx rfl (hb hby d1_9) rfl rfl kk) ?_
  show Goes _ _ _ _ _ _ _ (T2.setTop (mkF m 10 _ [(.ref a)]))
  refine Goes.go (fun _ kk => XS.lloadN X2.here hx rfl (hb hby d1_10) rfl kk) ?_
  show Goes _ _ _ _ _ _ _ (T2.setTop (mkF m 11 _ [(.long p1), (.ref a)]))
  obtain ⟨T3, h3, X3, e3, W3, st3⟩ := putF X2 hx hZ hown (host := "") (Or.inl (hw _ (List.mem_of_getElem? (i := 17) rfl))) Via.refl e2 f_1 f (Or.inr ⟨(hw _ (List.mem_of_getElem? (i := 18) rfl)), rfl, hnm⟩) (hw _ (List.mem_of_getElem? (i := 2) rfl)) (ty := .long) (by decide) rfl rfl (g := (mkF m 11 #[.val (.ref a), .val (.int p0), .val (.long p1), .second, .val (.int p2), .val (.int p3)] [(.long p1), (.ref a)])) rfl rfl (hb hby d1_11)
  have N3 := Fr.snoc X3 N2 ga
  have f_5 := Exa.wr W3 f
  have f_6 := Fld.other W3 f_4 (Or.inr (slot_ne (Or.inr (hw _ (List.mem_of_getElem? (i := 16) rfl))) (Or.inr (hw _ (List.mem_of_getElem? (i := 18) rfl))) (by decide) (t := .int) (t' := .long) (by decide) (by decide)))
  have f_7 := Fld.other W3 f_2 (Or.inr (slot_ne (Or.inr (hw _ (List.mem_of_getElem? (i := 20) rfl))) (Or.inr (hw _ (List.mem_of_getElem? (i := 18) rfl))) (by decide) (t := .int) (t' := .long) (by decide) (by decide)))
  have f_8 := Fld.other W3 f_3 (Or.inr (slot_ne (Or.inr (hw _ (List.mem_of_getElem? (i := 22) rfl))) (Or.inr (hw _ (List.mem_of_getElem? (i := 18) rfl))) (by decide) (t := .int) (t' := .long) (by decide) (by decide)))
  have f_9 := Fld.same W3 f_1
  have Z3 : n0 ≤ h3.size := by rw [W3.size]; exact Z2
  have K3 := K2.wr W3 (Or.inl (List.mem_of_getElem? (i := 0) rfl))
  refine Goes.go (st3) ?_
  show Goes _ _ _ _ _ _ _ (T3.setTop (mkF m 14 _ []))
  refine Goes.go (fun _ kk => XS.aloadN X3.here hx rfl (hb hby d1_14) rfl rfl kk) ?_
  show Goes _ _ _ _ _ _ _ (T3.setTop (mkF m 15 _ [(.ref a)]))
  refine Goes.go (fun _ kk => XS.iload X3.here hx rfl (hb hby d1_15) rfl kk) ?_
  show Goes _ _ _ _ _ _ _ (T3.setTop (mkF m 17 _ [(.int p2), (.ref a)]))
  obtain ⟨T4, h4, X4, e4, W4, st4⟩ := putF X3 hx hZ hown (host := "") (Or.inl (hw _ (List.mem_of_getElem? (i := 19) rfl))) Via.refl e3 f_7 f_5 (Or.inr ⟨(hw _ (List.mem_of_getElem? (i := 20) rfl)), rfl, hnm⟩) (hw _ (List.mem_of_getElem? (i := 2) rfl)) (ty := .int) (by decide) rfl rfl (g := (mkF m 17 #[.val (.ref a), .val (.int p0), .val (.long p1), .second, .val (.int p2), .val (.int p3)] [(.int p2), (.ref a)])) rfl rfl (hb hby d1_17)
  have N4 := Fr.snoc X4 N3 ga
  have f_10 := Exa.wr W4 f_5
  have f_11 := Fld.other W4 f_6 (Or.inr (slot_ne (Or.inr (hw _ (List.mem_of_getElem? (i := 16) rfl))) (Or.inr (hw _ (List.mem_of_getElem? (i := 20) rfl))) (by decide) (t := .int) (t' := .int) (by decide) (by decide)))
  have f_12 := Fld.other W4 f_9 (Or.inr (slot_ne (Or.inr (hw _ (List.mem_of_getElem? (i := 18) rfl))) (Or.inr (hw _ (List.mem_of_getElem? (i := 20) rfl))) (by decide) (t := .long) (t' := .int) (by decide) (by decide)))
  have f_13 := Fld.other W4 f_8 (Or.inr (slot_ne (Or.inr (hw _ (List.mem_of_getElem? (i := 22) rfl))) (Or.inr (hw _ (List.mem_of_getElem? (i := 20) rfl))) (by decide) (t := .int) (t' := .int) (by decide) (by decide)))
  have f_14 := Fld.same W4 f_7
  have Z4 : n0 ≤ h4.size := by rw [W4.size]; exact Z3
  have K4 := K3.wr W4 (Or.inl (List.mem_of_getElem? (i := 0) rfl))
  refine Goes.go (st4) ?_
  show Goes _ _ _ _ _ _ _ (T4.setTop (mkF m 20 _ []))
  refine Goes.go (fun _ kk => XS.aloadN X4.here hx rfl (hb hby d1_20) rfl rfl kk) ?_
  show Goes _ _ _ _ _ _ _ (T4.setTop (mkF m 21 _ [(.ref a)]))
  refine Goes.go (fun _ kk => XS.iload X4.here hx rfl (hb hby d1_21) rfl kk) ?_
  show Goes _ _ _ _ _ _ _ (T4.setTop (mkF m 23 _ [(.int p3), (.ref a)]))
  obtain ⟨T5, h5, X5, e5, W5, st5⟩ := putF X4 hx hZ hown (host := "") (Or.inl (hw _ (List.mem_of_getElem? (i := 21) rfl))) Via.refl e4 f_13 f_10 (Or.inr ⟨(hw _ (List.mem_of_getElem? (i := 22) rfl)), rfl, hnm⟩) (hw _ (List.mem_of_getElem? (i := 2) rfl)) (ty := .int) (by decide) rfl rfl (g := (mkF m 23 #[.val (.ref a), .val (.int p0), .val (.long p1), .second, .val (.int p2), .val (.int p3)] [(.int p3), (.ref a)])) rfl rfl (hb hby d1_23)
  have N5 := Fr.snoc X5 N4 ga
  have f_15 := Exa.wr W5 f_10
  have f_16 := Fld.other W5 f_11 (Or.inr (slot_ne (Or.inr (hw _ (List.mem_of_getElem? (i := 16) rfl))) (Or.inr (hw _ (List.mem_of_getElem? (i := 22) rfl))) (by decide) (t := .int) (t' := .int) (by decide) (by decide)))
  have f_17 := Fld.other W5 f_12 (Or.inr (slot_ne (Or.inr (hw _ (List.mem_of_getElem? (i := 18) rfl))) (Or.inr (hw _ (List.mem_of_getElem? (i := 22) rfl))) (by decide) (t := .long) (t' := .int) (by decide) (by decide)))
  have f_18 := Fld.other W5 f_14 (Or.inr (slot_ne (Or.inr (hw _ (List.mem_of_getElem? (i := 20) rfl))) (Or.inr (hw _ (List.mem_of_getElem? (i := 22) rfl))) (by decide) (t := .int) (t' := .int) (by decide) (by decide)))
  have f_19 := Fld.same W5 f_13
  have Z5 : n0 ≤ h5.size := by rw [W5.size]; exact Z4
  have K5 := K4.wr W5 (Or.inl (List.mem_of_getElem? (i := 0) rfl))
  refine Goes.go (st5) ?_
  show Goes _ _ _ _ _ _ _ (T5.setTop (mkF m 26 _ []))
  exact Goes.outV X5 hx hlk hret (hb hby d1_26) e5 ⟨rfl, N5, K5, f_15, f_16, f_17, f_18, f_19⟩ (by decide) (by decide)
theorem d4_0 : decode prog_63_method_7_code 0 = .ok (.aload_n 0, 1) := by decide +kernel
theorem d4_1 : decode prog_63_method_7_code 1 = .ok (.getfield 9, 3) := by decide +kernel
theorem d4_4 : decode prog_63_method_7_code 4 = .ok (.ifCond .eq 30, 3) := by decide +kernel
theorem d4_7 : decode prog_63_method_7_code 7 = .ok (.aload_n 0, 1) := by decide +kernel
theorem d4_8 : decode prog_63_method_7_code 8 = .ok (.getfield 15, 3) := by decide +kernel
theorem d4_11 : decode prog_63_method_7_code 11 = .ok (.ldc2_w 87, 3) := by decide +kernel
theorem d4_14 : decode prog_63_method_7_code 14 = .ok (.land, 1) := by decide +kernel
theorem d4_15 : decode prog_63_method_7_code 15 = .ok (.lconst 0, 1) := by decide +kernel
theorem d4_16 : decode prog_63_method_7_code 16 = .ok (.lcmp, 1) := by decide +kernel
theorem d4_17 : decode prog_63_method_7_code 17 = .ok (.ifCond .ne 21, 3) := by decide +kernel
theorem d4_20 : decode prog_63_method_7_code 20 = .ok (.aload_n 0, 1) := by decide +kernel
theorem d4_21 : decode prog_63_method_7_code 21 = .ok (.getfield 19, 3) := by decide +kernel
theorem d4_24 : decode prog_63_method_7_code 24 = .ok (.ifCond .ne 14, 3) := by decide +kernel
theorem d4_27 : decode prog_63_method_7_code 27 = .ok (.aload_n 0, 1) := by decide +kernel
theorem d4_28 : decode prog_63_method_7_code 28 = .ok (.getfield 22, 3) := by decide +kernel
theorem d4_31 : decode prog_63_method_7_code 31 = .ok (.ifCond .ne 7, 3) := by decide +kernel
theorem d4_34 : decode prog_63_method_7_code 34 = .ok (.iconst 1, 1) := by decide +kernel
theorem d4_35 : decode prog_63_method_7_code 35 = .ok (.goto 4, 3) := by decide +kernel
theorem d4_38 : decode prog_63_method_7_code 38 = .ok (.iconst 0, 1) := by decide +kernel
theorem d4_39 : decode prog_63_method_7_code 39 = .ok (.ireturn, 1) := by decide +kernel
theorem ef_rm3 (m : MethodId) (a : Addr) : entryFrame m #[(.ref a)] 1 = mkF m 0 #[.val (.ref a)] [] := by first | (simp [entryFrame, mkF, argsToLocals, Value.category]; done) | rfl
def Q_rm3 (Z : State) (a : Addr) (k : Int32) (o : Int64) (t : Int32) (q : Int32) (h0 : Heap) (n0 : Nat) (v : Option Value) (h : Heap) (L : List Loc) : Prop := v = some (.int (mhF k o t q)) ∧ Fr n0 L ∧ h = h0
set_option maxRecDepth 65536 in
set_option maxHeartbeats 40000000 in
theorem rm3 (l : Launch) (Z : State) (a0 : Array Value) (hw : ∀ d ∈ tables_1, d.before a0 Z = true) (ws : List Jvm.Cond) (a : Addr) (k : Int32) (o : Int64) (t : Int32) (q : Int32) (h0 : Heap) (n0 : Nat) (Z0 : n0 ≤ h0.size) (F_keyHash : Fld Z h0 a "com/example/log_into_queues/logintoqueues/layout/KeyIndexFile$Entry" "keyHash" "I" (.int k)) (F_logOffset : Fld Z h0 a "com/example/log_into_queues/logintoqueues/layout/KeyIndexFile$Entry" "logOffset" "J" (.long o)) (F_timeDifference : Fld Z h0 a "com/example/log_into_queues/logintoqueues/layout/KeyIndexFile$Entry" "timeDifference" "I" (.int t)) (F_previous : Fld Z h0 a "com/example/log_into_queues/logintoqueues/layout/KeyIndexFile$Entry" "previous" "I" (.int q)) :
    MetFree l (⟨"com/example/log_into_queues/logintoqueues/layout/KeyIndexFile$Entry", "mayHaveLostLogOffsetBytes", "()Z"⟩ : MethodName) (head1 (Jvm.Cond.code (⟨"com/example/log_into_queues/logintoqueues/layout/KeyIndexFile$Entry", "mayHaveLostLogOffsetBytes", "()Z"⟩ : MethodName) prog_63_method_7_code 1 (some .boolean) :: ws) ({ frames := 0, cells := 0, slots := 0, locals := 0 } : Room)) (fun aa U => aa = #[(.ref a)] ∧ Z.Warmed39 U.vm ∧ U.heap = h0) (fun _ _ _ _ _ => True) (fun _ U oo U' => ∃ v L, oo = .returned v ∧ Q_rm3 Z a k o t q h0 n0 v U'.heap L ∧ FrameEnd U oo U' L ({ frames := 0, cells := 0, slots := 0, locals := 0 } : Room).cells ({ frames := 0, cells := 0, slots := 0, locals := 0 } : Room).slots) := by
  refine MetFree.of_bodySF (plainFor_of_name pn1) hisR ?_
  intro p e s m args below meth c s₁ Bd hml0 hP hK
  obtain ⟨rfl, hZ, hh⟩ := hP
  have hx := Bd.exec
  have hby := Bd.bytes
  have hml : c.maxLocals = 1 := hml0
  have hown : s.vm.findClass "com/example/log_into_queues/logintoqueues/layout/KeyIndexFile$Entry" = some m.cls := findClass_of_methodNamed Bd.named
  have hnm := (name_of_methodNamed Bd.named Bd.method).1
  have hlk : meth.locks = false := Bd.notSynchronized
  have hret := Bd.returns
  have X0 : Stand p l e ({ frames := 0, cells := 0, slots := 0, locals := 0 } : Room) s m #[(.ref a)] below meth c s₁ [] 0 0 := Stand.of_body Bd
  have e0 : s₁.heap = h0 := by rw [← hh, Bd.state]; rfl
  have N0 := Fr.nil n0
  have K0 : Keep h0 h0 [] := Keep.refl _ _
  show Goes p e below s (Q_rm3 Z a k o t q h0 n0) ({ frames := 0, cells := 0, slots := 0, locals := 0 } : Room).cells ({ frames := 0, cells := 0, slots := 0, locals := 0 } : Room).slots _
  refine Goes.go (fun t k => castTop (ef_rm3 m a) k) ?_
  show Goes _ _ _ _ _ _ _ (s₁.setTop (mkF m 0 #[.val (.ref a)] []))
  refine Goes.go (fun _ kk => XS.aloadN X0.here hx rfl (hb hby d4_0) rfl rfl kk) ?_
  show Goes _ _ _ _ _ _ _ (s₁.setTop (mkF m 1 _ [(.ref a)]))
  obtain ⟨T1, X1, e1, st1⟩ := getF X0 hx hZ hown (host := "") (Or.inl (hw _ (List.mem_of_getElem? (i := 15) rfl))) Via.refl e0 F_keyHash (g := (mkF m 1 #[.val (.ref a)] [(.ref a)])) rfl rfl (hb hby d4_1)
  refine Goes.go (st1) ?_
  show Goes _ _ _ _ _ _ _ (T1.setTop (mkF m 4 _ [(.int k)]))
  by_cases c4 : k = 0
  · skip
    refine Goes.go (fun _ kk => XS.ifYes X1.here hx rfl (pc0 := 4) (pc' := 34) rfl (hb hby d4_4) rfl (XT.i0_eq_t c4) (by decide) (by decide) kk) ?_
    show Goes _ _ _ _ _ _ _ (T1.setTop (mkF m 34 _ []))
    refine Goes.go (fun _ kk => XS.iconst X1.here hx rfl (hb hby d4_34) kk) ?_
    show Goes _ _ _ _ _ _ _ (T1.setTop (mkF m 35 _ [(.int (1 : Int32))]))
    refine Goes.go (fun _ kk => XS.goto X1.here hx rfl (pc0 := 35) (pc' := 39) rfl (hb hby d4_35) (by decide) (by decide) kk) ?_
    show Goes _ _ _ _ _ _ _ (T1.setTop (mkF m 39 _ [(.int (1 : Int32))]))
    exact Goes.outZ X1 hx hlk hret rfl (hb hby d4_39) e1 ⟨by simp [mhF, c4], N0, rfl⟩ (by decide) (by decide)
  · skip
    refine Goes.go (fun _ kk => XS.ifNo X1.here hx rfl (hb hby d4_4) rfl (XT.i0_eq_f c4) kk) ?_
    show Goes _ _ _ _ _ _ _ (T1.setTop (mkF m 7 _ []))
    refine Goes.go (fun _ kk => XS.aloadN X1.here hx rfl (hb hby d4_7) rfl rfl kk) ?_
    show Goes _ _ _ _ _ _ _ (T1.setTop (mkF m 8 _ [(.ref a)]))
    obtain ⟨T2, X2, e2, st2⟩ := getF X1 hx hZ hown (host := "") (Or.inl (hw _ (List.mem_of_getElem? (i := 17) rfl))) Via.refl e1 F_logOffset (g := (mkF m 8 #[.val (.ref a)] [(.ref a)])) rfl rfl (hb hby d4_8)
    refine Goes.go (st2) ?_
    show Goes _ _ _ _ _ _ _ (T2.setTop (mkF m 11 _ [(.long o)]))
    refine Goes.go (fun _ kk => X2.ldc2J hx (v := (255 : Int64)) hown (mvT hZ (hw _ (List.mem_of_getElem? (i := 28) rfl))) rfl (hb hby d4_11) kk) ?_
    show Goes _ _ _ _ _ _ _ (T2.setTop (mkF m 14 _ [(.long (255 : Int64)), (.long o)]))
    refine Goes.go (fun _ kk => XS.land X2.here hx rfl (hb hby d4_14) rfl kk) ?_
    show Goes _ _ _ _ _ _ _ (T2.setTop (mkF m 15 _ [(.long (o &&& (255 : Int64)))]))
    refine Goes.go (fun _ kk => XS.lconst X2.here hx rfl (hb hby d4_15) kk) ?_
    show Goes _ _ _ _ _ _ _ (T2.setTop (mkF m 16 _ [(.long (0 : Int64)), (.long (o &&& (255 : Int64)))]))
    refine Goes.go (fun _ kk => XT.lcmp X2.here hx rfl (hb hby d4_16) rfl kk) ?_
    show Goes _ _ _ _ _ _ _ (T2.setTop (mkF m 17 _ [(.int (XT.cmpL (o &&& (255 : Int64)) (0 : Int64)))]))
    by_cases c17 : (o &&& (255 : Int64)) = (0 : Int64)
    · skip
      refine Goes.go (fun _ kk => XS.ifNo X2.here hx rfl (hb hby d4_17) rfl (XT.ll_ne_f c17) kk) ?_
      show Goes _ _ _ _ _ _ _ (T2.setTop (mkF m 20 _ []))
      refine Goes.go (fun _ kk => XS.aloadN X2.here hx rfl (hb hby d4_20) rfl rfl kk) ?_
      show Goes _ _ _ _ _ _ _ (T2.setTop (mkF m 21 _ [(.ref a)]))
      obtain ⟨T3, X3, e3, st3⟩ := getF X2 hx hZ hown (host := "") (Or.inl (hw _ (List.mem_of_getElem? (i := 19) rfl))) Via.refl e2 F_timeDifference (g := (mkF m 21 #[.val (.ref a)] [(.ref a)])) rfl rfl (hb hby d4_21)
      refine Goes.go (st3) ?_
      show Goes _ _ _ _ _ _ _ (T3.setTop (mkF m 24 _ [(.int t)]))
      by_cases c24 : t = 0
      · skip
        refine Goes.go (fun _ kk => XS.ifNo X3.here hx rfl (hb hby d4_24) rfl (XT.i0_ne_f c24) kk) ?_
        show Goes _ _ _ _ _ _ _ (T3.setTop (mkF m 27 _ []))
        refine Goes.go (fun _ kk => XS.aloadN X3.here hx rfl (hb hby d4_27) rfl rfl kk) ?_
        show Goes _ _ _ _ _ _ _ (T3.setTop (mkF m 28 _ [(.ref a)]))
        obtain ⟨T4, X4, e4, st4⟩ := getF X3 hx hZ hown (host := "") (Or.inl (hw _ (List.mem_of_getElem? (i := 21) rfl))) Via.refl e3 F_previous (g := (mkF m 28 #[.val (.ref a)] [(.ref a)])) rfl rfl (hb hby d4_28)
        refine Goes.go (st4) ?_
        show Goes _ _ _ _ _ _ _ (T4.setTop (mkF m 31 _ [(.int q)]))
        by_cases c31 : q = 0
        · skip
          refine Goes.go (fun _ kk => XS.ifNo X4.here hx rfl (hb hby d4_31) rfl (XT.i0_ne_f c31) kk) ?_
          show Goes _ _ _ _ _ _ _ (T4.setTop (mkF m 34 _ []))
          refine Goes.go (fun _ kk => XS.iconst X4.here hx rfl (hb hby d4_34) kk) ?_
          show Goes _ _ _ _ _ _ _ (T4.setTop (mkF m 35 _ [(.int (1 : Int32))]))
          refine Goes.go (fun _ kk => XS.goto X4.here hx rfl (pc0 := 35) (pc' := 39) rfl (hb hby d4_35) (by decide) (by decide) kk) ?_
          show Goes _ _ _ _ _ _ _ (T4.setTop (mkF m 39 _ [(.int (1 : Int32))]))
          exact Goes.outZ X4 hx hlk hret rfl (hb hby d4_39) e4 ⟨by simp [mhF, c4, c17, c24, c31], N0, rfl⟩ (by decide) (by decide)
        · skip
          refine Goes.go (fun _ kk => XS.ifYes X4.here hx rfl (pc0 := 31) (pc' := 38) rfl (hb hby d4_31) rfl (XT.i0_ne_t c31) (by decide) (by decide) kk) ?_
          show Goes _ _ _ _ _ _ _ (T4.setTop (mkF m 38 _ []))
          refine Goes.go (fun _ kk => XS.iconst X4.here hx rfl (hb hby d4_38) kk) ?_
          show Goes _ _ _ _ _ _ _ (T4.setTop (mkF m 39 _ [(.int (0 : Int32))]))
          exact Goes.outZ X4 hx hlk hret rfl (hb hby d4_39) e4 ⟨by simp [mhF, c4, c17, c24, c31], N0, rfl⟩ (by decide) (by decide)
      · skip
        refine Goes.go (fun _ kk => XS.ifYes X3.here hx rfl (pc0 := 24) (pc' := 38) rfl (hb hby d4_24) rfl (XT.i0_ne_t c24) (by decide) (by decide) kk) ?_
        show Goes _ _ _ _ _ _ _ (T3.setTop (mkF m 38 _ []))
        refine Goes.go (fun _ kk => XS.iconst X3.here hx rfl (hb hby d4_38) kk) ?_
        show Goes _ _ _ _ _ _ _ (T3.setTop (mkF m 39 _ [(.int (0 : Int32))]))
        exact Goes.outZ X3 hx hlk hret rfl (hb hby d4_39) e3 ⟨by simp [mhF, c4, c17, c24], N0, rfl⟩ (by decide) (by decide)
    · skip
      refine Goes.go (fun _ kk => XS.ifYes X2.here hx rfl (pc0 := 17) (pc' := 38) rfl (hb hby d4_17) rfl (XT.ll_ne_t c17) (by decide) (by decide) kk) ?_
      show Goes _ _ _ _ _ _ _ (T2.setTop (mkF m 38 _ []))
      refine Goes.go (fun _ kk => XS.iconst X2.here hx rfl (hb hby d4_38) kk) ?_
      show Goes _ _ _ _ _ _ _ (T2.setTop (mkF m 39 _ [(.int (0 : Int32))]))
      exact Goes.outZ X2 hx hlk hret rfl (hb hby d4_39) e2 ⟨by simp [mhF, c4, c17], N0, rfl⟩ (by decide) (by decide)
set_option maxRecDepth 65536 in
set_option maxHeartbeats 40000000 in
theorem seg62 {p : Program} {l : Launch} {e : Env} {s : State} {m : MethodId} {args : Array Value} {below : List Frame} {meth : Method} {c : Code} {Q : Option Value → Heap → List Loc → Prop} {Z : State} {a0 : Array Value} (hw : ∀ d ∈ tables_1, d.before a0 Z = true) (hx : p.tables.exec = Jvm.exec) (hby : c.code = code) (hml : c.maxLocals = 13) (hown : s.vm.findClass "com/example/log_into_queues/logintoqueues/layout/EntryMayHaveLostLogOffsetBytesPinLaw" = some m.cls) (hnm : meth.name = "law") (hlk : meth.locks = false) (hret : meth.sig.returnType = (some .boolean)) (hZ : Z.Warmed39 s.vm) (p0 : Int32) (p1 : Int64) (p2 : Int32) (p3 : Int32) (p4 : Int32) (k : Int32) (o : Int64) (t : Int32) (q : Int32) (n0 : Nat) (hQ : ∀ h L, Fr n0 L → Q (some (.int 1)) h L)
    {T : State} {locs : List Loc} {h0 : Heap} (Z0 : n0 ≤ h0.size) (X0 : Stand p l e room_1 s m args below meth c T locs 0 0) (e0 : T.heap = h0) (N0 : Fr n0 locs)  :
    Goes p e below s Q room_1.cells room_1.slots (T.setTop (mkF m 62 #[.val (.int p0), .val (.long p1), .second, .val (.int p2), .val (.int p3), .val (.int p4), .val (.int k), .val (.long o), .second, .val (.int t), .val (.int q), .unset, .unset] [])) := by
  show Goes _ _ _ _ _ _ _ (T.setTop (mkF m 62 #[.val (.int p0), .val (.long p1), .second, .val (.int p2), .val (.int p3), .val (.int p4), .val (.int k), .val (.long o), .second, .val (.int t), .val (.int q), .unset, .unset] []))
  obtain ⟨T1, h1, X1, e1, E1, A1, D1, -, st1⟩ := newO X0 hx hZ hown (hw _ (List.mem_of_getElem? (i := 1) rfl)) (hw _ (List.mem_of_getElem? (i := 2) rfl)) (hw _ (List.mem_of_getElem? (i := 3) rfl)) e0 (g := (mkF m 62 #[.val (.int p0), .val (.long p1), .second, .val (.int p2), .val (.int p3), .val (.int p4), .val (.int k), .val (.long o), .second, .val (.int t), .val (.int q), .unset, .unset] [])) rfl (hb hby at_62) (by decide) (by decide)
  obtain ⟨ob62, gob62⟩ : ∃ z, z = h0.size := ⟨_, rfl⟩
  rw [← gob62] at A1 D1 st1
  have Z1 : n0 ≤ h1.size := Nat.le_trans Z0 E1.1
  have ge_ob62 : n0 ≤ ob62 := Nat.le_trans Z0 (Nat.le_of_eq gob62.symm)
  have f : Fld Z h1 ob62 "com/example/log_into_queues/logintoqueues/layout/KeyIndexFile$Entry" "keyHash" "I" (.int (0 : Int32)) := D1 (Or.inr (hw _ (List.mem_of_getElem? (i := 16) rfl))) (ty := .int) (by decide)
  have f_1 : Fld Z h1 ob62 "com/example/log_into_queues/logintoqueues/layout/KeyIndexFile$Entry" "logOffset" "J" (.long (0 : Int64)) := D1 (Or.inr (hw _ (List.mem_of_getElem? (i := 18) rfl))) (ty := .long) (by decide)
  have f_2 : Fld Z h1 ob62 "com/example/log_into_queues/logintoqueues/layout/KeyIndexFile$Entry" "timeDifference" "I" (.int (0 : Int32)) := D1 (Or.inr (hw _ (List.mem_of_getElem? (i := 20) rfl))) (ty := .int) (by decide)
  have f_3 : Fld Z h1 ob62 "com/example/log_into_queues/logintoqueues/layout/KeyIndexFile$Entry" "previous" "I" (.int (0 : Int32)) := D1 (Or.inr (hw _ (List.mem_of_getElem? (i := 22) rfl))) (ty := .int) (by decide)
  refine Goes.go (st1) ?_
  show Goes _ _ _ _ _ _ _ (T1.setTop (mkF m 65 _ [(.ref ob62)]))
  refine Goes.go (fun _ kk => XS.dup X1.here hx rfl (hb hby at_65) rfl rfl kk) ?_
  show Goes _ _ _ _ _ _ _ (T1.setTop (mkF m 66 _ [(.ref ob62), (.ref ob62)]))
  refine Goes.go (fun _ kk => XS.iload X1.here hx rfl (hb hby at_66) rfl kk) ?_
  show Goes _ _ _ _ _ _ _ (T1.setTop (mkF m 68 _ [(.int k), (.ref ob62), (.ref ob62)]))
  refine Goes.go (fun _ kk => XS.lload X1.here hx rfl (hb hby at_68) rfl kk) ?_
  show Goes _ _ _ _ _ _ _ (T1.setTop (mkF m 70 _ [(.long o), (.int k), (.ref ob62), (.ref ob62)]))
  refine Goes.go (fun _ kk => XS.iload X1.here hx rfl (hb hby at_70) rfl kk) ?_
  show Goes _ _ _ _ _ _ _ (T1.setTop (mkF m 72 _ [(.int t), (.long o), (.int k), (.ref ob62), (.ref ob62)]))
  refine Goes.go (fun _ kk => XS.iload X1.here hx rfl (hb hby at_72) rfl kk) ?_
  show Goes _ _ _ _ _ _ _ (T1.setTop (mkF m 74 _ [(.int q), (.int t), (.long o), (.int k), (.ref ob62), (.ref ob62)]))
  obtain ⟨_, _, ⟨T2, L2, k2, n2⟩, -, X2, ⟨Lc2, hQ2, l2, y2, z2⟩, st2⟩ := X1.specialBack hx (y := (⟨"com/example/log_into_queues/logintoqueues/layout/KeyIndexFile$Entry", "<init>", "(IJII)V"⟩ : MethodName)) rfl hown (mvT hZ (hw _ (List.mem_of_getElem? (i := 4) rfl))) (mvT hZ (hw _ (List.mem_of_getElem? (i := 5) rfl))) (mvT hZ (hw _ (List.mem_of_getElem? (i := 6) rfl))) (by decide) (backOf (W := 1) (rm1 l Z a0 hw [] ob62 k o t q h1 n0 Z1 A1 f f_1 f_2 f_3 ge_ob62) hZ (hw _ (List.mem_of_getElem? (i := 6) rfl)) (hw _ (List.mem_of_getElem? (i := 3) rfl)) (by decide) (by decide)) (g := (mkF m 74 #[.val (.int p0), .val (.long p1), .second, .val (.int p2), .val (.int p3), .val (.int p4), .val (.int k), .val (.long o), .second, .val (.int t), .val (.int q), .unset, .unset] [(.int q), (.int t), (.long o), (.int k), (.ref ob62), (.ref ob62)])) rfl (by rw [hml]; rfl) (Steps.refl _) (a := ob62) (argsL := [(.int k), (.long o), (.int t), (.int q)]) (rest := [(.ref ob62)]) (lenOf pd0 rfl) rfl (by show 2 * 0 + _ ≤ _; exact Nat.le_of_eq rfl) (hb hby at_74) (fun _ _ => ⟨rfl, e1, (by decide : 1 + 0 ≤ _), (by decide : 4 + 0 ≤ _)⟩)
  dsimp only [Pt.U, Pt.locs, Pt.cells, Pt.slots] at X2 l2 y2 z2 st2 hQ2
  subst l2 y2 z2
  obtain ⟨rfl, Nq2, Kq2, Eq2, Fq2_0, Fq2_1, Fq2_2, Fq2_3⟩ := hQ2
  have N2 := Fr.app N0 Nq2
  have Z2 : n0 ≤ T2.heap.size := Nat.le_trans Z1 Kq2.1
  refine Goes.go (fun _ kk => st2.trans kk) ?_
  show Goes _ _ _ _ _ _ _ (T2.setTop (mkF m 77 _ [(.ref ob62)]))
  refine Goes.go (fun _ kk => XS.astore X2.here hx rfl (hb hby at_77) rfl rfl (l' := #[.val (.int p0), .val (.long p1), .second, .val (.int p2), .val (.int p3), .val (.int p4), .val (.int k), .val (.long o), .second, .val (.int t), .val (.int q), .val (.ref ob62), .unset]) rfl kk) ?_
  show Goes _ _ _ _ _ _ _ (T2.setTop (mkF m 79 #[.val (.int p0), .val (.long p1), .second, .val (.int p2), .val (.int p3), .val (.int p4), .val (.int k), .val (.long o), .second, .val (.int t), .val (.int q), .val (.ref ob62), .unset] []))
  refine Goes.go (fun _ kk => XS.iload X2.here hx rfl (hb hby at_79) rfl kk) ?_
  show Goes _ _ _ _ _ _ _ (T2.setTop (mkF m 81 _ [(.int k)]))
  by_cases c81 : k = 0
  · skip
    refine Goes.go (fun _ kk => XS.ifNo X2.here hx rfl (hb hby at_81) rfl (XT.i0_ne_f c81) kk) ?_
    show Goes _ _ _ _ _ _ _ (T2.setTop (mkF m 84 _ []))
    refine Goes.go (fun _ kk => XS.iconst X2.here hx rfl (hb hby at_84) kk) ?_
    show Goes _ _ _ _ _ _ _ (T2.setTop (mkF m 85 _ [(.int (1 : Int32))]))
    refine Goes.go (fun _ kk => XS.istore X2.here hx rfl (hb hby at_85) rfl (l' := #[.val (.int p0), .val (.long p1), .second, .val (.int p2), .val (.int p3), .val (.int p4), .val (.int k), .val (.long o), .second, .val (.int t), .val (.int q), .val (.ref ob62), .val (.int (1 : Int32))]) rfl kk) ?_
    show Goes _ _ _ _ _ _ _ (T2.setTop (mkF m 87 #[.val (.int p0), .val (.long p1), .second, .val (.int p2), .val (.int p3), .val (.int p4), .val (.int k), .val (.long o), .second, .val (.int t), .val (.int q), .val (.ref ob62), .val (.int (1 : Int32))] []))
    refine Goes.go (fun _ kk => XS.goto X2.here hx rfl (pc0 := 87) (pc' := 118) rfl (hb hby at_87) (by decide) (by decide) kk) ?_
    show Goes _ _ _ _ _ _ _ (T2.setTop (mkF m 118 _ []))
    refine Goes.go (fun _ kk => XS.aload X2.here hx rfl (hb hby at_118) rfl rfl kk) ?_
    show Goes _ _ _ _ _ _ _ (T2.setTop (mkF m 120 _ [(.ref ob62)]))
    obtain ⟨cq3, kq3, qa3, qb3, qc3⟩ := isOf hZ rfl Eq2
    obtain ⟨_, _, ⟨T3, L3, k3, n3⟩, -, X3, ⟨Lc3, hQ3, l3, y3, z3⟩, st3⟩ := X2.virtualBack hx (y := (⟨"com/example/log_into_queues/logintoqueues/layout/KeyIndexFile$Entry", "mayHaveLostLogOffsetBytes", "()Z"⟩ : MethodName)) (z := (⟨"com/example/log_into_queues/logintoqueues/layout/KeyIndexFile$Entry", "mayHaveLostLogOffsetBytes", "()Z"⟩ : MethodName)) hown (mvT hZ (hw _ (List.mem_of_getElem? (i := 23) rfl))) (mvT hZ (hw _ (List.mem_of_getElem? (i := 24) rfl))) (notFace_of_selects (args := #[]) (mvT hZ (hw _ (List.mem_of_getElem? (i := 26) rfl)))) (mvT hZ (hw _ (List.mem_of_getElem? (i := 26) rfl))) (mvT hZ (hw _ (List.mem_of_getElem? (i := 25) rfl))) (by decide) (backOf (W := 0) (rm3 l Z a0 hw [] ob62 k o t q T2.heap n0 Z2 Fq2_0 Fq2_1 Fq2_2 Fq2_3) hZ (hw _ (List.mem_of_getElem? (i := 27) rfl)) (hw _ (List.mem_of_getElem? (i := 3) rfl)) (by decide) (by decide)) qa3 qc3 (g := (mkF m 120 #[.val (.int p0), .val (.long p1), .second, .val (.int p2), .val (.int p3), .val (.int p4), .val (.int k), .val (.long o), .second, .val (.int t), .val (.int q), .val (.ref ob62), .val (.int (1 : Int32))] [(.ref ob62)])) rfl (by rw [hml]; rfl) (Steps.refl _) (argsL := []) (rest := []) (lenOf pd2 rfl) rfl (by show 2 * 0 + _ ≤ _; exact Nat.le_of_eq rfl) (hb hby at_120) (fun _ _ => ⟨rfl, rfl, (by decide : 1 + 0 ≤ _), (by decide : 4 + 0 ≤ _)⟩)
    dsimp only [Pt.U, Pt.locs, Pt.cells, Pt.slots] at X3 l3 y3 z3 st3 hQ3
    subst l3 y3 z3
    obtain ⟨rfl, Nq3, hh3⟩ := hQ3
    have N3 := Fr.app N2 Nq3
    refine Goes.go (fun _ kk => st3.trans kk) ?_
    show Goes _ _ _ _ _ _ _ (T3.setTop (mkF m 123 _ [(.int (mhF k o t q))]))
    refine Goes.go (fun _ kk => XS.iload X3.here hx rfl (hb hby at_123) rfl kk) ?_
    show Goes _ _ _ _ _ _ _ (T3.setTop (mkF m 125 _ [(.int (1 : Int32)), (.int (mhF k o t q))]))
    refine Goes.go (fun _ kk => XS.icmpNo X3.here hx rfl (hb hby at_125) rfl (XT.ii_ne_f (mhF_1 c81)) kk) ?_
    show Goes _ _ _ _ _ _ _ (T3.setTop (mkF m 128 _ []))
    refine Goes.go (fun _ kk => XS.iconst X3.here hx rfl (hb hby at_128) kk) ?_
    show Goes _ _ _ _ _ _ _ (T3.setTop (mkF m 129 _ [(.int (1 : Int32))]))
    refine Goes.go (fun _ kk => XS.goto X3.here hx rfl (pc0 := 129) (pc' := 133) rfl (hb hby at_129) (by decide) (by decide) kk) ?_
    show Goes _ _ _ _ _ _ _ (T3.setTop (mkF m 133 _ [(.int (1 : Int32))]))
    exact Goes.outZ X3 hx hlk hret rfl (hb hby at_133) hh3 (hQ _ _ N3) (by decide) (by decide)
  · skip
    refine Goes.go (fun _ kk => XS.ifYes X2.here hx rfl (pc0 := 81) (pc' := 90) rfl (hb hby at_81) rfl (XT.i0_ne_t c81) (by decide) (by decide) kk) ?_
    show Goes _ _ _ _ _ _ _ (T2.setTop (mkF m 90 _ []))
    refine Goes.go (fun _ kk => XS.lload X2.here hx rfl (hb hby at_90) rfl kk) ?_
    show Goes _ _ _ _ _ _ _ (T2.setTop (mkF m 92 _ [(.long o)]))
    refine Goes.go (fun _ kk => XS.l2i X2.here hx rfl (hb hby at_92) rfl kk) ?_
    show Goes _ _ _ _ _ _ _ (T2.setTop (mkF m 93 _ [(.int (o).toInt32)]))
    refine Goes.go (fun _ kk => XS.i2b X2.here hx rfl (hb hby at_93) rfl kk) ?_
    show Goes _ _ _ _ _ _ _ (T2.setTop (mkF m 94 _ [(.int ((o).toInt32).toInt8.toInt32)]))
    by_cases c94 : ((o).toInt32).toInt8.toInt32 = 0
    · skip
      refine Goes.go (fun _ kk => XS.ifYes X2.here hx rfl (pc0 := 94) (pc' := 103) rfl (hb hby at_94) rfl (XT.i0_eq_t c94) (by decide) (by decide) kk) ?_
      show Goes _ _ _ _ _ _ _ (T2.setTop (mkF m 103 _ []))
      refine Goes.go (fun _ kk => XS.iload X2.here hx rfl (hb hby at_103) rfl kk) ?_
      show Goes _ _ _ _ _ _ _ (T2.setTop (mkF m 105 _ [(.int t)]))
      refine Goes.go (fun _ kk => XS.iload X2.here hx rfl (hb hby at_105) rfl kk) ?_
      show Goes _ _ _ _ _ _ _ (T2.setTop (mkF m 107 _ [(.int q), (.int t)]))
      refine Goes.go (fun _ kk => XS.ior X2.here hx rfl (hb hby at_107) rfl kk) ?_
      show Goes _ _ _ _ _ _ _ (T2.setTop (mkF m 108 _ [(.int (t ||| q))]))
      by_cases c108 : (t ||| q) = 0
      · skip
        refine Goes.go (fun _ kk => XS.ifNo X2.here hx rfl (hb hby at_108) rfl (XT.i0_ne_f c108) kk) ?_
        show Goes _ _ _ _ _ _ _ (T2.setTop (mkF m 111 _ []))
        refine Goes.go (fun _ kk => XS.iconst X2.here hx rfl (hb hby at_111) kk) ?_
        show Goes _ _ _ _ _ _ _ (T2.setTop (mkF m 112 _ [(.int (1 : Int32))]))
        refine Goes.go (fun _ kk => XS.goto X2.here hx rfl (pc0 := 112) (pc' := 116) rfl (hb hby at_112) (by decide) (by decide) kk) ?_
        show Goes _ _ _ _ _ _ _ (T2.setTop (mkF m 116 _ [(.int (1 : Int32))]))
        refine Goes.go (fun _ kk => XS.istore X2.here hx rfl (hb hby at_116) rfl (l' := #[.val (.int p0), .val (.long p1), .second, .val (.int p2), .val (.int p3), .val (.int p4), .val (.int k), .val (.long o), .second, .val (.int t), .val (.int q), .val (.ref ob62), .val (.int (1 : Int32))]) rfl kk) ?_
        show Goes _ _ _ _ _ _ _ (T2.setTop (mkF m 118 #[.val (.int p0), .val (.long p1), .second, .val (.int p2), .val (.int p3), .val (.int p4), .val (.int k), .val (.long o), .second, .val (.int t), .val (.int q), .val (.ref ob62), .val (.int (1 : Int32))] []))
        refine Goes.go (fun _ kk => XS.aload X2.here hx rfl (hb hby at_118) rfl rfl kk) ?_
        show Goes _ _ _ _ _ _ _ (T2.setTop (mkF m 120 _ [(.ref ob62)]))
        obtain ⟨cq3, kq3, qa3, qb3, qc3⟩ := isOf hZ rfl Eq2
        obtain ⟨_, _, ⟨T3, L3, k3, n3⟩, -, X3, ⟨Lc3, hQ3, l3, y3, z3⟩, st3⟩ := X2.virtualBack hx (y := (⟨"com/example/log_into_queues/logintoqueues/layout/KeyIndexFile$Entry", "mayHaveLostLogOffsetBytes", "()Z"⟩ : MethodName)) (z := (⟨"com/example/log_into_queues/logintoqueues/layout/KeyIndexFile$Entry", "mayHaveLostLogOffsetBytes", "()Z"⟩ : MethodName)) hown (mvT hZ (hw _ (List.mem_of_getElem? (i := 23) rfl))) (mvT hZ (hw _ (List.mem_of_getElem? (i := 24) rfl))) (notFace_of_selects (args := #[]) (mvT hZ (hw _ (List.mem_of_getElem? (i := 26) rfl)))) (mvT hZ (hw _ (List.mem_of_getElem? (i := 26) rfl))) (mvT hZ (hw _ (List.mem_of_getElem? (i := 25) rfl))) (by decide) (backOf (W := 0) (rm3 l Z a0 hw [] ob62 k o t q T2.heap n0 Z2 Fq2_0 Fq2_1 Fq2_2 Fq2_3) hZ (hw _ (List.mem_of_getElem? (i := 27) rfl)) (hw _ (List.mem_of_getElem? (i := 3) rfl)) (by decide) (by decide)) qa3 qc3 (g := (mkF m 120 #[.val (.int p0), .val (.long p1), .second, .val (.int p2), .val (.int p3), .val (.int p4), .val (.int k), .val (.long o), .second, .val (.int t), .val (.int q), .val (.ref ob62), .val (.int (1 : Int32))] [(.ref ob62)])) rfl (by rw [hml]; rfl) (Steps.refl _) (argsL := []) (rest := []) (lenOf pd2 rfl) rfl (by show 2 * 0 + _ ≤ _; exact Nat.le_of_eq rfl) (hb hby at_120) (fun _ _ => ⟨rfl, rfl, (by decide : 1 + 0 ≤ _), (by decide : 4 + 0 ≤ _)⟩)
        dsimp only [Pt.U, Pt.locs, Pt.cells, Pt.slots] at X3 l3 y3 z3 st3 hQ3
        subst l3 y3 z3
        obtain ⟨rfl, Nq3, hh3⟩ := hQ3
        have N3 := Fr.app N2 Nq3
        refine Goes.go (fun _ kk => st3.trans kk) ?_
        show Goes _ _ _ _ _ _ _ (T3.setTop (mkF m 123 _ [(.int (mhF k o t q))]))
        refine Goes.go (fun _ kk => XS.iload X3.here hx rfl (hb hby at_123) rfl kk) ?_
        show Goes _ _ _ _ _ _ _ (T3.setTop (mkF m 125 _ [(.int (1 : Int32)), (.int (mhF k o t q))]))
        refine Goes.go (fun _ kk => XS.icmpNo X3.here hx rfl (hb hby at_125) rfl (XT.ii_ne_f (mhF_3 c81 c94 c108)) kk) ?_
        show Goes _ _ _ _ _ _ _ (T3.setTop (mkF m 128 _ []))
        refine Goes.go (fun _ kk => XS.iconst X3.here hx rfl (hb hby at_128) kk) ?_
        show Goes _ _ _ _ _ _ _ (T3.setTop (mkF m 129 _ [(.int (1 : Int32))]))
        refine Goes.go (fun _ kk => XS.goto X3.here hx rfl (pc0 := 129) (pc' := 133) rfl (hb hby at_129) (by decide) (by decide) kk) ?_
        show Goes _ _ _ _ _ _ _ (T3.setTop (mkF m 133 _ [(.int (1 : Int32))]))
        exact Goes.outZ X3 hx hlk hret rfl (hb hby at_133) hh3 (hQ _ _ N3) (by decide) (by decide)
      · skip
        refine Goes.go (fun _ kk => XS.ifYes X2.here hx rfl (pc0 := 108) (pc' := 115) rfl (hb hby at_108) rfl (XT.i0_ne_t c108) (by decide) (by decide) kk) ?_
        show Goes _ _ _ _ _ _ _ (T2.setTop (mkF m 115 _ []))
        refine Goes.go (fun _ kk => XS.iconst X2.here hx rfl (hb hby at_115) kk) ?_
        show Goes _ _ _ _ _ _ _ (T2.setTop (mkF m 116 _ [(.int (0 : Int32))]))
        refine Goes.go (fun _ kk => XS.istore X2.here hx rfl (hb hby at_116) rfl (l' := #[.val (.int p0), .val (.long p1), .second, .val (.int p2), .val (.int p3), .val (.int p4), .val (.int k), .val (.long o), .second, .val (.int t), .val (.int q), .val (.ref ob62), .val (.int (0 : Int32))]) rfl kk) ?_
        show Goes _ _ _ _ _ _ _ (T2.setTop (mkF m 118 #[.val (.int p0), .val (.long p1), .second, .val (.int p2), .val (.int p3), .val (.int p4), .val (.int k), .val (.long o), .second, .val (.int t), .val (.int q), .val (.ref ob62), .val (.int (0 : Int32))] []))
        refine Goes.go (fun _ kk => XS.aload X2.here hx rfl (hb hby at_118) rfl rfl kk) ?_
        show Goes _ _ _ _ _ _ _ (T2.setTop (mkF m 120 _ [(.ref ob62)]))
        obtain ⟨cq3, kq3, qa3, qb3, qc3⟩ := isOf hZ rfl Eq2
        obtain ⟨_, _, ⟨T3, L3, k3, n3⟩, -, X3, ⟨Lc3, hQ3, l3, y3, z3⟩, st3⟩ := X2.virtualBack hx (y := (⟨"com/example/log_into_queues/logintoqueues/layout/KeyIndexFile$Entry", "mayHaveLostLogOffsetBytes", "()Z"⟩ : MethodName)) (z := (⟨"com/example/log_into_queues/logintoqueues/layout/KeyIndexFile$Entry", "mayHaveLostLogOffsetBytes", "()Z"⟩ : MethodName)) hown (mvT hZ (hw _ (List.mem_of_getElem? (i := 23) rfl))) (mvT hZ (hw _ (List.mem_of_getElem? (i := 24) rfl))) (notFace_of_selects (args := #[]) (mvT hZ (hw _ (List.mem_of_getElem? (i := 26) rfl)))) (mvT hZ (hw _ (List.mem_of_getElem? (i := 26) rfl))) (mvT hZ (hw _ (List.mem_of_getElem? (i := 25) rfl))) (by decide) (backOf (W := 0) (rm3 l Z a0 hw [] ob62 k o t q T2.heap n0 Z2 Fq2_0 Fq2_1 Fq2_2 Fq2_3) hZ (hw _ (List.mem_of_getElem? (i := 27) rfl)) (hw _ (List.mem_of_getElem? (i := 3) rfl)) (by decide) (by decide)) qa3 qc3 (g := (mkF m 120 #[.val (.int p0), .val (.long p1), .second, .val (.int p2), .val (.int p3), .val (.int p4), .val (.int k), .val (.long o), .second, .val (.int t), .val (.int q), .val (.ref ob62), .val (.int (0 : Int32))] [(.ref ob62)])) rfl (by rw [hml]; rfl) (Steps.refl _) (argsL := []) (rest := []) (lenOf pd2 rfl) rfl (by show 2 * 0 + _ ≤ _; exact Nat.le_of_eq rfl) (hb hby at_120) (fun _ _ => ⟨rfl, rfl, (by decide : 1 + 0 ≤ _), (by decide : 4 + 0 ≤ _)⟩)
        dsimp only [Pt.U, Pt.locs, Pt.cells, Pt.slots] at X3 l3 y3 z3 st3 hQ3
        subst l3 y3 z3
        obtain ⟨rfl, Nq3, hh3⟩ := hQ3
        have N3 := Fr.app N2 Nq3
        refine Goes.go (fun _ kk => st3.trans kk) ?_
        show Goes _ _ _ _ _ _ _ (T3.setTop (mkF m 123 _ [(.int (mhF k o t q))]))
        refine Goes.go (fun _ kk => XS.iload X3.here hx rfl (hb hby at_123) rfl kk) ?_
        show Goes _ _ _ _ _ _ _ (T3.setTop (mkF m 125 _ [(.int (0 : Int32)), (.int (mhF k o t q))]))
        refine Goes.go (fun _ kk => XS.icmpNo X3.here hx rfl (hb hby at_125) rfl (XT.ii_ne_f (mhF_4 c81 c94 c108)) kk) ?_
        show Goes _ _ _ _ _ _ _ (T3.setTop (mkF m 128 _ []))
        refine Goes.go (fun _ kk => XS.iconst X3.here hx rfl (hb hby at_128) kk) ?_
        show Goes _ _ _ _ _ _ _ (T3.setTop (mkF m 129 _ [(.int (1 : Int32))]))
        refine Goes.go (fun _ kk => XS.goto X3.here hx rfl (pc0 := 129) (pc' := 133) rfl (hb hby at_129) (by decide) (by decide) kk) ?_
        show Goes _ _ _ _ _ _ _ (T3.setTop (mkF m 133 _ [(.int (1 : Int32))]))
        exact Goes.outZ X3 hx hlk hret rfl (hb hby at_133) hh3 (hQ _ _ N3) (by decide) (by decide)
    · skip
      refine Goes.go (fun _ kk => XS.ifNo X2.here hx rfl (hb hby at_94) rfl (XT.i0_eq_f c94) kk) ?_
      show Goes _ _ _ _ _ _ _ (T2.setTop (mkF m 97 _ []))
      refine Goes.go (fun _ kk => XS.iconst X2.here hx rfl (hb hby at_97) kk) ?_
      show Goes _ _ _ _ _ _ _ (T2.setTop (mkF m 98 _ [(.int (0 : Int32))]))
      refine Goes.go (fun _ kk => XS.istore X2.here hx rfl (hb hby at_98) rfl (l' := #[.val (.int p0), .val (.long p1), .second, .val (.int p2), .val (.int p3), .val (.int p4), .val (.int k), .val (.long o), .second, .val (.int t), .val (.int q), .val (.ref ob62), .val (.int (0 : Int32))]) rfl kk) ?_
      show Goes _ _ _ _ _ _ _ (T2.setTop (mkF m 100 #[.val (.int p0), .val (.long p1), .second, .val (.int p2), .val (.int p3), .val (.int p4), .val (.int k), .val (.long o), .second, .val (.int t), .val (.int q), .val (.ref ob62), .val (.int (0 : Int32))] []))
      refine Goes.go (fun _ kk => XS.goto X2.here hx rfl (pc0 := 100) (pc' := 118) rfl (hb hby at_100) (by decide) (by decide) kk) ?_
      show Goes _ _ _ _ _ _ _ (T2.setTop (mkF m 118 _ []))
      refine Goes.go (fun _ kk => XS.aload X2.here hx rfl (hb hby at_118) rfl rfl kk) ?_
      show Goes _ _ _ _ _ _ _ (T2.setTop (mkF m 120 _ [(.ref ob62)]))
      obtain ⟨cq3, kq3, qa3, qb3, qc3⟩ := isOf hZ rfl Eq2
      obtain ⟨_, _, ⟨T3, L3, k3, n3⟩, -, X3, ⟨Lc3, hQ3, l3, y3, z3⟩, st3⟩ := X2.virtualBack hx (y := (⟨"com/example/log_into_queues/logintoqueues/layout/KeyIndexFile$Entry", "mayHaveLostLogOffsetBytes", "()Z"⟩ : MethodName)) (z := (⟨"com/example/log_into_queues/logintoqueues/layout/KeyIndexFile$Entry", "mayHaveLostLogOffsetBytes", "()Z"⟩ : MethodName)) hown (mvT hZ (hw _ (List.mem_of_getElem? (i := 23) rfl))) (mvT hZ (hw _ (List.mem_of_getElem? (i := 24) rfl))) (notFace_of_selects (args := #[]) (mvT hZ (hw _ (List.mem_of_getElem? (i := 26) rfl)))) (mvT hZ (hw _ (List.mem_of_getElem? (i := 26) rfl))) (mvT hZ (hw _ (List.mem_of_getElem? (i := 25) rfl))) (by decide) (backOf (W := 0) (rm3 l Z a0 hw [] ob62 k o t q T2.heap n0 Z2 Fq2_0 Fq2_1 Fq2_2 Fq2_3) hZ (hw _ (List.mem_of_getElem? (i := 27) rfl)) (hw _ (List.mem_of_getElem? (i := 3) rfl)) (by decide) (by decide)) qa3 qc3 (g := (mkF m 120 #[.val (.int p0), .val (.long p1), .second, .val (.int p2), .val (.int p3), .val (.int p4), .val (.int k), .val (.long o), .second, .val (.int t), .val (.int q), .val (.ref ob62), .val (.int (0 : Int32))] [(.ref ob62)])) rfl (by rw [hml]; rfl) (Steps.refl _) (argsL := []) (rest := []) (lenOf pd2 rfl) rfl (by show 2 * 0 + _ ≤ _; exact Nat.le_of_eq rfl) (hb hby at_120) (fun _ _ => ⟨rfl, rfl, (by decide : 1 + 0 ≤ _), (by decide : 4 + 0 ≤ _)⟩)
      dsimp only [Pt.U, Pt.locs, Pt.cells, Pt.slots] at X3 l3 y3 z3 st3 hQ3
      subst l3 y3 z3
      obtain ⟨rfl, Nq3, hh3⟩ := hQ3
      have N3 := Fr.app N2 Nq3
      refine Goes.go (fun _ kk => st3.trans kk) ?_
      show Goes _ _ _ _ _ _ _ (T3.setTop (mkF m 123 _ [(.int (mhF k o t q))]))
      refine Goes.go (fun _ kk => XS.iload X3.here hx rfl (hb hby at_123) rfl kk) ?_
      show Goes _ _ _ _ _ _ _ (T3.setTop (mkF m 125 _ [(.int (0 : Int32)), (.int (mhF k o t q))]))
      refine Goes.go (fun _ kk => XS.icmpNo X3.here hx rfl (hb hby at_125) rfl (XT.ii_ne_f (mhF_2 c81 c94)) kk) ?_
      show Goes _ _ _ _ _ _ _ (T3.setTop (mkF m 128 _ []))
      refine Goes.go (fun _ kk => XS.iconst X3.here hx rfl (hb hby at_128) kk) ?_
      show Goes _ _ _ _ _ _ _ (T3.setTop (mkF m 129 _ [(.int (1 : Int32))]))
      refine Goes.go (fun _ kk => XS.goto X3.here hx rfl (pc0 := 129) (pc' := 133) rfl (hb hby at_129) (by decide) (by decide) kk) ?_
      show Goes _ _ _ _ _ _ _ (T3.setTop (mkF m 133 _ [(.int (1 : Int32))]))
      exact Goes.outZ X3 hx hlk hret rfl (hb hby at_133) hh3 (hQ _ _ N3) (by decide) (by decide)
theorem pn2 : plainName "com/example/log_into_queues/logintoqueues/layout/EntryMayHaveLostLogOffsetBytesPinLaw" = true := by first | (simp [plainName, overriddenIn]; done) | decide +kernel
theorem ef_rm0 (m : MethodId) (p0 : Int32) (p1 : Int64) (p2 : Int32) (p3 : Int32) (p4 : Int32) : entryFrame m #[(.int p0), (.long p1), (.int p2), (.int p3), (.int p4)] maxLocals = mkF m 0 #[.val (.int p0), .val (.long p1), .second, .val (.int p2), .val (.int p3), .val (.int p4), .unset, .unset, .unset, .unset, .unset, .unset, .unset] [] := by first | (simp [entryFrame, mkF, argsToLocals, Value.category, maxLocals]; done) | rfl
def Q_rm0 (Z : State) (p0 : Int32) (p1 : Int64) (p2 : Int32) (p3 : Int32) (p4 : Int32) (h0 : Heap) (n0 : Nat) (v : Option Value) (h : Heap) (L : List Loc) : Prop := v = some (.int 1) ∧ Fr n0 L
set_option maxRecDepth 65536 in
set_option maxHeartbeats 40000000 in
theorem rm0 (l : Launch) (Z : State) (a0 : Array Value) (hw : ∀ d ∈ tables_1, d.before a0 Z = true) (ws : List Jvm.Cond) (p0 : Int32) (p1 : Int64) (p2 : Int32) (p3 : Int32) (p4 : Int32) (h0 : Heap) (n0 : Nat) (Z0 : n0 ≤ h0.size)  :
    MetFree l x (head1 (Jvm.Cond.code x code maxLocals ret :: ws) room_1) (fun aa U => aa = #[(.int p0), (.long p1), (.int p2), (.int p3), (.int p4)] ∧ Z.Warmed39 U.vm ∧ U.heap = h0) (fun _ _ _ _ _ => True) (fun _ U oo U' => ∃ v L, oo = .returned v ∧ Q_rm0 Z p0 p1 p2 p3 p4 h0 n0 v U'.heap L ∧ FrameEnd U oo U' L room_1.cells room_1.slots) := by
  refine MetFree.of_bodySF (plainFor_of_name pn2) hisR ?_
  intro p e s m args below meth c s₁ Bd hml0 hP hK
  obtain ⟨rfl, hZ, hh⟩ := hP
  have hx := Bd.exec
  have hby := Bd.bytes
  have hml : c.maxLocals = 13 := hml0
  have hown : s.vm.findClass "com/example/log_into_queues/logintoqueues/layout/EntryMayHaveLostLogOffsetBytesPinLaw" = some m.cls := findClass_of_methodNamed Bd.named
  have hnm := (name_of_methodNamed Bd.named Bd.method).1
  have hlk : meth.locks = false := Bd.notSynchronized
  have hret := Bd.returns
  have X0 : Stand p l e room_1 s m #[(.int p0), (.long p1), (.int p2), (.int p3), (.int p4)] below meth c s₁ [] 0 0 := Stand.of_body Bd
  have e0 : s₁.heap = h0 := by rw [← hh, Bd.state]; rfl
  have N0 := Fr.nil n0
  have K0 : Keep h0 h0 [] := Keep.refl _ _
  show Goes p e below s (Q_rm0 Z p0 p1 p2 p3 p4 h0 n0) room_1.cells room_1.slots _
  refine Goes.go (fun t k => castTop (ef_rm0 m p0 p1 p2 p3 p4) k) ?_
  show Goes _ _ _ _ _ _ _ (s₁.setTop (mkF m 0 #[.val (.int p0), .val (.long p1), .second, .val (.int p2), .val (.int p3), .val (.int p4), .unset, .unset, .unset, .unset, .unset, .unset, .unset] []))
  refine Goes.go (fun _ kk => XS.iload X0.here hx rfl (hb hby at_0) rfl kk) ?_
  show Goes _ _ _ _ _ _ _ (s₁.setTop (mkF m 2 _ [(.int p4)]))
  refine Goes.go (fun _ kk => XS.iconst X0.here hx rfl (hb hby at_2) kk) ?_
  show Goes _ _ _ _ _ _ _ (s₁.setTop (mkF m 3 _ [(.int (1 : Int32)), (.int p4)]))
  refine Goes.go (fun _ kk => XS.iand X0.here hx rfl (hb hby at_3) rfl kk) ?_
  show Goes _ _ _ _ _ _ _ (s₁.setTop (mkF m 4 _ [(.int (p4 &&& (1 : Int32)))]))
  by_cases c4 : (p4 &&& (1 : Int32)) = 0
  · skip
    refine Goes.go (fun _ kk => XS.ifYes X0.here hx rfl (pc0 := 4) (pc' := 11) rfl (hb hby at_4) rfl (XT.i0_eq_t c4) (by decide) (by decide) kk) ?_
    show Goes _ _ _ _ _ _ _ (s₁.setTop (mkF m 11 _ []))
    refine Goes.go (fun _ kk => XS.iloadN X0.here hx rfl (hb hby at_11) rfl kk) ?_
    show Goes _ _ _ _ _ _ _ (s₁.setTop (mkF m 12 _ [(.int p0)]))
    refine Goes.go (fun _ kk => XS.istore X0.here hx rfl (hb hby at_12) rfl (l' := #[.val (.int p0), .val (.long p1), .second, .val (.int p2), .val (.int p3), .val (.int p4), .val (.int p0), .unset, .unset, .unset, .unset, .unset, .unset]) rfl kk) ?_
    show Goes _ _ _ _ _ _ _ (s₁.setTop (mkF m 14 #[.val (.int p0), .val (.long p1), .second, .val (.int p2), .val (.int p3), .val (.int p4), .val (.int p0), .unset, .unset, .unset, .unset, .unset, .unset] []))
    refine Goes.go (fun _ kk => XS.iload X0.here hx rfl (hb hby at_14) rfl kk) ?_
    show Goes _ _ _ _ _ _ _ (s₁.setTop (mkF m 16 _ [(.int p4)]))
    refine Goes.go (fun _ kk => XS.iconst X0.here hx rfl (hb hby at_16) kk) ?_
    show Goes _ _ _ _ _ _ _ (s₁.setTop (mkF m 17 _ [(.int (2 : Int32)), (.int p4)]))
    refine Goes.go (fun _ kk => XS.iand X0.here hx rfl (hb hby at_17) rfl kk) ?_
    show Goes _ _ _ _ _ _ _ (s₁.setTop (mkF m 18 _ [(.int (p4 &&& (2 : Int32)))]))
    by_cases c18 : (p4 &&& (2 : Int32)) = 0
    · skip
      refine Goes.go (fun _ kk => XS.ifYes X0.here hx rfl (pc0 := 18) (pc' := 29) rfl (hb hby at_18) rfl (XT.i0_eq_t c18) (by decide) (by decide) kk) ?_
      show Goes _ _ _ _ _ _ _ (s₁.setTop (mkF m 29 _ []))
      refine Goes.go (fun _ kk => XS.lloadN X0.here hx rfl (hb hby at_29) rfl kk) ?_
      show Goes _ _ _ _ _ _ _ (s₁.setTop (mkF m 30 _ [(.long p1)]))
      refine Goes.go (fun _ kk => XS.lstore X0.here hx rfl (hb hby at_30) rfl (l' := #[.val (.int p0), .val (.long p1), .second, .val (.int p2), .val (.int p3), .val (.int p4), .val (.int p0), .val (.long p1), .second, .unset, .unset, .unset, .unset]) rfl kk) ?_
      show Goes _ _ _ _ _ _ _ (s₁.setTop (mkF m 32 #[.val (.int p0), .val (.long p1), .second, .val (.int p2), .val (.int p3), .val (.int p4), .val (.int p0), .val (.long p1), .second, .unset, .unset, .unset, .unset] []))
      refine Goes.go (fun _ kk => XS.iload X0.here hx rfl (hb hby at_32) rfl kk) ?_
      show Goes _ _ _ _ _ _ _ (s₁.setTop (mkF m 34 _ [(.int p4)]))
      refine Goes.go (fun _ kk => XS.iconst X0.here hx rfl (hb hby at_34) kk) ?_
      show Goes _ _ _ _ _ _ _ (s₁.setTop (mkF m 35 _ [(.int (4 : Int32)), (.int p4)]))
      refine Goes.go (fun _ kk => XS.iand X0.here hx rfl (hb hby at_35) rfl kk) ?_
      show Goes _ _ _ _ _ _ _ (s₁.setTop (mkF m 36 _ [(.int (p4 &&& (4 : Int32)))]))
      by_cases c36 : (p4 &&& (4 : Int32)) = 0
      · skip
        refine Goes.go (fun _ kk => XS.ifYes X0.here hx rfl (pc0 := 36) (pc' := 43) rfl (hb hby at_36) rfl (XT.i0_eq_t c36) (by decide) (by decide) kk) ?_
        show Goes _ _ _ _ _ _ _ (s₁.setTop (mkF m 43 _ []))
        refine Goes.go (fun _ kk => XS.iloadN X0.here hx rfl (hb hby at_43) rfl kk) ?_
        show Goes _ _ _ _ _ _ _ (s₁.setTop (mkF m 44 _ [(.int p2)]))
        refine Goes.go (fun _ kk => XS.istore X0.here hx rfl (hb hby at_44) rfl (l' := #[.val (.int p0), .val (.long p1), .second, .val (.int p2), .val (.int p3), .val (.int p4), .val (.int p0), .val (.long p1), .second, .val (.int p2), .unset, .unset, .unset]) rfl kk) ?_
        show Goes _ _ _ _ _ _ _ (s₁.setTop (mkF m 46 #[.val (.int p0), .val (.long p1), .second, .val (.int p2), .val (.int p3), .val (.int p4), .val (.int p0), .val (.long p1), .second, .val (.int p2), .unset, .unset, .unset] []))
        refine Goes.go (fun _ kk => XS.iload X0.here hx rfl (hb hby at_46) rfl kk) ?_
        show Goes _ _ _ _ _ _ _ (s₁.setTop (mkF m 48 _ [(.int p4)]))
        refine Goes.go (fun _ kk => XS.bipush X0.here hx rfl (hb hby at_48) kk) ?_
        show Goes _ _ _ _ _ _ _ (s₁.setTop (mkF m 50 _ [(.int (8 : Int32)), (.int p4)]))
        refine Goes.go (fun _ kk => XS.iand X0.here hx rfl (hb hby at_50) rfl kk) ?_
        show Goes _ _ _ _ _ _ _ (s₁.setTop (mkF m 51 _ [(.int (p4 &&& (8 : Int32)))]))
        by_cases c51 : (p4 &&& (8 : Int32)) = 0
        · skip
          refine Goes.go (fun _ kk => XS.ifYes X0.here hx rfl (pc0 := 51) (pc' := 58) rfl (hb hby at_51) rfl (XT.i0_eq_t c51) (by decide) (by decide) kk) ?_
          show Goes _ _ _ _ _ _ _ (s₁.setTop (mkF m 58 _ []))
          refine Goes.go (fun _ kk => XS.iload X0.here hx rfl (hb hby at_58) rfl kk) ?_
          show Goes _ _ _ _ _ _ _ (s₁.setTop (mkF m 60 _ [(.int p3)]))
          refine Goes.go (fun _ kk => XS.istore X0.here hx rfl (hb hby at_60) rfl (l' := #[.val (.int p0), .val (.long p1), .second, .val (.int p2), .val (.int p3), .val (.int p4), .val (.int p0), .val (.long p1), .second, .val (.int p2), .val (.int p3), .unset, .unset]) rfl kk) ?_
          show Goes _ _ _ _ _ _ _ (s₁.setTop (mkF m 62 #[.val (.int p0), .val (.long p1), .second, .val (.int p2), .val (.int p3), .val (.int p4), .val (.int p0), .val (.long p1), .second, .val (.int p2), .val (.int p3), .unset, .unset] []))
          exact seg62 hw hx hby hml hown hnm hlk hret hZ p0 p1 p2 p3 p4 p0 p1 p2 p3 n0 (fun _ _ N => ⟨rfl, N⟩) Z0 X0 e0 N0 
        · skip
          refine Goes.go (fun _ kk => XS.ifNo X0.here hx rfl (hb hby at_51) rfl (XT.i0_eq_f c51) kk) ?_
          show Goes _ _ _ _ _ _ _ (s₁.setTop (mkF m 54 _ []))
          refine Goes.go (fun _ kk => XS.iconst X0.here hx rfl (hb hby at_54) kk) ?_
          show Goes _ _ _ _ _ _ _ (s₁.setTop (mkF m 55 _ [(.int (0 : Int32))]))
          refine Goes.go (fun _ kk => XS.goto X0.here hx rfl (pc0 := 55) (pc' := 60) rfl (hb hby at_55) (by decide) (by decide) kk) ?_
          show Goes _ _ _ _ _ _ _ (s₁.setTop (mkF m 60 _ [(.int (0 : Int32))]))
          refine Goes.go (fun _ kk => XS.istore X0.here hx rfl (hb hby at_60) rfl (l' := #[.val (.int p0), .val (.long p1), .second, .val (.int p2), .val (.int p3), .val (.int p4), .val (.int p0), .val (.long p1), .second, .val (.int p2), .val (.int (0 : Int32)), .unset, .unset]) rfl kk) ?_
          show Goes _ _ _ _ _ _ _ (s₁.setTop (mkF m 62 #[.val (.int p0), .val (.long p1), .second, .val (.int p2), .val (.int p3), .val (.int p4), .val (.int p0), .val (.long p1), .second, .val (.int p2), .val (.int (0 : Int32)), .unset, .unset] []))
          exact seg62 hw hx hby hml hown hnm hlk hret hZ p0 p1 p2 p3 p4 p0 p1 p2 (0 : Int32) n0 (fun _ _ N => ⟨rfl, N⟩) Z0 X0 e0 N0 
      · skip
        refine Goes.go (fun _ kk => XS.ifNo X0.here hx rfl (hb hby at_36) rfl (XT.i0_eq_f c36) kk) ?_
        show Goes _ _ _ _ _ _ _ (s₁.setTop (mkF m 39 _ []))
        refine Goes.go (fun _ kk => XS.iconst X0.here hx rfl (hb hby at_39) kk) ?_
        show Goes _ _ _ _ _ _ _ (s₁.setTop (mkF m 40 _ [(.int (0 : Int32))]))
        refine Goes.go (fun _ kk => XS.goto X0.here hx rfl (pc0 := 40) (pc' := 44) rfl (hb hby at_40) (by decide) (by decide) kk) ?_
        show Goes _ _ _ _ _ _ _ (s₁.setTop (mkF m 44 _ [(.int (0 : Int32))]))
        refine Goes.go (fun _ kk => XS.istore X0.here hx rfl (hb hby at_44) rfl (l' := #[.val (.int p0), .val (.long p1), .second, .val (.int p2), .val (.int p3), .val (.int p4), .val (.int p0), .val (.long p1), .second, .val (.int (0 : Int32)), .unset, .unset, .unset]) rfl kk) ?_
        show Goes _ _ _ _ _ _ _ (s₁.setTop (mkF m 46 #[.val (.int p0), .val (.long p1), .second, .val (.int p2), .val (.int p3), .val (.int p4), .val (.int p0), .val (.long p1), .second, .val (.int (0 : Int32)), .unset, .unset, .unset] []))
        refine Goes.go (fun _ kk => XS.iload X0.here hx rfl (hb hby at_46) rfl kk) ?_
        show Goes _ _ _ _ _ _ _ (s₁.setTop (mkF m 48 _ [(.int p4)]))
        refine Goes.go (fun _ kk => XS.bipush X0.here hx rfl (hb hby at_48) kk) ?_
        show Goes _ _ _ _ _ _ _ (s₁.setTop (mkF m 50 _ [(.int (8 : Int32)), (.int p4)]))
        refine Goes.go (fun _ kk => XS.iand X0.here hx rfl (hb hby at_50) rfl kk) ?_
        show Goes _ _ _ _ _ _ _ (s₁.setTop (mkF m 51 _ [(.int (p4 &&& (8 : Int32)))]))
        by_cases c51 : (p4 &&& (8 : Int32)) = 0
        · skip
          refine Goes.go (fun _ kk => XS.ifYes X0.here hx rfl (pc0 := 51) (pc' := 58) rfl (hb hby at_51) rfl (XT.i0_eq_t c51) (by decide) (by decide) kk) ?_
          show Goes _ _ _ _ _ _ _ (s₁.setTop (mkF m 58 _ []))
          refine Goes.go (fun _ kk => XS.iload X0.here hx rfl (hb hby at_58) rfl kk) ?_
          show Goes _ _ _ _ _ _ _ (s₁.setTop (mkF m 60 _ [(.int p3)]))
          refine Goes.go (fun _ kk => XS.istore X0.here hx rfl (hb hby at_60) rfl (l' := #[.val (.int p0), .val (.long p1), .second, .val (.int p2), .val (.int p3), .val (.int p4), .val (.int p0), .val (.long p1), .second, .val (.int (0 : Int32)), .val (.int p3), .unset, .unset]) rfl kk) ?_
          show Goes _ _ _ _ _ _ _ (s₁.setTop (mkF m 62 #[.val (.int p0), .val (.long p1), .second, .val (.int p2), .val (.int p3), .val (.int p4), .val (.int p0), .val (.long p1), .second, .val (.int (0 : Int32)), .val (.int p3), .unset, .unset] []))
          exact seg62 hw hx hby hml hown hnm hlk hret hZ p0 p1 p2 p3 p4 p0 p1 (0 : Int32) p3 n0 (fun _ _ N => ⟨rfl, N⟩) Z0 X0 e0 N0 
        · skip
          refine Goes.go (fun _ kk => XS.ifNo X0.here hx rfl (hb hby at_51) rfl (XT.i0_eq_f c51) kk) ?_
          show Goes _ _ _ _ _ _ _ (s₁.setTop (mkF m 54 _ []))
          refine Goes.go (fun _ kk => XS.iconst X0.here hx rfl (hb hby at_54) kk) ?_
          show Goes _ _ _ _ _ _ _ (s₁.setTop (mkF m 55 _ [(.int (0 : Int32))]))
          refine Goes.go (fun _ kk => XS.goto X0.here hx rfl (pc0 := 55) (pc' := 60) rfl (hb hby at_55) (by decide) (by decide) kk) ?_
          show Goes _ _ _ _ _ _ _ (s₁.setTop (mkF m 60 _ [(.int (0 : Int32))]))
          refine Goes.go (fun _ kk => XS.istore X0.here hx rfl (hb hby at_60) rfl (l' := #[.val (.int p0), .val (.long p1), .second, .val (.int p2), .val (.int p3), .val (.int p4), .val (.int p0), .val (.long p1), .second, .val (.int (0 : Int32)), .val (.int (0 : Int32)), .unset, .unset]) rfl kk) ?_
          show Goes _ _ _ _ _ _ _ (s₁.setTop (mkF m 62 #[.val (.int p0), .val (.long p1), .second, .val (.int p2), .val (.int p3), .val (.int p4), .val (.int p0), .val (.long p1), .second, .val (.int (0 : Int32)), .val (.int (0 : Int32)), .unset, .unset] []))
          exact seg62 hw hx hby hml hown hnm hlk hret hZ p0 p1 p2 p3 p4 p0 p1 (0 : Int32) (0 : Int32) n0 (fun _ _ N => ⟨rfl, N⟩) Z0 X0 e0 N0 
    · skip
      refine Goes.go (fun _ kk => XS.ifNo X0.here hx rfl (hb hby at_18) rfl (XT.i0_eq_f c18) kk) ?_
      show Goes _ _ _ _ _ _ _ (s₁.setTop (mkF m 21 _ []))
      refine Goes.go (fun _ kk => XS.lloadN X0.here hx rfl (hb hby at_21) rfl kk) ?_
      show Goes _ _ _ _ _ _ _ (s₁.setTop (mkF m 22 _ [(.long p1)]))
      refine Goes.go (fun _ kk => X0.ldc2J hx (v := (-256 : Int64)) hown (mvT hZ (hw _ (List.mem_of_getElem? (i := 0) rfl))) rfl (hb hby at_22) kk) ?_
      show Goes _ _ _ _ _ _ _ (s₁.setTop (mkF m 25 _ [(.long (-256 : Int64)), (.long p1)]))
      refine Goes.go (fun _ kk => XS.land X0.here hx rfl (hb hby at_25) rfl kk) ?_
      show Goes _ _ _ _ _ _ _ (s₁.setTop (mkF m 26 _ [(.long (p1 &&& (-256 : Int64)))]))
      refine Goes.go (fun _ kk => XS.goto X0.here hx rfl (pc0 := 26) (pc' := 30) rfl (hb hby at_26) (by decide) (by decide) kk) ?_
      show Goes _ _ _ _ _ _ _ (s₁.setTop (mkF m 30 _ [(.long (p1 &&& (-256 : Int64)))]))
      refine Goes.go (fun _ kk => XS.lstore X0.here hx rfl (hb hby at_30) rfl (l' := #[.val (.int p0), .val (.long p1), .second, .val (.int p2), .val (.int p3), .val (.int p4), .val (.int p0), .val (.long (p1 &&& (-256 : Int64))), .second, .unset, .unset, .unset, .unset]) rfl kk) ?_
      show Goes _ _ _ _ _ _ _ (s₁.setTop (mkF m 32 #[.val (.int p0), .val (.long p1), .second, .val (.int p2), .val (.int p3), .val (.int p4), .val (.int p0), .val (.long (p1 &&& (-256 : Int64))), .second, .unset, .unset, .unset, .unset] []))
      refine Goes.go (fun _ kk => XS.iload X0.here hx rfl (hb hby at_32) rfl kk) ?_
      show Goes _ _ _ _ _ _ _ (s₁.setTop (mkF m 34 _ [(.int p4)]))
      refine Goes.go (fun _ kk => XS.iconst X0.here hx rfl (hb hby at_34) kk) ?_
      show Goes _ _ _ _ _ _ _ (s₁.setTop (mkF m 35 _ [(.int (4 : Int32)), (.int p4)]))
      refine Goes.go (fun _ kk => XS.iand X0.here hx rfl (hb hby at_35) rfl kk) ?_
      show Goes _ _ _ _ _ _ _ (s₁.setTop (mkF m 36 _ [(.int (p4 &&& (4 : Int32)))]))
      by_cases c36 : (p4 &&& (4 : Int32)) = 0
      · skip
        refine Goes.go (fun _ kk => XS.ifYes X0.here hx rfl (pc0 := 36) (pc' := 43) rfl (hb hby at_36) rfl (XT.i0_eq_t c36) (by decide) (by decide) kk) ?_
        show Goes _ _ _ _ _ _ _ (s₁.setTop (mkF m 43 _ []))
        refine Goes.go (fun _ kk => XS.iloadN X0.here hx rfl (hb hby at_43) rfl kk) ?_
        show Goes _ _ _ _ _ _ _ (s₁.setTop (mkF m 44 _ [(.int p2)]))
        refine Goes.go (fun _ kk => XS.istore X0.here hx rfl (hb hby at_44) rfl (l' := #[.val (.int p0), .val (.long p1), .second, .val (.int p2), .val (.int p3), .val (.int p4), .val (.int p0), .val (.long (p1 &&& (-256 : Int64))), .second, .val (.int p2), .unset, .unset, .unset]) rfl kk) ?_
        show Goes _ _ _ _ _ _ _ (s₁.setTop (mkF m 46 #[.val (.int p0), .val (.long p1), .second, .val (.int p2), .val (.int p3), .val (.int p4), .val (.int p0), .val (.long (p1 &&& (-256 : Int64))), .second, .val (.int p2), .unset, .unset, .unset] []))
        refine Goes.go (fun _ kk => XS.iload X0.here hx rfl (hb hby at_46) rfl kk) ?_
        show Goes _ _ _ _ _ _ _ (s₁.setTop (mkF m 48 _ [(.int p4)]))
        refine Goes.go (fun _ kk => XS.bipush X0.here hx rfl (hb hby at_48) kk) ?_
        show Goes _ _ _ _ _ _ _ (s₁.setTop (mkF m 50 _ [(.int (8 : Int32)), (.int p4)]))
        refine Goes.go (fun _ kk => XS.iand X0.here hx rfl (hb hby at_50) rfl kk) ?_
        show Goes _ _ _ _ _ _ _ (s₁.setTop (mkF m 51 _ [(.int (p4 &&& (8 : Int32)))]))
        by_cases c51 : (p4 &&& (8 : Int32)) = 0
        · skip
          refine Goes.go (fun _ kk => XS.ifYes X0.here hx rfl (pc0 := 51) (pc' := 58) rfl (hb hby at_51) rfl (XT.i0_eq_t c51) (by decide) (by decide) kk) ?_
          show Goes _ _ _ _ _ _ _ (s₁.setTop (mkF m 58 _ []))
          refine Goes.go (fun _ kk => XS.iload X0.here hx rfl (hb hby at_58) rfl kk) ?_
          show Goes _ _ _ _ _ _ _ (s₁.setTop (mkF m 60 _ [(.int p3)]))
          refine Goes.go (fun _ kk => XS.istore X0.here hx rfl (hb hby at_60) rfl (l' := #[.val (.int p0), .val (.long p1), .second, .val (.int p2), .val (.int p3), .val (.int p4), .val (.int p0), .val (.long (p1 &&& (-256 : Int64))), .second, .val (.int p2), .val (.int p3), .unset, .unset]) rfl kk) ?_
          show Goes _ _ _ _ _ _ _ (s₁.setTop (mkF m 62 #[.val (.int p0), .val (.long p1), .second, .val (.int p2), .val (.int p3), .val (.int p4), .val (.int p0), .val (.long (p1 &&& (-256 : Int64))), .second, .val (.int p2), .val (.int p3), .unset, .unset] []))
          exact seg62 hw hx hby hml hown hnm hlk hret hZ p0 p1 p2 p3 p4 p0 (p1 &&& (-256 : Int64)) p2 p3 n0 (fun _ _ N => ⟨rfl, N⟩) Z0 X0 e0 N0 
        · skip
          refine Goes.go (fun _ kk => XS.ifNo X0.here hx rfl (hb hby at_51) rfl (XT.i0_eq_f c51) kk) ?_
          show Goes _ _ _ _ _ _ _ (s₁.setTop (mkF m 54 _ []))
          refine Goes.go (fun _ kk => XS.iconst X0.here hx rfl (hb hby at_54) kk) ?_
          show Goes _ _ _ _ _ _ _ (s₁.setTop (mkF m 55 _ [(.int (0 : Int32))]))
          refine Goes.go (fun _ kk => XS.goto X0.here hx rfl (pc0 := 55) (pc' := 60) rfl (hb hby at_55) (by decide) (by decide) kk) ?_
          show Goes _ _ _ _ _ _ _ (s₁.setTop (mkF m 60 _ [(.int (0 : Int32))]))
          refine Goes.go (fun _ kk => XS.istore X0.here hx rfl (hb hby at_60) rfl (l' := #[.val (.int p0), .val (.long p1), .second, .val (.int p2), .val (.int p3), .val (.int p4), .val (.int p0), .val (.long (p1 &&& (-256 : Int64))), .second, .val (.int p2), .val (.int (0 : Int32)), .unset, .unset]) rfl kk) ?_
          show Goes _ _ _ _ _ _ _ (s₁.setTop (mkF m 62 #[.val (.int p0), .val (.long p1), .second, .val (.int p2), .val (.int p3), .val (.int p4), .val (.int p0), .val (.long (p1 &&& (-256 : Int64))), .second, .val (.int p2), .val (.int (0 : Int32)), .unset, .unset] []))
          exact seg62 hw hx hby hml hown hnm hlk hret hZ p0 p1 p2 p3 p4 p0 (p1 &&& (-256 : Int64)) p2 (0 : Int32) n0 (fun _ _ N => ⟨rfl, N⟩) Z0 X0 e0 N0 
      · skip
        refine Goes.go (fun _ kk => XS.ifNo X0.here hx rfl (hb hby at_36) rfl (XT.i0_eq_f c36) kk) ?_
        show Goes _ _ _ _ _ _ _ (s₁.setTop (mkF m 39 _ []))
        refine Goes.go (fun _ kk => XS.iconst X0.here hx rfl (hb hby at_39) kk) ?_
        show Goes _ _ _ _ _ _ _ (s₁.setTop (mkF m 40 _ [(.int (0 : Int32))]))
        refine Goes.go (fun _ kk => XS.goto X0.here hx rfl (pc0 := 40) (pc' := 44) rfl (hb hby at_40) (by decide) (by decide) kk) ?_
        show Goes _ _ _ _ _ _ _ (s₁.setTop (mkF m 44 _ [(.int (0 : Int32))]))
        refine Goes.go (fun _ kk => XS.istore X0.here hx rfl (hb hby at_44) rfl (l' := #[.val (.int p0), .val (.long p1), .second, .val (.int p2), .val (.int p3), .val (.int p4), .val (.int p0), .val (.long (p1 &&& (-256 : Int64))), .second, .val (.int (0 : Int32)), .unset, .unset, .unset]) rfl kk) ?_
        show Goes _ _ _ _ _ _ _ (s₁.setTop (mkF m 46 #[.val (.int p0), .val (.long p1), .second, .val (.int p2), .val (.int p3), .val (.int p4), .val (.int p0), .val (.long (p1 &&& (-256 : Int64))), .second, .val (.int (0 : Int32)), .unset, .unset, .unset] []))
        refine Goes.go (fun _ kk => XS.iload X0.here hx rfl (hb hby at_46) rfl kk) ?_
        show Goes _ _ _ _ _ _ _ (s₁.setTop (mkF m 48 _ [(.int p4)]))
        refine Goes.go (fun _ kk => XS.bipush X0.here hx rfl (hb hby at_48) kk) ?_
        show Goes _ _ _ _ _ _ _ (s₁.setTop (mkF m 50 _ [(.int (8 : Int32)), (.int p4)]))
        refine Goes.go (fun _ kk => XS.iand X0.here hx rfl (hb hby at_50) rfl kk) ?_
        show Goes _ _ _ _ _ _ _ (s₁.setTop (mkF m 51 _ [(.int (p4 &&& (8 : Int32)))]))
        by_cases c51 : (p4 &&& (8 : Int32)) = 0
        · skip
          refine Goes.go (fun _ kk => XS.ifYes X0.here hx rfl (pc0 := 51) (pc' := 58) rfl (hb hby at_51) rfl (XT.i0_eq_t c51) (by decide) (by decide) kk) ?_
          show Goes _ _ _ _ _ _ _ (s₁.setTop (mkF m 58 _ []))
          refine Goes.go (fun _ kk => XS.iload X0.here hx rfl (hb hby at_58) rfl kk) ?_
          show Goes _ _ _ _ _ _ _ (s₁.setTop (mkF m 60 _ [(.int p3)]))
          refine Goes.go (fun _ kk => XS.istore X0.here hx rfl (hb hby at_60) rfl (l' := #[.val (.int p0), .val (.long p1), .second, .val (.int p2), .val (.int p3), .val (.int p4), .val (.int p0), .val (.long (p1 &&& (-256 : Int64))), .second, .val (.int (0 : Int32)), .val (.int p3), .unset, .unset]) rfl kk) ?_
          show Goes _ _ _ _ _ _ _ (s₁.setTop (mkF m 62 #[.val (.int p0), .val (.long p1), .second, .val (.int p2), .val (.int p3), .val (.int p4), .val (.int p0), .val (.long (p1 &&& (-256 : Int64))), .second, .val (.int (0 : Int32)), .val (.int p3), .unset, .unset] []))
          exact seg62 hw hx hby hml hown hnm hlk hret hZ p0 p1 p2 p3 p4 p0 (p1 &&& (-256 : Int64)) (0 : Int32) p3 n0 (fun _ _ N => ⟨rfl, N⟩) Z0 X0 e0 N0 
        · skip
          refine Goes.go (fun _ kk => XS.ifNo X0.here hx rfl (hb hby at_51) rfl (XT.i0_eq_f c51) kk) ?_
          show Goes _ _ _ _ _ _ _ (s₁.setTop (mkF m 54 _ []))
          refine Goes.go (fun _ kk => XS.iconst X0.here hx rfl (hb hby at_54) kk) ?_
          show Goes _ _ _ _ _ _ _ (s₁.setTop (mkF m 55 _ [(.int (0 : Int32))]))
          refine Goes.go (fun _ kk => XS.goto X0.here hx rfl (pc0 := 55) (pc' := 60) rfl (hb hby at_55) (by decide) (by decide) kk) ?_
          show Goes _ _ _ _ _ _ _ (s₁.setTop (mkF m 60 _ [(.int (0 : Int32))]))
          refine Goes.go (fun _ kk => XS.istore X0.here hx rfl (hb hby at_60) rfl (l' := #[.val (.int p0), .val (.long p1), .second, .val (.int p2), .val (.int p3), .val (.int p4), .val (.int p0), .val (.long (p1 &&& (-256 : Int64))), .second, .val (.int (0 : Int32)), .val (.int (0 : Int32)), .unset, .unset]) rfl kk) ?_
          show Goes _ _ _ _ _ _ _ (s₁.setTop (mkF m 62 #[.val (.int p0), .val (.long p1), .second, .val (.int p2), .val (.int p3), .val (.int p4), .val (.int p0), .val (.long (p1 &&& (-256 : Int64))), .second, .val (.int (0 : Int32)), .val (.int (0 : Int32)), .unset, .unset] []))
          exact seg62 hw hx hby hml hown hnm hlk hret hZ p0 p1 p2 p3 p4 p0 (p1 &&& (-256 : Int64)) (0 : Int32) (0 : Int32) n0 (fun _ _ N => ⟨rfl, N⟩) Z0 X0 e0 N0 
  · skip
    refine Goes.go (fun _ kk => XS.ifNo X0.here hx rfl (hb hby at_4) rfl (XT.i0_eq_f c4) kk) ?_
    show Goes _ _ _ _ _ _ _ (s₁.setTop (mkF m 7 _ []))
    refine Goes.go (fun _ kk => XS.iconst X0.here hx rfl (hb hby at_7) kk) ?_
    show Goes _ _ _ _ _ _ _ (s₁.setTop (mkF m 8 _ [(.int (0 : Int32))]))
    refine Goes.go (fun _ kk => XS.goto X0.here hx rfl (pc0 := 8) (pc' := 12) rfl (hb hby at_8) (by decide) (by decide) kk) ?_
    show Goes _ _ _ _ _ _ _ (s₁.setTop (mkF m 12 _ [(.int (0 : Int32))]))
    refine Goes.go (fun _ kk => XS.istore X0.here hx rfl (hb hby at_12) rfl (l' := #[.val (.int p0), .val (.long p1), .second, .val (.int p2), .val (.int p3), .val (.int p4), .val (.int (0 : Int32)), .unset, .unset, .unset, .unset, .unset, .unset]) rfl kk) ?_
    show Goes _ _ _ _ _ _ _ (s₁.setTop (mkF m 14 #[.val (.int p0), .val (.long p1), .second, .val (.int p2), .val (.int p3), .val (.int p4), .val (.int (0 : Int32)), .unset, .unset, .unset, .unset, .unset, .unset] []))
    refine Goes.go (fun _ kk => XS.iload X0.here hx rfl (hb hby at_14) rfl kk) ?_
    show Goes _ _ _ _ _ _ _ (s₁.setTop (mkF m 16 _ [(.int p4)]))
    refine Goes.go (fun _ kk => XS.iconst X0.here hx rfl (hb hby at_16) kk) ?_
    show Goes _ _ _ _ _ _ _ (s₁.setTop (mkF m 17 _ [(.int (2 : Int32)), (.int p4)]))
    refine Goes.go (fun _ kk => XS.iand X0.here hx rfl (hb hby at_17) rfl kk) ?_
    show Goes _ _ _ _ _ _ _ (s₁.setTop (mkF m 18 _ [(.int (p4 &&& (2 : Int32)))]))
    by_cases c18 : (p4 &&& (2 : Int32)) = 0
    · skip
      refine Goes.go (fun _ kk => XS.ifYes X0.here hx rfl (pc0 := 18) (pc' := 29) rfl (hb hby at_18) rfl (XT.i0_eq_t c18) (by decide) (by decide) kk) ?_
      show Goes _ _ _ _ _ _ _ (s₁.setTop (mkF m 29 _ []))
      refine Goes.go (fun _ kk => XS.lloadN X0.here hx rfl (hb hby at_29) rfl kk) ?_
      show Goes _ _ _ _ _ _ _ (s₁.setTop (mkF m 30 _ [(.long p1)]))
      refine Goes.go (fun _ kk => XS.lstore X0.here hx rfl (hb hby at_30) rfl (l' := #[.val (.int p0), .val (.long p1), .second, .val (.int p2), .val (.int p3), .val (.int p4), .val (.int (0 : Int32)), .val (.long p1), .second, .unset, .unset, .unset, .unset]) rfl kk) ?_
      show Goes _ _ _ _ _ _ _ (s₁.setTop (mkF m 32 #[.val (.int p0), .val (.long p1), .second, .val (.int p2), .val (.int p3), .val (.int p4), .val (.int (0 : Int32)), .val (.long p1), .second, .unset, .unset, .unset, .unset] []))
      refine Goes.go (fun _ kk => XS.iload X0.here hx rfl (hb hby at_32) rfl kk) ?_
      show Goes _ _ _ _ _ _ _ (s₁.setTop (mkF m 34 _ [(.int p4)]))
      refine Goes.go (fun _ kk => XS.iconst X0.here hx rfl (hb hby at_34) kk) ?_
      show Goes _ _ _ _ _ _ _ (s₁.setTop (mkF m 35 _ [(.int (4 : Int32)), (.int p4)]))
      refine Goes.go (fun _ kk => XS.iand X0.here hx rfl (hb hby at_35) rfl kk) ?_
      show Goes _ _ _ _ _ _ _ (s₁.setTop (mkF m 36 _ [(.int (p4 &&& (4 : Int32)))]))
      by_cases c36 : (p4 &&& (4 : Int32)) = 0
      · skip
        refine Goes.go (fun _ kk => XS.ifYes X0.here hx rfl (pc0 := 36) (pc' := 43) rfl (hb hby at_36) rfl (XT.i0_eq_t c36) (by decide) (by decide) kk) ?_
        show Goes _ _ _ _ _ _ _ (s₁.setTop (mkF m 43 _ []))
        refine Goes.go (fun _ kk => XS.iloadN X0.here hx rfl (hb hby at_43) rfl kk) ?_
        show Goes _ _ _ _ _ _ _ (s₁.setTop (mkF m 44 _ [(.int p2)]))
        refine Goes.go (fun _ kk => XS.istore X0.here hx rfl (hb hby at_44) rfl (l' := #[.val (.int p0), .val (.long p1), .second, .val (.int p2), .val (.int p3), .val (.int p4), .val (.int (0 : Int32)), .val (.long p1), .second, .val (.int p2), .unset, .unset, .unset]) rfl kk) ?_
        show Goes _ _ _ _ _ _ _ (s₁.setTop (mkF m 46 #[.val (.int p0), .val (.long p1), .second, .val (.int p2), .val (.int p3), .val (.int p4), .val (.int (0 : Int32)), .val (.long p1), .second, .val (.int p2), .unset, .unset, .unset] []))
        refine Goes.go (fun _ kk => XS.iload X0.here hx rfl (hb hby at_46) rfl kk) ?_
        show Goes _ _ _ _ _ _ _ (s₁.setTop (mkF m 48 _ [(.int p4)]))
        refine Goes.go (fun _ kk => XS.bipush X0.here hx rfl (hb hby at_48) kk) ?_
        show Goes _ _ _ _ _ _ _ (s₁.setTop (mkF m 50 _ [(.int (8 : Int32)), (.int p4)]))
        refine Goes.go (fun _ kk => XS.iand X0.here hx rfl (hb hby at_50) rfl kk) ?_
        show Goes _ _ _ _ _ _ _ (s₁.setTop (mkF m 51 _ [(.int (p4 &&& (8 : Int32)))]))
        by_cases c51 : (p4 &&& (8 : Int32)) = 0
        · skip
          refine Goes.go (fun _ kk => XS.ifYes X0.here hx rfl (pc0 := 51) (pc' := 58) rfl (hb hby at_51) rfl (XT.i0_eq_t c51) (by decide) (by decide) kk) ?_
          show Goes _ _ _ _ _ _ _ (s₁.setTop (mkF m 58 _ []))
          refine Goes.go (fun _ kk => XS.iload X0.here hx rfl (hb hby at_58) rfl kk) ?_
          show Goes _ _ _ _ _ _ _ (s₁.setTop (mkF m 60 _ [(.int p3)]))
          refine Goes.go (fun _ kk => XS.istore X0.here hx rfl (hb hby at_60) rfl (l' := #[.val (.int p0), .val (.long p1), .second, .val (.int p2), .val (.int p3), .val (.int p4), .val (.int (0 : Int32)), .val (.long p1), .second, .val (.int p2), .val (.int p3), .unset, .unset]) rfl kk) ?_
          show Goes _ _ _ _ _ _ _ (s₁.setTop (mkF m 62 #[.val (.int p0), .val (.long p1), .second, .val (.int p2), .val (.int p3), .val (.int p4), .val (.int (0 : Int32)), .val (.long p1), .second, .val (.int p2), .val (.int p3), .unset, .unset] []))
          exact seg62 hw hx hby hml hown hnm hlk hret hZ p0 p1 p2 p3 p4 (0 : Int32) p1 p2 p3 n0 (fun _ _ N => ⟨rfl, N⟩) Z0 X0 e0 N0 
        · skip
          refine Goes.go (fun _ kk => XS.ifNo X0.here hx rfl (hb hby at_51) rfl (XT.i0_eq_f c51) kk) ?_
          show Goes _ _ _ _ _ _ _ (s₁.setTop (mkF m 54 _ []))
          refine Goes.go (fun _ kk => XS.iconst X0.here hx rfl (hb hby at_54) kk) ?_
          show Goes _ _ _ _ _ _ _ (s₁.setTop (mkF m 55 _ [(.int (0 : Int32))]))
          refine Goes.go (fun _ kk => XS.goto X0.here hx rfl (pc0 := 55) (pc' := 60) rfl (hb hby at_55) (by decide) (by decide) kk) ?_
          show Goes _ _ _ _ _ _ _ (s₁.setTop (mkF m 60 _ [(.int (0 : Int32))]))
          refine Goes.go (fun _ kk => XS.istore X0.here hx rfl (hb hby at_60) rfl (l' := #[.val (.int p0), .val (.long p1), .second, .val (.int p2), .val (.int p3), .val (.int p4), .val (.int (0 : Int32)), .val (.long p1), .second, .val (.int p2), .val (.int (0 : Int32)), .unset, .unset]) rfl kk) ?_
          show Goes _ _ _ _ _ _ _ (s₁.setTop (mkF m 62 #[.val (.int p0), .val (.long p1), .second, .val (.int p2), .val (.int p3), .val (.int p4), .val (.int (0 : Int32)), .val (.long p1), .second, .val (.int p2), .val (.int (0 : Int32)), .unset, .unset] []))
          exact seg62 hw hx hby hml hown hnm hlk hret hZ p0 p1 p2 p3 p4 (0 : Int32) p1 p2 (0 : Int32) n0 (fun _ _ N => ⟨rfl, N⟩) Z0 X0 e0 N0 
      · skip
        refine Goes.go (fun _ kk => XS.ifNo X0.here hx rfl (hb hby at_36) rfl (XT.i0_eq_f c36) kk) ?_
        show Goes _ _ _ _ _ _ _ (s₁.setTop (mkF m 39 _ []))
        refine Goes.go (fun _ kk => XS.iconst X0.here hx rfl (hb hby at_39) kk) ?_
        show Goes _ _ _ _ _ _ _ (s₁.setTop (mkF m 40 _ [(.int (0 : Int32))]))
        refine Goes.go (fun _ kk => XS.goto X0.here hx rfl (pc0 := 40) (pc' := 44) rfl (hb hby at_40) (by decide) (by decide) kk) ?_
        show Goes _ _ _ _ _ _ _ (s₁.setTop (mkF m 44 _ [(.int (0 : Int32))]))
        refine Goes.go (fun _ kk => XS.istore X0.here hx rfl (hb hby at_44) rfl (l' := #[.val (.int p0), .val (.long p1), .second, .val (.int p2), .val (.int p3), .val (.int p4), .val (.int (0 : Int32)), .val (.long p1), .second, .val (.int (0 : Int32)), .unset, .unset, .unset]) rfl kk) ?_
        show Goes _ _ _ _ _ _ _ (s₁.setTop (mkF m 46 #[.val (.int p0), .val (.long p1), .second, .val (.int p2), .val (.int p3), .val (.int p4), .val (.int (0 : Int32)), .val (.long p1), .second, .val (.int (0 : Int32)), .unset, .unset, .unset] []))
        refine Goes.go (fun _ kk => XS.iload X0.here hx rfl (hb hby at_46) rfl kk) ?_
        show Goes _ _ _ _ _ _ _ (s₁.setTop (mkF m 48 _ [(.int p4)]))
        refine Goes.go (fun _ kk => XS.bipush X0.here hx rfl (hb hby at_48) kk) ?_
        show Goes _ _ _ _ _ _ _ (s₁.setTop (mkF m 50 _ [(.int (8 : Int32)), (.int p4)]))
        refine Goes.go (fun _ kk => XS.iand X0.here hx rfl (hb hby at_50) rfl kk) ?_
        show Goes _ _ _ _ _ _ _ (s₁.setTop (mkF m 51 _ [(.int (p4 &&& (8 : Int32)))]))
        by_cases c51 : (p4 &&& (8 : Int32)) = 0
        · skip
          refine Goes.go (fun _ kk => XS.ifYes X0.here hx rfl (pc0 := 51) (pc' := 58) rfl (hb hby at_51) rfl (XT.i0_eq_t c51) (by decide) (by decide) kk) ?_
          show Goes _ _ _ _ _ _ _ (s₁.setTop (mkF m 58 _ []))
          refine Goes.go (fun _ kk => XS.iload X0.here hx rfl (hb hby at_58) rfl kk) ?_
          show Goes _ _ _ _ _ _ _ (s₁.setTop (mkF m 60 _ [(.int p3)]))
          refine Goes.go (fun _ kk => XS.istore X0.here hx rfl (hb hby at_60) rfl (l' := #[.val (.int p0), .val (.long p1), .second, .val (.int p2), .val (.int p3), .val (.int p4), .val (.int (0 : Int32)), .val (.long p1), .second, .val (.int (0 : Int32)), .val (.int p3), .unset, .unset]) rfl kk) ?_
          show Goes _ _ _ _ _ _ _ (s₁.setTop (mkF m 62 #[.val (.int p0), .val (.long p1), .second, .val (.int p2), .val (.int p3), .val (.int p4), .val (.int (0 : Int32)), .val (.long p1), .second, .val (.int (0 : Int32)), .val (.int p3), .unset, .unset] []))
          exact seg62 hw hx hby hml hown hnm hlk hret hZ p0 p1 p2 p3 p4 (0 : Int32) p1 (0 : Int32) p3 n0 (fun _ _ N => ⟨rfl, N⟩) Z0 X0 e0 N0 
        · skip
          refine Goes.go (fun _ kk => XS.ifNo X0.here hx rfl (hb hby at_51) rfl (XT.i0_eq_f c51) kk) ?_
          show Goes _ _ _ _ _ _ _ (s₁.setTop (mkF m 54 _ []))
          refine Goes.go (fun _ kk => XS.iconst X0.here hx rfl (hb hby at_54) kk) ?_
          show Goes _ _ _ _ _ _ _ (s₁.setTop (mkF m 55 _ [(.int (0 : Int32))]))
          refine Goes.go (fun _ kk => XS.goto X0.here hx rfl (pc0 := 55) (pc' := 60) rfl (hb hby at_55) (by decide) (by decide) kk) ?_
          show Goes _ _ _ _ _ _ _ (s₁.setTop (mkF m 60 _ [(.int (0 : Int32))]))
          refine Goes.go (fun _ kk => XS.istore X0.here hx rfl (hb hby at_60) rfl (l' := #[.val (.int p0), .val (.long p1), .second, .val (.int p2), .val (.int p3), .val (.int p4), .val (.int (0 : Int32)), .val (.long p1), .second, .val (.int (0 : Int32)), .val (.int (0 : Int32)), .unset, .unset]) rfl kk) ?_
          show Goes _ _ _ _ _ _ _ (s₁.setTop (mkF m 62 #[.val (.int p0), .val (.long p1), .second, .val (.int p2), .val (.int p3), .val (.int p4), .val (.int (0 : Int32)), .val (.long p1), .second, .val (.int (0 : Int32)), .val (.int (0 : Int32)), .unset, .unset] []))
          exact seg62 hw hx hby hml hown hnm hlk hret hZ p0 p1 p2 p3 p4 (0 : Int32) p1 (0 : Int32) (0 : Int32) n0 (fun _ _ N => ⟨rfl, N⟩) Z0 X0 e0 N0 
    · skip
      refine Goes.go (fun _ kk => XS.ifNo X0.here hx rfl (hb hby at_18) rfl (XT.i0_eq_f c18) kk) ?_
      show Goes _ _ _ _ _ _ _ (s₁.setTop (mkF m 21 _ []))
      refine Goes.go (fun _ kk => XS.lloadN X0.here hx rfl (hb hby at_21) rfl kk) ?_
      show Goes _ _ _ _ _ _ _ (s₁.setTop (mkF m 22 _ [(.long p1)]))
      refine Goes.go (fun _ kk => X0.ldc2J hx (v := (-256 : Int64)) hown (mvT hZ (hw _ (List.mem_of_getElem? (i := 0) rfl))) rfl (hb hby at_22) kk) ?_
      show Goes _ _ _ _ _ _ _ (s₁.setTop (mkF m 25 _ [(.long (-256 : Int64)), (.long p1)]))
      refine Goes.go (fun _ kk => XS.land X0.here hx rfl (hb hby at_25) rfl kk) ?_
      show Goes _ _ _ _ _ _ _ (s₁.setTop (mkF m 26 _ [(.long (p1 &&& (-256 : Int64)))]))
      refine Goes.go (fun _ kk => XS.goto X0.here hx rfl (pc0 := 26) (pc' := 30) rfl (hb hby at_26) (by decide) (by decide) kk) ?_
      show Goes _ _ _ _ _ _ _ (s₁.setTop (mkF m 30 _ [(.long (p1 &&& (-256 : Int64)))]))
      refine Goes.go (fun _ kk => XS.lstore X0.here hx rfl (hb hby at_30) rfl (l' := #[.val (.int p0), .val (.long p1), .second, .val (.int p2), .val (.int p3), .val (.int p4), .val (.int (0 : Int32)), .val (.long (p1 &&& (-256 : Int64))), .second, .unset, .unset, .unset, .unset]) rfl kk) ?_
      show Goes _ _ _ _ _ _ _ (s₁.setTop (mkF m 32 #[.val (.int p0), .val (.long p1), .second, .val (.int p2), .val (.int p3), .val (.int p4), .val (.int (0 : Int32)), .val (.long (p1 &&& (-256 : Int64))), .second, .unset, .unset, .unset, .unset] []))
      refine Goes.go (fun _ kk => XS.iload X0.here hx rfl (hb hby at_32) rfl kk) ?_
      show Goes _ _ _ _ _ _ _ (s₁.setTop (mkF m 34 _ [(.int p4)]))
      refine Goes.go (fun _ kk => XS.iconst X0.here hx rfl (hb hby at_34) kk) ?_
      show Goes _ _ _ _ _ _ _ (s₁.setTop (mkF m 35 _ [(.int (4 : Int32)), (.int p4)]))
      refine Goes.go (fun _ kk => XS.iand X0.here hx rfl (hb hby at_35) rfl kk) ?_
      show Goes _ _ _ _ _ _ _ (s₁.setTop (mkF m 36 _ [(.int (p4 &&& (4 : Int32)))]))
      by_cases c36 : (p4 &&& (4 : Int32)) = 0
      · skip
        refine Goes.go (fun _ kk => XS.ifYes X0.here hx rfl (pc0 := 36) (pc' := 43) rfl (hb hby at_36) rfl (XT.i0_eq_t c36) (by decide) (by decide) kk) ?_
        show Goes _ _ _ _ _ _ _ (s₁.setTop (mkF m 43 _ []))
        refine Goes.go (fun _ kk => XS.iloadN X0.here hx rfl (hb hby at_43) rfl kk) ?_
        show Goes _ _ _ _ _ _ _ (s₁.setTop (mkF m 44 _ [(.int p2)]))
        refine Goes.go (fun _ kk => XS.istore X0.here hx rfl (hb hby at_44) rfl (l' := #[.val (.int p0), .val (.long p1), .second, .val (.int p2), .val (.int p3), .val (.int p4), .val (.int (0 : Int32)), .val (.long (p1 &&& (-256 : Int64))), .second, .val (.int p2), .unset, .unset, .unset]) rfl kk) ?_
        show Goes _ _ _ _ _ _ _ (s₁.setTop (mkF m 46 #[.val (.int p0), .val (.long p1), .second, .val (.int p2), .val (.int p3), .val (.int p4), .val (.int (0 : Int32)), .val (.long (p1 &&& (-256 : Int64))), .second, .val (.int p2), .unset, .unset, .unset] []))
        refine Goes.go (fun _ kk => XS.iload X0.here hx rfl (hb hby at_46) rfl kk) ?_
        show Goes _ _ _ _ _ _ _ (s₁.setTop (mkF m 48 _ [(.int p4)]))
        refine Goes.go (fun _ kk => XS.bipush X0.here hx rfl (hb hby at_48) kk) ?_
        show Goes _ _ _ _ _ _ _ (s₁.setTop (mkF m 50 _ [(.int (8 : Int32)), (.int p4)]))
        refine Goes.go (fun _ kk => XS.iand X0.here hx rfl (hb hby at_50) rfl kk) ?_
        show Goes _ _ _ _ _ _ _ (s₁.setTop (mkF m 51 _ [(.int (p4 &&& (8 : Int32)))]))
        by_cases c51 : (p4 &&& (8 : Int32)) = 0
        · skip
          refine Goes.go (fun _ kk => XS.ifYes X0.here hx rfl (pc0 := 51) (pc' := 58) rfl (hb hby at_51) rfl (XT.i0_eq_t c51) (by decide) (by decide) kk) ?_
          show Goes _ _ _ _ _ _ _ (s₁.setTop (mkF m 58 _ []))
          refine Goes.go (fun _ kk => XS.iload X0.here hx rfl (hb hby at_58) rfl kk) ?_
          show Goes _ _ _ _ _ _ _ (s₁.setTop (mkF m 60 _ [(.int p3)]))
          refine Goes.go (fun _ kk => XS.istore X0.here hx rfl (hb hby at_60) rfl (l' := #[.val (.int p0), .val (.long p1), .second, .val (.int p2), .val (.int p3), .val (.int p4), .val (.int (0 : Int32)), .val (.long (p1 &&& (-256 : Int64))), .second, .val (.int p2), .val (.int p3), .unset, .unset]) rfl kk) ?_
          show Goes _ _ _ _ _ _ _ (s₁.setTop (mkF m 62 #[.val (.int p0), .val (.long p1), .second, .val (.int p2), .val (.int p3), .val (.int p4), .val (.int (0 : Int32)), .val (.long (p1 &&& (-256 : Int64))), .second, .val (.int p2), .val (.int p3), .unset, .unset] []))
          exact seg62 hw hx hby hml hown hnm hlk hret hZ p0 p1 p2 p3 p4 (0 : Int32) (p1 &&& (-256 : Int64)) p2 p3 n0 (fun _ _ N => ⟨rfl, N⟩) Z0 X0 e0 N0 
        · skip
          refine Goes.go (fun _ kk => XS.ifNo X0.here hx rfl (hb hby at_51) rfl (XT.i0_eq_f c51) kk) ?_
          show Goes _ _ _ _ _ _ _ (s₁.setTop (mkF m 54 _ []))
          refine Goes.go (fun _ kk => XS.iconst X0.here hx rfl (hb hby at_54) kk) ?_
          show Goes _ _ _ _ _ _ _ (s₁.setTop (mkF m 55 _ [(.int (0 : Int32))]))
          refine Goes.go (fun _ kk => XS.goto X0.here hx rfl (pc0 := 55) (pc' := 60) rfl (hb hby at_55) (by decide) (by decide) kk) ?_
          show Goes _ _ _ _ _ _ _ (s₁.setTop (mkF m 60 _ [(.int (0 : Int32))]))
          refine Goes.go (fun _ kk => XS.istore X0.here hx rfl (hb hby at_60) rfl (l' := #[.val (.int p0), .val (.long p1), .second, .val (.int p2), .val (.int p3), .val (.int p4), .val (.int (0 : Int32)), .val (.long (p1 &&& (-256 : Int64))), .second, .val (.int p2), .val (.int (0 : Int32)), .unset, .unset]) rfl kk) ?_
          show Goes _ _ _ _ _ _ _ (s₁.setTop (mkF m 62 #[.val (.int p0), .val (.long p1), .second, .val (.int p2), .val (.int p3), .val (.int p4), .val (.int (0 : Int32)), .val (.long (p1 &&& (-256 : Int64))), .second, .val (.int p2), .val (.int (0 : Int32)), .unset, .unset] []))
          exact seg62 hw hx hby hml hown hnm hlk hret hZ p0 p1 p2 p3 p4 (0 : Int32) (p1 &&& (-256 : Int64)) p2 (0 : Int32) n0 (fun _ _ N => ⟨rfl, N⟩) Z0 X0 e0 N0 
      · skip
        refine Goes.go (fun _ kk => XS.ifNo X0.here hx rfl (hb hby at_36) rfl (XT.i0_eq_f c36) kk) ?_
        show Goes _ _ _ _ _ _ _ (s₁.setTop (mkF m 39 _ []))
        refine Goes.go (fun _ kk => XS.iconst X0.here hx rfl (hb hby at_39) kk) ?_
        show Goes _ _ _ _ _ _ _ (s₁.setTop (mkF m 40 _ [(.int (0 : Int32))]))
        refine Goes.go (fun _ kk => XS.goto X0.here hx rfl (pc0 := 40) (pc' := 44) rfl (hb hby at_40) (by decide) (by decide) kk) ?_
        show Goes _ _ _ _ _ _ _ (s₁.setTop (mkF m 44 _ [(.int (0 : Int32))]))
        refine Goes.go (fun _ kk => XS.istore X0.here hx rfl (hb hby at_44) rfl (l' := #[.val (.int p0), .val (.long p1), .second, .val (.int p2), .val (.int p3), .val (.int p4), .val (.int (0 : Int32)), .val (.long (p1 &&& (-256 : Int64))), .second, .val (.int (0 : Int32)), .unset, .unset, .unset]) rfl kk) ?_
        show Goes _ _ _ _ _ _ _ (s₁.setTop (mkF m 46 #[.val (.int p0), .val (.long p1), .second, .val (.int p2), .val (.int p3), .val (.int p4), .val (.int (0 : Int32)), .val (.long (p1 &&& (-256 : Int64))), .second, .val (.int (0 : Int32)), .unset, .unset, .unset] []))
        refine Goes.go (fun _ kk => XS.iload X0.here hx rfl (hb hby at_46) rfl kk) ?_
        show Goes _ _ _ _ _ _ _ (s₁.setTop (mkF m 48 _ [(.int p4)]))
        refine Goes.go (fun _ kk => XS.bipush X0.here hx rfl (hb hby at_48) kk) ?_
        show Goes _ _ _ _ _ _ _ (s₁.setTop (mkF m 50 _ [(.int (8 : Int32)), (.int p4)]))
        refine Goes.go (fun _ kk => XS.iand X0.here hx rfl (hb hby at_50) rfl kk) ?_
        show Goes _ _ _ _ _ _ _ (s₁.setTop (mkF m 51 _ [(.int (p4 &&& (8 : Int32)))]))
        by_cases c51 : (p4 &&& (8 : Int32)) = 0
        · skip
          refine Goes.go (fun _ kk => XS.ifYes X0.here hx rfl (pc0 := 51) (pc' := 58) rfl (hb hby at_51) rfl (XT.i0_eq_t c51) (by decide) (by decide) kk) ?_
          show Goes _ _ _ _ _ _ _ (s₁.setTop (mkF m 58 _ []))
          refine Goes.go (fun _ kk => XS.iload X0.here hx rfl (hb hby at_58) rfl kk) ?_
          show Goes _ _ _ _ _ _ _ (s₁.setTop (mkF m 60 _ [(.int p3)]))
          refine Goes.go (fun _ kk => XS.istore X0.here hx rfl (hb hby at_60) rfl (l' := #[.val (.int p0), .val (.long p1), .second, .val (.int p2), .val (.int p3), .val (.int p4), .val (.int (0 : Int32)), .val (.long (p1 &&& (-256 : Int64))), .second, .val (.int (0 : Int32)), .val (.int p3), .unset, .unset]) rfl kk) ?_
          show Goes _ _ _ _ _ _ _ (s₁.setTop (mkF m 62 #[.val (.int p0), .val (.long p1), .second, .val (.int p2), .val (.int p3), .val (.int p4), .val (.int (0 : Int32)), .val (.long (p1 &&& (-256 : Int64))), .second, .val (.int (0 : Int32)), .val (.int p3), .unset, .unset] []))
          exact seg62 hw hx hby hml hown hnm hlk hret hZ p0 p1 p2 p3 p4 (0 : Int32) (p1 &&& (-256 : Int64)) (0 : Int32) p3 n0 (fun _ _ N => ⟨rfl, N⟩) Z0 X0 e0 N0 
        · skip
          refine Goes.go (fun _ kk => XS.ifNo X0.here hx rfl (hb hby at_51) rfl (XT.i0_eq_f c51) kk) ?_
          show Goes _ _ _ _ _ _ _ (s₁.setTop (mkF m 54 _ []))
          refine Goes.go (fun _ kk => XS.iconst X0.here hx rfl (hb hby at_54) kk) ?_
          show Goes _ _ _ _ _ _ _ (s₁.setTop (mkF m 55 _ [(.int (0 : Int32))]))
          refine Goes.go (fun _ kk => XS.goto X0.here hx rfl (pc0 := 55) (pc' := 60) rfl (hb hby at_55) (by decide) (by decide) kk) ?_
          show Goes _ _ _ _ _ _ _ (s₁.setTop (mkF m 60 _ [(.int (0 : Int32))]))
          refine Goes.go (fun _ kk => XS.istore X0.here hx rfl (hb hby at_60) rfl (l' := #[.val (.int p0), .val (.long p1), .second, .val (.int p2), .val (.int p3), .val (.int p4), .val (.int (0 : Int32)), .val (.long (p1 &&& (-256 : Int64))), .second, .val (.int (0 : Int32)), .val (.int (0 : Int32)), .unset, .unset]) rfl kk) ?_
          show Goes _ _ _ _ _ _ _ (s₁.setTop (mkF m 62 #[.val (.int p0), .val (.long p1), .second, .val (.int p2), .val (.int p3), .val (.int p4), .val (.int (0 : Int32)), .val (.long (p1 &&& (-256 : Int64))), .second, .val (.int (0 : Int32)), .val (.int (0 : Int32)), .unset, .unset] []))
          exact seg62 hw hx hby hml hown hnm hlk hret hZ p0 p1 p2 p3 p4 (0 : Int32) (p1 &&& (-256 : Int64)) (0 : Int32) (0 : Int32) n0 (fun _ _ N => ⟨rfl, N⟩) Z0 X0 e0 N0 
set_option maxRecDepth 65536 in
set_option maxHeartbeats 40000000 in
theorem comes_1 {Post : Tables → Env → Array Value → State → Outcome → State → Prop} (hpost : ∀ tb e args s v u, (limb_1_1.after args s (.returned v) u = true ∧ limb_1_2.after args s (.returned v) u = true ∧ True) → FrameEnd s (.returned v) u (Jvm.fieldLocs frame_1_writes args s ++ Jvm.arrayLocs frame_1_arrays args s ++ Jvm.staticLocs frame_1_statics s) 16 128 → Post tb e args s (.returned v) u) :
    ArmFor flags0 classFile x code maxLocals ret World_1 tables_1 room_1 Calls_1 rest_1 Pre_1 Post := by
  intro l hfl _ _ p e ha hc hk s m args below hf hA hF happ hP
  obtain ⟨hcalls, hrest, hpre⟩ := hP
  obtain ⟨-, -, -, hnamed, -, -, -, hat⟩ := (Spec.applies_iff hf).mp happ
  obtain ⟨hg, hn⟩ := and_e (Cond.before_iff.mp (show (Jvm.Cond.and given_1 narrow_1).before args s = true from hpre))
  obtain ⟨gc, gr0⟩ := and_e hg
  obtain ⟨g0, gr1⟩ := and_e gr0
  obtain ⟨g1, gr2⟩ := and_e gr1
  obtain ⟨g2, gr3⟩ := and_e gr2
  obtain ⟨g3, gr4⟩ := and_e gr3
  obtain ⟨w0, w1, w2, w3, w4, rfl⟩ : ∃ w0 w1 w2 w3 w4 : Value, args = #[w0, w1, w2, w3, w4] := by
    have hs : args.size = 5 := by simpa [Cond.value, given_1] using gc
    obtain ⟨L⟩ := args
    match L, hs with
    | [w0, w1, w2, w3, w4], _ => exact ⟨w0, w1, w2, w3, w4, rfl⟩
  have hw := fun d (hd : d ∈ tables_1) => atoms_spec (ws := Jvm.Cond.code x code maxLocals ret :: tables_1) hat d (List.mem_cons_of_mem _ hd)
  obtain ⟨i0, ei0⟩ := is_v g0
  obtain rfl : w0 = (.int i0) := Option.some.inj ei0
  obtain ⟨i1, ei1⟩ := isL_v g1
  obtain rfl : w1 = (.long i1) := Option.some.inj ei1
  obtain ⟨i2, ei2⟩ := is_v g2
  obtain rfl : w2 = (.int i2) := Option.some.inj ei2
  obtain ⟨i3, ei3⟩ := is_v g3
  obtain rfl : w3 = (.int i3) := Option.some.inj ei3
  obtain ⟨i4, ei4⟩ := is_v gr4
  obtain rfl : w4 = (.int i4) := Option.some.inj ei4
  obtain ⟨n, o, h1, h2, h3, _, L, rfl, ⟨rfl, N⟩, hq⟩ := rm0 l s _ hw tables_1 i0 i1 i2 i3 i4 s.heap s.heap.size (Nat.le_refl _)  p e ha hc hk s m _ below hf ((Spec.applies_iff_loose hf).mp happ).1 ⟨rfl, State.Warmed39.refl s, rfl⟩ trivial
  refine ⟨n, _, h1, h2, h3, hpost _ _ _ _ _ _ ⟨Cond.after_iff.mpr rfl, Cond.after_iff.mpr (eq_i res_at (Term.int_eval (1)) rfl), trivial⟩ ⟨hq.1, hq.2.1, (hq.2.2.sift fun y hy => Or.inr (N y hy)).mono (by decide) (by decide)⟩⟩
theorem main_1_1 : Claimed_1_1 := comes_1 fun _ _ _ _ _ _ h hF => ⟨h.1, hF⟩
theorem main_1_2 : Claimed_1_2 := comes_1 fun _ _ _ _ _ _ h hF => ⟨h.2.1, hF⟩
end Jvm.Pilot.@@N@@
namespace Jvm.Pilot.@@N@@
open Jvm Jvm.ClassFile Sem Op Lib Jvm.Free Jvm.Stand Jvm.Pilot.@@N@@.Jvm.D
/-! MADE BY PROGRAM (witnessworld.py) out of the Statement's table words and the real class files: 10 classes; the members and pool entries that the words name. The judged class is class 1, her method 1. -/
namespace start1
open Jvm.ClassFile
def u (s : String) : CpInfo := .utf8 (stringToUtf16 s)
/-- a pool by its gaps: so many unusable entries, then the entry; so many at the end -/
def gap : Nat → List CpInfo → List CpInfo
  | 0, r => r
  | n + 1, r => .unusable :: gap n r
def poolList (es : List (Nat × CpInfo)) (last : Nat) : List CpInfo := es.foldr (fun e r => gap e.1 (e.2 :: r)) (gap last [])
def pool (es : List (Nat × CpInfo)) (last : Nat) : Array CpInfo := ⟨poolList es last⟩
def fileOf (pool : Array CpInfo) (this : Nat) (attrs : Array Attribute := #[]) (ms : Array MethodInfo := #[]) (fl : Nat := 33) (sup : Nat := 0) (ifs : Array Nat := #[]) (fds : Array FieldInfo := #[]) : ClassFile where
  minorVersion := 0
  majorVersion := 65
  constantPool := pool
  accessFlags := fl
  thisClass := this
  superClass := sup
  interfaces := ifs
  fields := fds
  methods := ms
  attributes := attrs
def plain (name : String) (sup : Option ClassId) : Class where
  name := name
  kind := .ordinary
  loader := none
  accessFlags := 33
  super := sup
  interfaces := #[]
  cf := none
  fields := #[]
  methods := #[]
  instanceTypes := #[]
  staticTypes := #[]
  resolved := #[]
  callSites := []
  init := .initialized
  statics := none
  mirror := none

def pool0 : Array CpInfo := pool [(5, u "<init>"), (0, u "()V"), (1, .class_ 10), (1, u "java/lang/Object")] 113

def k0c0 : Code := { maxStack := 0, maxLocals := 1, code := object_method_1_code, exceptionTable := #[], attributes := #[] }
def k0m0 : Method := { name := "<init>", desc := "()V", sig := { parameters := [], returnType := none }, accessFlags := 1, code := some k0c0 }
/-- java/lang/Object -/
def k0 : Class := { plain "java/lang/Object" none with
  accessFlags := 33
  interfaces := #[]
  cf := some (fileOf pool0 8 #[] #[{ accessFlags := 1, nameIndex := 5, descriptorIndex := 6, attributes := #[] }] 33 0 #[] #[])
  fields := #[]
  methods := #[k0m0]
  instanceTypes := #[]
  staticTypes := #[]
  resolved := Array.replicate 124 none
  statics := none }

def pool1 : Array CpInfo := pool [(2, .class_ 4), (1, u "java/lang/Object"), (0, u "<init>"), (0, u "()V"), (0, .long 18446744073709551360), (1, .class_ 10), (0, u "com/example/log_into_queues/logintoqueues/layout/KeyIndexFile$Entry"), (0, .methodref 9 12), (0, .nameAndType 5 13), (0, u "(IJII)V"), (0, .methodref 9 15), (0, .nameAndType 16 17), (0, u "mayHaveLostLogOffsetBytes"), (0, u "()Z"), (0, .class_ 19), (0, u "com/example/log_into_queues/logintoqueues/layout/EntryMayHaveLostLogOffsetBytesPinLaw"), (2, u "law"), (0, u "(IJIII)Z")] 7

def k1m0 : Method := { name := "<init>", desc := "()V", sig := { parameters := [], returnType := none }, accessFlags := 2, code := none }
def k1c1 : Code := { maxStack := 7, maxLocals := 13, code := code, exceptionTable := #[], attributes := #[] }
def k1m1 : Method := { name := "law", desc := "(IJIII)Z", sig := { parameters := [.int, .long, .int, .int, .int], returnType := some .boolean }, accessFlags := 9, code := some k1c1 }
/-- com/example/log_into_queues/logintoqueues/layout/EntryMayHaveLostLogOffsetBytesPinLaw -/
def k1 : Class := { plain "com/example/log_into_queues/logintoqueues/layout/EntryMayHaveLostLogOffsetBytesPinLaw" (some 0) with
  accessFlags := 49
  interfaces := #[]
  cf := some (fileOf pool1 18 #[] #[{ accessFlags := 2, nameIndex := 5, descriptorIndex := 6, attributes := #[] }, { accessFlags := 9, nameIndex := 22, descriptorIndex := 23, attributes := #[] }] 49 2 #[] #[])
  fields := #[]
  methods := #[k1m0, k1m1]
  instanceTypes := #[]
  staticTypes := #[]
  resolved := Array.replicate 31 none
  statics := none }

def pool2 : Array CpInfo := pool [(1, .methodref 2 3), (0, .class_ 4), (0, .nameAndType 5 6), (0, u "java/lang/Object"), (0, u "<init>"), (0, u "()V"), (0, .class_ 8), (0, u "java/lang/Record")] 13

def k2c0 : Code := { maxStack := 1, maxLocals := 1, code := jdk_30_method_1_code, exceptionTable := #[], attributes := #[] }
def k2m0 : Method := { name := "<init>", desc := "()V", sig := { parameters := [], returnType := none }, accessFlags := 4, code := some k2c0 }
/-- java/lang/Record -/
def k2 : Class := { plain "java/lang/Record" (some 0) with
  accessFlags := 1057
  interfaces := #[]
  cf := some (fileOf pool2 7 #[] #[{ accessFlags := 4, nameIndex := 5, descriptorIndex := 6, attributes := #[] }] 1057 2 #[] #[])
  fields := #[]
  methods := #[k2m0]
  instanceTypes := #[]
  staticTypes := #[]
  resolved := Array.replicate 22 none
  statics := none }

def pool3 : Array CpInfo := pool [(1, .class_ 2), (0, u "com/example/log_into_queues/logintoqueues/layout/KeyIndexFile"), (0, .methodref 4 5), (0, .class_ 6), (0, .nameAndType 7 8), (0, u "java/lang/Record"), (0, u "<init>"), (0, u "()V"), (0, .fieldref 10 11), (0, .class_ 12), (0, .nameAndType 13 14), (0, u "com/example/log_into_queues/logintoqueues/layout/KeyIndexFile$Entry"), (0, u "keyHash"), (0, u "I"), (0, .fieldref 10 16), (0, .nameAndType 17 18), (0, u "logOffset"), (0, u "J"), (0, .fieldref 10 20), (0, .nameAndType 21 14), (0, u "timeDifference"), (0, .fieldref 10 23), (0, .nameAndType 24 14), (0, u "previous"), (28, u "(IJII)V"), (33, .long 255), (38, u "UNWRITTEN"), (0, u "Lcom/example/log_into_queues/logintoqueues/layout/KeyIndexFile$Entry;"), (0, u "SIZE"), (2, u "LOG_OFFSET_POSITION"), (1, u "TIME_DIFFERENCE_POSITION"), (1, u "PREVIOUS_POSITION"), (1, u "LAST_BYTE"), (8, u "mayHaveLostLogOffsetBytes"), (0, u "()Z")] 31

def k3c0 : Code := { maxStack := 3, maxLocals := 6, code := prog_63_method_1_code, exceptionTable := #[], attributes := #[] }
def k3m0 : Method := { name := "<init>", desc := "(IJII)V", sig := { parameters := [.int, .long, .int, .int], returnType := none }, accessFlags := 1, code := some k3c0 }
def k3c1 : Code := { maxStack := 4, maxLocals := 1, code := prog_63_method_7_code, exceptionTable := #[], attributes := #[] }
def k3m1 : Method := { name := "mayHaveLostLogOffsetBytes", desc := "()Z", sig := { parameters := [], returnType := some .boolean }, accessFlags := 1, code := some k3c1 }
/-- com/example/log_into_queues/logintoqueues/layout/KeyIndexFile$Entry -/
def k3 : Class := { plain "com/example/log_into_queues/logintoqueues/layout/KeyIndexFile$Entry" (some 2) with
  accessFlags := 49
  interfaces := #[]
  cf := some (fileOf pool3 10 #[.nestHost 1] #[{ accessFlags := 1, nameIndex := 7, descriptorIndex := 53, attributes := #[] }, { accessFlags := 1, nameIndex := 146, descriptorIndex := 147, attributes := #[] }] 49 4 #[] #[{ accessFlags := 18, nameIndex := 13, descriptorIndex := 14, attributes := #[] }, { accessFlags := 18, nameIndex := 17, descriptorIndex := 18, attributes := #[] }, { accessFlags := 18, nameIndex := 21, descriptorIndex := 14, attributes := #[] }, { accessFlags := 18, nameIndex := 24, descriptorIndex := 14, attributes := #[] }, { accessFlags := 25, nameIndex := 128, descriptorIndex := 14, attributes := #[] }, { accessFlags := 25, nameIndex := 126, descriptorIndex := 127, attributes := #[] }, { accessFlags := 26, nameIndex := 131, descriptorIndex := 14, attributes := #[] }, { accessFlags := 26, nameIndex := 133, descriptorIndex := 14, attributes := #[] }, { accessFlags := 26, nameIndex := 135, descriptorIndex := 14, attributes := #[] }, { accessFlags := 26, nameIndex := 137, descriptorIndex := 18, attributes := #[] }])
  fields := #[{ name := "keyHash", type := .int, accessFlags := 18, slot := 0, constantValue := 0 }, { name := "logOffset", type := .long, accessFlags := 18, slot := 1, constantValue := 0 }, { name := "timeDifference", type := .int, accessFlags := 18, slot := 2, constantValue := 0 }, { name := "previous", type := .int, accessFlags := 18, slot := 3, constantValue := 0 }, { name := "SIZE", type := .int, accessFlags := 25, slot := 0, constantValue := 0 }, { name := "UNWRITTEN", type := (.object "com/example/log_into_queues/logintoqueues/layout/KeyIndexFile$Entry"), accessFlags := 25, slot := 1, constantValue := 0 }, { name := "LOG_OFFSET_POSITION", type := .int, accessFlags := 26, slot := 2, constantValue := 0 }, { name := "TIME_DIFFERENCE_POSITION", type := .int, accessFlags := 26, slot := 3, constantValue := 0 }, { name := "PREVIOUS_POSITION", type := .int, accessFlags := 26, slot := 4, constantValue := 0 }, { name := "LAST_BYTE", type := .long, accessFlags := 26, slot := 5, constantValue := 0 }]
  methods := #[k3m0, k3m1]
  instanceTypes := #[.int, .long, .int, .int]
  staticTypes := #[.int, (.object "com/example/log_into_queues/logintoqueues/layout/KeyIndexFile$Entry"), .int, .int, .int, .long]
  resolved := Array.replicate 179 none
  statics := none }

def pool4 : Array CpInfo := pool [(1, u "java/lang/Cloneable"), (0, .class_ 1), (0, u "java/lang/Object"), (0, .class_ 3)] 3

/-- java/lang/Cloneable -/
def k4 : Class := { plain "java/lang/Cloneable" (some 0) with
  accessFlags := 1537
  interfaces := #[]
  cf := some (fileOf pool4 2 #[] #[] 1537 4 #[] #[])
  fields := #[]
  methods := #[]
  instanceTypes := #[]
  staticTypes := #[]
  resolved := Array.replicate 8 none
  statics := none }

def pool5 : Array CpInfo := pool [(1, u "java/io/Serializable"), (0, .class_ 1), (0, u "java/lang/Object"), (0, .class_ 3)] 3

/-- java/io/Serializable -/
def k5 : Class := { plain "java/io/Serializable" (some 0) with
  accessFlags := 1537
  interfaces := #[]
  cf := some (fileOf pool5 2 #[] #[] 1537 4 #[] #[])
  fields := #[]
  methods := #[]
  instanceTypes := #[]
  staticTypes := #[]
  resolved := Array.replicate 8 none
  statics := none }

/-- the primitive byte -/
def k6 : Class := { plain "byte" none with kind := .primitive 'B', accessFlags := 0x411 }
/-- [B -/
def k7 : Class := { plain "[B" (some 0) with kind := .array 6 .byte, interfaces := #[4, 5], accessFlags := 1041 }

/-- the primitive int -/
def k8 : Class := { plain "int" none with kind := .primitive 'I', accessFlags := 0x411 }
/-- [I -/
def k9 : Class := { plain "[I" (some 0) with kind := .array 8 .int, interfaces := #[4, 5], accessFlags := 1041 }

def heap : Heap := #[]
def classes : Array Class := #[k0, k1, k2, k3, k4, k5, k6, k7, k8, k9]
def interned : List (Array UInt16 × Addr) := []
def slotsUsed : Nat := 0
def theMethod : MethodId := ⟨1, 1⟩
def args0 : Array Value := #[.int 100, .long 7, .int 9, .int 77, .int 5]
def aboutOver (below : List Frame) : State where
  vm := { classes := classes, interned := interned.toArray }
  heap := heap
  slotsUsed := slotsUsed
  threads := #[{ frames := .invoking theMethod args0 :: below }]
def below0 : List Frame := [.native { method := ⟨0, 0⟩, args := #[] }]
def about1 : State := aboutOver below0
def p0 : Program := .bare "" "" ""
def e0 : Env := launch0.env 0 0 0
theorem w_frames : about1.frames = Frame.invoking theMethod args0 :: below0 := rfl
set_option maxRecDepth 65536 in
theorem w_args : argsFit about1.vm theMethod args0 = true := by decide +kernel
set_option maxRecDepth 65536 in
theorem w_heap : heapFits about1 = true := by decide +kernel
set_option maxRecDepth 65536 in
theorem w_runnable : about1.curStatus? = some .runnable := by decide +kernel
set_option maxRecDepth 65536 in
theorem w_alone : about1.alone = true := by decide +kernel
set_option maxRecDepth 65536 in
theorem w_named : about1.methodNamed? x = some theMethod := by decide +kernel
set_option maxRecDepth 65536 in
theorem w_hears : about1.hears theMethod below0 = true := by decide +kernel
set_option maxRecDepth 65536 in
theorem w_ripe : about1.ripe theMethod args0 below0 = true := by decide +kernel
theorem w_running : about1.status = .running := rfl
set_option maxRecDepth 65536 in
theorem w_room : about1.hasRoom e0.platform room_1 = true :=
  launch0.hasRoom_least _ room_1 (by decide +kernel) (by decide +kernel) (by decide +kernel) (by decide +kernel) (by decide +kernel) (by decide +kernel)
theorem allAtoms_all (ts : List Jvm.Cond) (a : Array Jvm.Value) (st : Jvm.State) : (allAtoms ts).before a st = ts.all (fun c => c.before a st) := by
  induction ts with
  | nil => rfl
  | cons c t ih =>
    show (Jvm.Cond.and c (allAtoms t)).before a st = _
    rw [Jvm.Cond.before_and, ih, List.all_cons]
def words1 : List Jvm.Cond := Jvm.Cond.code x code maxLocals ret :: tables_1
/-- a 'code' word, met by the world's own term for the bytes: nothing is compared byte by byte -/
theorem code_word {y : MethodName} {bytes : ByteArray} {mx : Nat} {rt : Option FieldType} {a : Array Value} {s : State} {m : MethodId} {meth : Method} {c : Code} (h1 : s.methodNamed? y = some m) (h2 : s.vm.method? m = some meth) (h3 : meth.code = some c) (h4 : c.code = bytes)
    (h5 : (c.maxLocals == mx && c.exceptionTable.isEmpty && decide (c.maxStack ≤ mostOperands) && decide (meth.sig.returnType = rt) && !meth.locks && decide (parseMethodDescriptor y.desc = some meth.sig)) = true) : (Jvm.Cond.code y bytes mx rt).before a s = true := by
  simp only [Bool.and_eq_true, beq_iff_eq, Bool.not_eq_true', decide_eq_true_eq] at h5
  obtain ⟨⟨⟨⟨⟨g1, g2⟩, g3⟩, g4⟩, g5⟩, g6⟩ := h5
  simp [Cond.before, Cond.holds, Cond.value, h1, h2, h3, h4, g1, g2, g3, g4, g5, g6]
def isCode : Jvm.Cond → Bool
  | .code _ _ _ _ => true
  | _ => false
theorem all_split {L : List Jvm.Cond} {P : Jvm.Cond → Bool} (h1 : L.all (fun c => isCode c || P c) = true) (h2 : ∀ c ∈ L.filter isCode, P c = true) : L.all P = true := by
  refine List.all_eq_true.mpr fun c hc => ?_
  have h := List.all_eq_true.mp h1 c hc
  rcases Bool.eq_false_or_eq_true (isCode c) with hi | hi
  · exact h2 c (List.mem_filter.mpr ⟨hc, hi⟩)
  · simpa [hi] using h
set_option maxRecDepth 65536 in
theorem w_c0 : (Jvm.Cond.code x code maxLocals ret).before args0 about1 = true := code_word (m := ⟨1, 1⟩) (meth := k1m1) (c := k1c1) (by decide +kernel) rfl rfl rfl (by decide +kernel)
set_option maxRecDepth 65536 in
theorem w_c1 : (Jvm.Cond.code ({ cls := "com/example/log_into_queues/logintoqueues/layout/KeyIndexFile$Entry", name := "<init>", desc := "(IJII)V" } : Jvm.MethodName) prog_63_method_1_code (6 : Nat) (Option.none : Option Jvm.ClassFile.FieldType)).before args0 about1 = true := code_word (m := ⟨3, 0⟩) (meth := k3m0) (c := k3c0) (by decide +kernel) rfl rfl rfl (by decide +kernel)
set_option maxRecDepth 65536 in
theorem w_c2 : (Jvm.Cond.code ({ cls := "java/lang/Record", name := "<init>", desc := "()V" } : Jvm.MethodName) jdk_30_method_1_code (1 : Nat) (Option.none : Option Jvm.ClassFile.FieldType)).before args0 about1 = true := code_word (m := ⟨2, 0⟩) (meth := k2m0) (c := k2c0) (by decide +kernel) rfl rfl rfl (by decide +kernel)
set_option maxRecDepth 65536 in
theorem w_c3 : (Jvm.Cond.code ({ cls := "java/lang/Object", name := "<init>", desc := "()V" } : Jvm.MethodName) object_method_1_code (1 : Nat) (Option.none : Option Jvm.ClassFile.FieldType)).before args0 about1 = true := code_word (m := ⟨0, 0⟩) (meth := k0m0) (c := k0c0) (by decide +kernel) rfl rfl rfl (by decide +kernel)
set_option maxRecDepth 65536 in
theorem w_c4 : (Jvm.Cond.code ({ cls := "com/example/log_into_queues/logintoqueues/layout/KeyIndexFile$Entry", name := "mayHaveLostLogOffsetBytes", desc := "()Z" } : Jvm.MethodName) prog_63_method_7_code (1 : Nat) (Option.some Jvm.ClassFile.FieldType.boolean)).before args0 about1 = true := code_word (m := ⟨3, 1⟩) (meth := k3m1) (c := k3c1) (by decide +kernel) rfl rfl rfl (by decide +kernel)
def codes1 : List Jvm.Cond := [Jvm.Cond.code x code maxLocals ret, Jvm.Cond.code ({ cls := "com/example/log_into_queues/logintoqueues/layout/KeyIndexFile$Entry", name := "<init>", desc := "(IJII)V" } : Jvm.MethodName) prog_63_method_1_code (6 : Nat) (Option.none : Option Jvm.ClassFile.FieldType), Jvm.Cond.code ({ cls := "java/lang/Record", name := "<init>", desc := "()V" } : Jvm.MethodName) jdk_30_method_1_code (1 : Nat) (Option.none : Option Jvm.ClassFile.FieldType), Jvm.Cond.code ({ cls := "java/lang/Object", name := "<init>", desc := "()V" } : Jvm.MethodName) object_method_1_code (1 : Nat) (Option.none : Option Jvm.ClassFile.FieldType), Jvm.Cond.code ({ cls := "com/example/log_into_queues/logintoqueues/layout/KeyIndexFile$Entry", name := "mayHaveLostLogOffsetBytes", desc := "()Z" } : Jvm.MethodName) prog_63_method_7_code (1 : Nat) (Option.some Jvm.ClassFile.FieldType.boolean)]
set_option maxRecDepth 65536 in
theorem codes_eq : words1.filter isCode = codes1 := rfl
theorem w_codes : ∀ c ∈ words1.filter isCode, c.before args0 about1 = true := by
  rw [codes_eq]
  intro c hc
  simp only [codes1, List.mem_cons, List.not_mem_nil, or_false] at hc
  rcases hc with rfl | rfl | rfl | rfl | rfl
  · exact w_c0
  · exact w_c1
  · exact w_c2
  · exact w_c3
  · exact w_c4
set_option maxRecDepth 65536 in
theorem w_t1 : (words1.take 24).all (fun c => isCode c || c.before args0 about1) = true := by decide +kernel
set_option maxRecDepth 65536 in
theorem w_t2 : (words1.drop 24).all (fun c => isCode c || c.before args0 about1) = true := by decide +kernel
theorem w_tables : (allAtoms (Jvm.Cond.code x code maxLocals ret :: tables_1)).before args0 about1 = true := by
  rw [allAtoms_all]
  show words1.all (fun c => c.before args0 about1) = true
  refine all_split ?_ w_codes
  rw [← List.take_append_drop 24 words1, List.all_append, w_t1, w_t2]
  rfl
set_option maxRecDepth 65536 in
theorem w_case : (Jvm.Cond.and given_1 narrow_1).before args0 about1 = true := by decide +kernel
theorem w_applies : (headSpec (Jvm.Cond.code x code maxLocals ret :: tables_1) room_1).applies x e0.platform about1 = true :=
  (Spec.applies_iff w_frames).mpr ⟨w_running, w_runnable, w_alone, w_named, w_hears, w_ripe, w_room, w_tables⟩
theorem atStart : AtStart classFile x code maxLocals ret World_1 tables_1 room_1 Calls_1 rest_1 Pre_1 launch0 p0 e0 about1 theMethod args0 below0 :=
  ⟨lists_1, trivial, launch0.admits_env _ _ _, launch0.least_env, fairChoices_fair.cas, fairChoices_fair.clock, w_frames, w_args, w_heap, w_applies, trivial, trivial, w_case⟩
end start1
theorem witness_1 : WitnessClaimed_1 := ⟨start1.p0, start1.e0, start1.about1, start1.theMethod, start1.args0, start1.below0, start1.atStart⟩
end Jvm.Pilot.@@N@@
