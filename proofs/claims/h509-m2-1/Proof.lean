import JvmDerived
import JvmDerived.Pilot.@@N@@Statement
import JvmDerived.Pilot.@@N@@Code
set_option linter.unusedVariables false
set_option linter.unusedSimpArgs false
namespace Jvm.Pilot.@@N@@
open Jvm Jvm.ClassFile Sem Op Lib Jvm.Free Jvm.Stand Jvm.LawKit Jvm.RoadKit Bundle Jvm.Pilot.@@N@@.Jvm.D
section Own
variable {p : Program} {l : Launch} {e : Env} {R : Room} {s : State} {m : MethodId} {args : Array Value} {below : List Frame} {meth : Method} {c : Code} {T : State} {locs : List Loc} {cells slots : Nat} {Z : State} {a0 : Array Value} {h h' : Heap} {Q : Option Value → Heap → List Loc → Prop} {k n : Nat}
/-- from U the walk comes to a return of which Q holds -/
def Goes (p : Program) (e : Env) (below : List Frame) (s : State) (Q : Option Value → Heap → List Loc → Prop) (k n : Nat) (U : State) : Prop :=
  ∃ s₂ o, Steps p.tables e below U s₂ ∧ s₂.status = .running ∧ Ended s₂ below o ∧ ∃ v L, o = .returned v ∧ Q v s₂.heap L ∧ FrameEnd s o s₂ L k n
theorem Goes.go {U U' : State} (h : ∀ t, Steps p.tables e below U' t → Steps p.tables e below U t) (r : Goes p e below s Q k n U') : Goes p e below s Q k n U := by
  obtain ⟨s₂, o, h1, r⟩ := r
  exact ⟨s₂, o, h _ h1, r⟩
theorem Goes.outI (X : Stand p l e R s m args below meth c T locs cells slots) (hx : p.tables.exec = Jvm.exec) (hlk : meth.locks = false) (hret : meth.sig.returnType = some .int) {pc : Nat} {Ls : Array Slot} {z : Int32} (hd : decode c.code pc = .ok (.ireturn, 1)) (eT : T.heap = h) (hq : Q (some (.int z)) h locs) (hk : cells ≤ k) (hn : slots ≤ n) :
    Goes p e below s Q k n (T.setTop (mkF m pc Ls [.int z])) := by
  obtain ⟨fs, hr, hrun, hended, hW, hsame⟩ := X.leave (v := some (.int z)) (fun h => by rw [hret] at h; cases h) hlk
  refine ⟨_, _, X.ireturnOut hx hret rfl (Or.inl rfl) hd hr, hrun, hended, _, _, rfl, ?_, ⟨_, rfl⟩, hW, hsame.mono hk hn⟩
  show Q _ T.heap _
  rw [eT]; exact hq
theorem Goes.outZ (X : Stand p l e R s m args below meth c T locs cells slots) (hx : p.tables.exec = Jvm.exec) (hlk : meth.locks = false) (hret : meth.sig.returnType = some .boolean) {pc : Nat} {Ls : Array Slot} {z : Int32} (hz : narrow .boolean (.int z) = .int z) (hd : decode c.code pc = .ok (.ireturn, 1)) (eT : T.heap = h) (hq : Q (some (.int z)) h locs) (hk : cells ≤ k) (hn : slots ≤ n) :
    Goes p e below s Q k n (T.setTop (mkF m pc Ls [.int z])) := by
  obtain ⟨fs, hr, hrun, hended, hW, hsame⟩ := X.leave (v := some (.int z)) (fun h => by rw [hret] at h; cases h) hlk
  refine ⟨_, _, X.ireturnOut hx hret hz (Or.inr (Or.inl rfl)) hd hr, hrun, hended, _, _, rfl, ?_, ⟨_, rfl⟩, hW, hsame.mono hk hn⟩
  show Q _ T.heap _
  rw [eT]; exact hq
theorem Goes.outJ (X : Stand p l e R s m args below meth c T locs cells slots) (hx : p.tables.exec = Jvm.exec) (hlk : meth.locks = false) (hret : meth.sig.returnType = some .long) {pc : Nat} {Ls : Array Slot} {z : Int64} (hd : decode c.code pc = .ok (.lreturn, 1)) (eT : T.heap = h) (hq : Q (some (.long z)) h locs) (hk : cells ≤ k) (hn : slots ≤ n) :
    Goes p e below s Q k n (T.setTop (mkF m pc Ls [.long z])) := by
  obtain ⟨fs, hr, hrun, hended, hW, hsame⟩ := X.leave (v := some (.long z)) (fun h => by rw [hret] at h; cases h) hlk
  refine ⟨_, _, X.lreturnOut hx hret hd hr, hrun, hended, _, _, rfl, ?_, ⟨_, rfl⟩, hW, hsame.mono hk hn⟩
  show Q _ T.heap _
  rw [eT]; exact hq
theorem Goes.outA (X : Stand p l e R s m args below meth c T locs cells slots) (hx : p.tables.exec = Jvm.exec) (hlk : meth.locks = false) {t : FieldType} (hret : meth.sig.returnType = some t) (ht : t.isReference = true) {pc : Nat} {Ls : Array Slot} {w : Value} (hw : w.isRef = true) (hd : decode c.code pc = .ok (.areturn, 1)) (eT : T.heap = h) (hq : Q (some w) h locs) (hk : cells ≤ k) (hn : slots ≤ n) :
    Goes p e below s Q k n (T.setTop (mkF m pc Ls [w])) := by
  obtain ⟨fs, hr, hrun, hended, hW, hsame⟩ := X.leave (v := some w) (fun h => by rw [hret] at h; cases h) hlk
  refine ⟨_, _, X.areturnOut hx hw hret ht hd hr, hrun, hended, _, _, rfl, ?_, ⟨_, rfl⟩, hW, hsame.mono hk hn⟩
  show Q _ T.heap _
  rw [eT]; exact hq
theorem Goes.outV (X : Stand p l e R s m args below meth c T locs cells slots) (hx : p.tables.exec = Jvm.exec) (hlk : meth.locks = false) (hret : meth.sig.returnType = none) {pc : Nat} {Ls : Array Slot} (hd : decode c.code pc = .ok (.return_, 1)) (eT : T.heap = h) (hq : Q none h locs) (hk : cells ≤ k) (hn : slots ≤ n) :
    Goes p e below s Q k n (T.setTop (mkF m pc Ls [])) := by
  obtain ⟨fs, hr, hrun, hended, hW, hsame⟩ := X.leave (v := none) (fun _ => rfl) hlk
  refine ⟨_, _, X.returnOut hx hret hd hr, hrun, hended, _, _, rfl, ?_, ⟨_, rfl⟩, hW, hsame.mono hk hn⟩
  show Q _ T.heap _
  rw [eT]; exact hq
/-- an array, by the list of what it holds -/
def Arl (Z : State) (h : Heap) (a : Addr) (ty : FieldType) (vs : List Value) : Prop := ∃ c : Cell, Arr Z h a c ty ∧ c.slots.toList = vs
section Arls
variable {a b : Addr} {ty : FieldType} {vs : List Value} {v : Value} {sl : Nat} {ws : List Addr} {j : Int32}
theorem Arl.lt (F : Arl Z h a ty vs) : a < h.size := by obtain ⟨c, A, -⟩ := F; exact A.lt
theorem Arl.ext (F : Arl Z h a ty vs) (E : Ext h h') : Arl Z h' a ty vs := by obtain ⟨c, A, r⟩ := F; exact ⟨c, A.ext E, r⟩
theorem Arl.other (F : Arl Z h b ty vs) (W : Wr h h' a sl v) (q : b ≠ a) : Arl Z h' b ty vs := by obtain ⟨c, A, r⟩ := F; exact ⟨c, A.other W q, r⟩
theorem Arl.keep (F : Arl Z h a ty vs) (K : Keep h h' ws) (q : a ∉ ws) : Arl Z h' a ty vs := by obtain ⟨c, A, r⟩ := F; exact ⟨c, ⟨K.2.1 a c A.1 q, A.2⟩, r⟩
theorem Arl.set (F : Arl Z h a ty vs) (W : Wr h h' a sl v) : Arl Z h' a ty (vs.set sl v) := by
  obtain ⟨c, A, r⟩ := F
  refine ⟨_, A.same W, ?_⟩
  subst r
  simp [Cell.setSlot]
theorem Arl.eq {vs' : List Value} (F : Arl Z h a ty vs) (e : vs = vs') : Arl Z h a ty vs' := e ▸ F
theorem own_in {c : Cell} (r : c.slots.toList = vs) (h0 : ¬ j < 0) (h1 : j.toNatClampNeg < vs.length) : ¬ (j < 0 ∨ c.slots.size ≤ j.toNatClampNeg) := by
  subst r
  intro q
  rcases q with q | q
  · exact h0 q
  · rw [Array.length_toList] at h1; omega
theorem own_lt (hv : vs[sl]? = some v) : sl < vs.length := (List.getElem?_eq_some_iff.mp hv).1
end Arls
theorem own_ati {xs : List Int32} {j : Nat} {w : Int32} (h : xs[j]? = some w) : (xs.map Value.int)[j]? = some (.int w) := by
  rw [List.getElem?_map, h]; rfl
theorem own_lni {xs : List Int32} {j k : Nat} (hl : xs.length = k) (h : j < k) : j < (xs.map Value.int).length := by
  rw [List.length_map, hl]; exact h
theorem own_sti {a : Addr} {xs : List Int32} {j : Nat} {w : Int32} (A : Arl Z h a .int ((xs.map Value.int).set j (.int w))) : Arl Z h a .int ((xs.set j w).map Value.int) := A.eq List.map_set.symm
theorem own_selP {C : String} {y y' : MethodName} (hs : (Cond.selects C y' y').before args s = true) (hcls : y'.cls = y.cls) (hpriv : s.PrivateAt y) (hinst : (Cond.instanceMethod y).before args s = true) (hy : y.cls ≠ "java/lang/invoke/MethodHandle" ∧ y.cls ≠ "java/lang/invoke/VarHandle") : (Cond.selects y.cls y y).before args s = true := by
  obtain ⟨c2, r2, m2, -, -, q3, -, kP, hkP, hkPi⟩ := Cond.selects_spec hs
  have hc : s.vm.findClass y.cls = some m2.cls := hcls ▸ findClass_of_methodNamed q3
  exact selects_self_of_private hc hkP hkPi hpriv hinst hy
theorem own_neA {a b : Addr} {C : String} {k : Nat} {ty : FieldType} {vs : List Value} (F : Exa Z h a C) (wi : (Cond.instantiable C k).before a0 Z = true) (G : Arl Z h b ty vs) : a ≠ b := by
  obtain ⟨c', A', -⟩ := G
  exact ne_arr F wi A'
theorem own_newP (X : Stand p l e R s m args below meth c T locs cells slots) (hx : p.tables.exec = Jvm.exec) (hZ : Z.Warmed39 s.vm) {aty : ArrayType} (w : (Cond.arrayClass (newarray.typeOf aty)).before a0 Z = true) (eT : T.heap = h) {g : JFrame} (hg : g.method = m) (hd : decode c.code g.pc = .ok (.newarray aty, 2)) {n : Int32} {rest : List Value} (hs : g.stack = .int n :: rest)
    (hn : ¬ n < 0) {cap : Nat} (hcap : n.toNatClampNeg ≤ cap) (hb : cap * 8 ≤ 536870912) (hc : cells + 1 ≤ R.cells) (hl : slots + cap ≤ R.slots) :
    ∃ T' h', Stand p l e R s m args below meth c T' locs (cells + 1) (slots + cap) ∧ T'.heap = h' ∧ Ext h h' ∧ Arl Z h' h.size (newarray.typeOf aty) (List.replicate n.toNatClampNeg (defaultValue (newarray.typeOf aty))) ∧
      ∀ target, Steps p.tables e below (T'.setTop { g with pc := g.pc + 2, stack := .ref h.size :: rest }) target → Steps p.tables e below (T.setTop g) target := by
  obtain ⟨T', h', cA, X', e', E', A', st⟩ := newP X hx hZ w eT hg hd hs hn hcap hb hc hl
  exact ⟨T', h', X', e', E', ⟨_, A', by simp [newA]⟩, st⟩
theorem own_stB (X : Stand p l e R s m args below meth c T locs cells slots) (hx : p.tables.exec = Jvm.exec) (hZ : Z.Warmed39 s.vm) (eT : T.heap = h) {a : Addr} {vs : List Value} (A : Arl Z h a .byte vs) {j x : Int32} (hj : ¬ j < 0) (hj' : j.toNatClampNeg < vs.length) {g : JFrame} (hg : g.method = m) {rest : List Value} (hs : g.stack = .int x :: .int j :: .ref a :: rest) (hd : decode c.code g.pc = .ok (.bastore, 1)) :
    ∃ T' h', Stand p l e R s m args below meth c T' (locs ++ [⟨a, j.toNatClampNeg⟩]) cells slots ∧ T'.heap = h' ∧ Wr h h' a j.toNatClampNeg (.int x.toInt8.toInt32) ∧ Arl Z h' a .byte (vs.set j.toNatClampNeg (.int x.toInt8.toInt32)) ∧ ∀ target, Steps p.tables e below (T'.setTop { g with pc := g.pc + 1, stack := rest }) target → Steps p.tables e below (T.setTop g) target := by
  obtain ⟨c', A', r⟩ := A
  obtain ⟨T', h', X', e', W, st⟩ := stB X hx hZ eT A' (own_in r hj hj') hg hs hd
  exact ⟨T', h', X', e', W, Arl.set ⟨c', A', r⟩ W, st⟩
theorem own_stI (X : Stand p l e R s m args below meth c T locs cells slots) (hx : p.tables.exec = Jvm.exec) (hZ : Z.Warmed39 s.vm) (eT : T.heap = h) {a : Addr} {vs : List Value} (A : Arl Z h a .int vs) {j x : Int32} (hj : ¬ j < 0) (hj' : j.toNatClampNeg < vs.length) {g : JFrame} (hg : g.method = m) {rest : List Value} (hs : g.stack = .int x :: .int j :: .ref a :: rest) (hd : decode c.code g.pc = .ok (.iastore, 1)) :
    ∃ T' h', Stand p l e R s m args below meth c T' (locs ++ [⟨a, j.toNatClampNeg⟩]) cells slots ∧ T'.heap = h' ∧ Wr h h' a j.toNatClampNeg (.int x) ∧ Arl Z h' a .int (vs.set j.toNatClampNeg (.int x)) ∧ ∀ target, Steps p.tables e below (T'.setTop { g with pc := g.pc + 1, stack := rest }) target → Steps p.tables e below (T.setTop g) target := by
  obtain ⟨c', A', r⟩ := A
  obtain ⟨T', h', X', e', W, st⟩ := stI X hx hZ eT A' (own_in r hj hj') hg hs hd
  exact ⟨T', h', X', e', W, Arl.set ⟨c', A', r⟩ W, st⟩
theorem own_stJ (X : Stand p l e R s m args below meth c T locs cells slots) (hx : p.tables.exec = Jvm.exec) (hZ : Z.Warmed39 s.vm) (eT : T.heap = h) {a : Addr} {vs : List Value} (A : Arl Z h a .long vs) {j : Int32} {x : Int64} (hj : ¬ j < 0) (hj' : j.toNatClampNeg < vs.length) {g : JFrame} (hg : g.method = m) {rest : List Value} (hs : g.stack = .long x :: .int j :: .ref a :: rest) (hd : decode c.code g.pc = .ok (.lastore, 1)) :
    ∃ T' h', Stand p l e R s m args below meth c T' (locs ++ [⟨a, j.toNatClampNeg⟩]) cells slots ∧ T'.heap = h' ∧ Wr h h' a j.toNatClampNeg (.long x) ∧ Arl Z h' a .long (vs.set j.toNatClampNeg (.long x)) ∧ ∀ target, Steps p.tables e below (T'.setTop { g with pc := g.pc + 1, stack := rest }) target → Steps p.tables e below (T.setTop g) target := by
  obtain ⟨c', A', r⟩ := A
  obtain ⟨T', h', X', e', W, st⟩ := stJ X hx hZ eT A' (own_in r hj hj') hg hs hd
  exact ⟨T', h', X', e', W, Arl.set ⟨c', A', r⟩ W, st⟩
theorem own_at {a : Addr} {c' : Cell} {vs : List Value} {v : Value} {j : Int32} (r : c'.slots.toList = vs) (hv : vs[j.toNatClampNeg]? = some v) : c'.slots[j.toNatClampNeg]? = some v := by
  subst r; simpa using hv
theorem own_ldB (X : Stand p l e R s m args below meth c T locs cells slots) (hx : p.tables.exec = Jvm.exec) (hZ : Z.Warmed39 s.vm) (eT : T.heap = h) {a : Addr} {vs : List Value} {v : Value} (A : Arl Z h a .byte vs) {j : Int32} (hj : ¬ j < 0) (hv : vs[j.toNatClampNeg]? = some v) {g : JFrame} (hg : g.method = m) {rest : List Value} (hs : g.stack = .int j :: .ref a :: rest) (hd : decode c.code g.pc = .ok (.baload, 1)) :
    ∀ target, Steps p.tables e below (T.setTop { g with pc := g.pc + 1, stack := v :: rest }) target → Steps p.tables e below (T.setTop g) target := by
  obtain ⟨c', A', r⟩ := A
  exact fun t k => X.baloadBytes hx (by rw [eT]; exact A'.1) (State.isArrayOf_alike hZ.alike A'.2.1) A'.2.2 (own_in r hj (own_lt hv)) (own_at (a := a) r hv) hg hs hd t k
theorem own_ldI (X : Stand p l e R s m args below meth c T locs cells slots) (hx : p.tables.exec = Jvm.exec) (hZ : Z.Warmed39 s.vm) (eT : T.heap = h) {a : Addr} {vs : List Value} {v : Value} (A : Arl Z h a .int vs) {j : Int32} (hj : ¬ j < 0) (hv : vs[j.toNatClampNeg]? = some v) {g : JFrame} (hg : g.method = m) {rest : List Value} (hs : g.stack = .int j :: .ref a :: rest) (hd : decode c.code g.pc = .ok (.iaload, 1)) :
    ∀ target, Steps p.tables e below (T.setTop { g with pc := g.pc + 1, stack := v :: rest }) target → Steps p.tables e below (T.setTop g) target := by
  obtain ⟨c', A', r⟩ := A
  exact fun t k => X.iaload hx (by rw [eT]; exact A'.1) (State.isArrayOf_alike hZ.alike A'.2.1) A'.2.2 (own_in r hj (own_lt hv)) (own_at (a := a) r hv) hg hs hd t k
theorem own_ldJ (X : Stand p l e R s m args below meth c T locs cells slots) (hx : p.tables.exec = Jvm.exec) (hZ : Z.Warmed39 s.vm) (eT : T.heap = h) {a : Addr} {vs : List Value} {v : Value} (A : Arl Z h a .long vs) {j : Int32} (hj : ¬ j < 0) (hv : vs[j.toNatClampNeg]? = some v) {g : JFrame} (hg : g.method = m) {rest : List Value} (hs : g.stack = .int j :: .ref a :: rest) (hd : decode c.code g.pc = .ok (.laload, 1)) :
    ∀ target, Steps p.tables e below (T.setTop { g with pc := g.pc + 1, stack := v :: rest }) target → Steps p.tables e below (T.setTop g) target := by
  obtain ⟨c', A', r⟩ := A
  exact fun t k => X.laload hx (by rw [eT]; exact A'.1) (State.isArrayOf_alike hZ.alike A'.2.1) A'.2.2 (own_in r hj (own_lt hv)) (own_at (a := a) r hv) hg hs hd t k
theorem own_len (X : Stand p l e R s m args below meth c T locs cells slots) (hx : p.tables.exec = Jvm.exec) (hZ : Z.Warmed39 s.vm) (eT : T.heap = h) {a : Addr} {ty : FieldType} {vs : List Value} (A : Arl Z h a ty vs) {n : Int32} (hn : vs.length.toInt32 = n) {g : JFrame} (hg : g.method = m) {rest : List Value} (hs : g.stack = .ref a :: rest) (hd : decode c.code g.pc = .ok (.arraylength, 1)) :
    ∀ target, Steps p.tables e below (T.setTop { g with pc := g.pc + 1, stack := .int n :: rest }) target → Steps p.tables e below (T.setTop g) target := by
  obtain ⟨c', A', r⟩ := A
  have q : c'.slots.size.toInt32 = n := by rw [← hn, ← r, Array.length_toList]
  exact fun t k => X.arraylength hx (ty := ty) (by rw [eT]; exact A'.1) (State.isArrayOf_alike hZ.alike A'.2.1) hg hs hd t (q.symm ▸ k)
end Own
section Sync
variable {p : Program} {l : Launch} {e : Env} {R : Room} {s : State} {m : MethodId} {args : Array Value} {below : List Frame} {meth : Method} {c : Code} {T : State} {locs : List Loc} {cells slots : Nat} {Z : State} {a0 : Array Value} {h h' : Heap} {Q : Option Value → Heap → List Loc → Prop} {k n : Nat}
theorem own_keepM {a : Addr} {cl : Cell} (hc : h[a]? = some cl) (mo : Monitor) : Keep h (h.setIfInBounds a { cl with monitor := mo }) [a] := by
  refine ⟨by simp, fun x c' q r => ?_, fun x c' q => ?_⟩
  · rw [Array.getElem?_setIfInBounds_ne (fun z => r (by rw [z]; exact List.mem_singleton.mpr rfl))]; exact q
  · by_cases z : a = x
    · subst z; cases hc.symm.trans q; exact ⟨{ cl with monitor := mo }, by simp [(Array.getElem?_eq_some_iff.mp hc).1], rfl, rfl, rfl⟩
    · exact ⟨c', by rw [Array.getElem?_setIfInBounds_ne z]; exact q, rfl, rfl, rfl⟩
theorem Arl.mon {a : Addr} {ty : FieldType} {vs : List Value} (F : Arl Z h a ty vs) (W : Mon h h') : Arl Z h' a ty vs := by
  obtain ⟨c', A, r⟩ := F
  obtain ⟨mo, q⟩ := W.2 _ _ A.1
  exact ⟨_, ⟨q, A.2⟩, r⟩
/-- the end of a synchronized body -/
theorem own_leaveS {a : Addr} {cell : Cell} (X : Stand p l e R (s.setCell a (cell.withEntry s.cur)) m args below meth c T locs cells slots) (hc : s.heap[a]? = some cell) (ho : cell.enterable s.cur) (hl : meth.locks = true)
    {v : Option Value} (hv : meth.sig.returnType = none → v = none) : ∃ V : State, (∀ (f : JFrame) (acts : List Action), f.method = m → f.locked = some a → f.entered = [] → (doReturn e (T.setTop f) acts v).1 = V) ∧ V.status = .running ∧ Ended V below (.returned v) ∧ Mon T.heap V.heap ∧ Keep T.heap V.heap [a] ∧ (∃ c1 : Cell, V.heap[a]? = some c1 ∧ c1.monitor = cell.monitor ∧ c1.vm = cell.vm) ∧ s.WarmedH V.vm ∧ s.sameButNew { V with vm := s.vm } locs cells slots := by
  obtain ⟨fs, cT, hcT, hr, hrun, hend, h1, h2⟩ := X.leaveSync hc ho hl hv
  refine ⟨_, hr, hrun, hend, ?_, ?_, ?_, h1, h2⟩
  · show Mon T.heap (T.heap.setIfInBounds a cT.left)
    unfold Cell.left
    split <;> exact mon_set hcT _
  · show Keep T.heap (T.heap.setIfInBounds a cT.left) [a]
    unfold Cell.left
    split <;> exact own_keepM hcT _
  · obtain ⟨c', x1, x2, x3⟩ := h2.2.2.2.2.2 a cell hc
    exact ⟨c', x1, by rw [x2], by rw [x2]⟩
theorem own_untS {a : Addr} {cell : Cell} (hc : h[a]? = some cell) (N : Unt h a) (q : ∃ c1 : Cell, h'[a]? = some c1 ∧ c1.monitor = cell.monitor ∧ c1.vm = cell.vm) : Unt h' a := by
  obtain ⟨c0, u1, u2, u3⟩ := N
  cases hc.symm.trans u1
  obtain ⟨c1, q1, q2, q3⟩ := q
  exact ⟨c1, q1, q3.trans u2, q2.trans u3⟩
/-- an object that stood at the start: its marks are as they were -/
theorem own_untX (X : Stand p l e R s m args below meth c T locs cells slots) {a : Addr} (N : Unt s.heap a) : Unt T.heap a := by
  obtain ⟨c0, u1, u2, u3⟩ := N
  obtain ⟨c1, q1, q2, -⟩ := X.cellAt u1
  exact ⟨c1, q1, by rw [q2]; exact u2, by rw [q2]; exact u3⟩
theorem Goes.outVL {a : Addr} {cell : Cell} (X : Stand p l e R (s.setCell a (cell.withEntry s.cur)) m args below meth c T locs cells slots) (hx : p.tables.exec = Jvm.exec) (hc : s.heap[a]? = some cell) (ho : cell.enterable s.cur) (hl : meth.locks = true) (hret : meth.sig.returnType = none) {pc : Nat} {Ls : Array Slot} (hd : decode c.code pc = .ok (.return_, 1)) (eT : T.heap = h)
    (hq : ∀ h', Mon h h' → Keep h h' [a] → (∃ c1 : Cell, h'[a]? = some c1 ∧ c1.monitor = cell.monitor ∧ c1.vm = cell.vm) → Q none h' locs) (hk : cells ≤ k) (hn : slots ≤ n) :
    Goes p e below s Q k n (T.setTop (mkL a m pc Ls [])) := by
  obtain ⟨V, hr, hrun, hended, M, K, U, hW, hsame⟩ := own_leaveS X hc ho hl (v := none) (fun _ => rfl)
  rw [eT] at M K
  exact ⟨_, _, retS0 X hx hret hd hr, hrun, hended, _, _, rfl, hq _ M K U, ⟨_, rfl⟩, hW, hsame.mono hk hn⟩
theorem Goes.outAL {a : Addr} {cell : Cell} (X : Stand p l e R (s.setCell a (cell.withEntry s.cur)) m args below meth c T locs cells slots) (hx : p.tables.exec = Jvm.exec) (hc : s.heap[a]? = some cell) (ho : cell.enterable s.cur) (hl : meth.locks = true) {t : FieldType} (hret : meth.sig.returnType = some (.array t)) {pc : Nat} {Ls : Array Slot} {w : Addr} (hd : decode c.code pc = .ok (.areturn, 1)) (eT : T.heap = h)
    (hq : ∀ h', Mon h h' → Keep h h' [a] → (∃ c1 : Cell, h'[a]? = some c1 ∧ c1.monitor = cell.monitor ∧ c1.vm = cell.vm) → Q (some (.ref w)) h' locs) (hk : cells ≤ k) (hn : slots ≤ n) :
    Goes p e below s Q k n (T.setTop (mkL a m pc Ls [.ref w])) := by
  obtain ⟨V, hr, hrun, hended, M, K, U, hW, hsame⟩ := own_leaveS X hc ho hl (v := some (.ref w)) (fun h => by rw [hret] at h; cases h)
  rw [eT] at M K
  exact ⟨_, _, retS X hx hret rfl (Or.inr (Or.inr (Or.inr (Or.inr ⟨rfl, rfl, rfl⟩)))) hd hr, hrun, hended, _, _, rfl, hq _ M K U, ⟨_, rfl⟩, hW, hsame.mono hk hn⟩
theorem own_backS {y : MethodName} {bytes : ByteArray} {maxL : Nat} {ret : Option FieldType} {rm : Room} {len W : Nat} {as' : Array Value} {a : Addr}
    (hM : MetFree l y (head1 [Jvm.Cond.codeSync y bytes maxL ret, Jvm.Cond.instanceMethod y] rm) (fun aa U => aa = as' ∧ Z.Warmed39 U.vm ∧ U.heap = h ∧ ∃ cell : Cell, h[a]? = some cell ∧ cell.enterable U.cur) (fun _ _ _ _ _ => True) (fun _ U o U' => ∃ v L, o = .returned v ∧ Q v U'.heap L ∧ FrameEnd U o U' L rm.cells rm.slots))
    (hZ : Z.Warmed39 s.vm) (wc : (Jvm.Cond.codeSync y bytes maxL ret).before a0 Z = true) (wi : (Jvm.Cond.instanceMethod y).before a0 Z = true) (wz : (Jvm.Cond.initialized y.cls).before a0 Z = true) (N : Unt h a) (hf : rm.frames + 1 ≤ R.frames) (hl : W + (maxL + 11) + rm.locals ≤ R.locals) :
    Back l R p e below s args y len W (fun A aa => aa = as' ∧ A.U.heap = h ∧ A.cells + rm.cells ≤ R.cells ∧ A.slots + rm.slots ≤ R.slots)
      (fun A _ v B => ∃ L, Q v B.U.heap L ∧ B.locs = A.locs ++ L ∧ B.cells = A.cells + rm.cells ∧ B.slots = A.slots + rm.slots) :=
  Jvm.Free.XT.back_of_sync (bytes := bytes) (maxL := maxL) (ret := ret) (E := fun _ _ o t L k n => k = rm.cells ∧ n = rm.slots ∧ ∃ v, o = .returned v ∧ Q v t.heap L) hM hf hl
    (fun m meth c A as Y hp => have hU : Z.Warmed39 A.U.vm := wtrans hZ Y.warmed
      ⟨by show (Jvm.Cond.and _ (Jvm.Cond.and _ .tt)).before as A.U = true; rw [Cond.before_and, Cond.before_and, mv hU wc, mv hU wi]; rfl, mv hU wc, mv hU wz, hp.2.2.1, hp.2.2.2⟩)
    (fun m meth c A as g mk Y hp => ⟨hp.1, wtrans hZ Y.warmed, hp.2.1, by obtain ⟨cl, u1, -, u3⟩ := N; exact ⟨cl, u1, by rw [Cell.enterable, u3]; simp⟩⟩)
    (fun _ _ _ _ _ _ _ _ _ => trivial)
    (fun _ _ _ _ ⟨v, L, h1, h2, h3⟩ => ⟨L, _, _, h3, rfl, rfl, v, h1, h2⟩)
    (fun m meth c A as g mk v t L k n Y hp _ _ ⟨e1, e2, v', e3, e4⟩ => by cases e3; subst e1 e2; exact ⟨L, e4, rfl, rfl, rfl⟩)
/-- bytes as an array holds them -/
def vB (xs : List Int8) : List Value := xs.map fun b => .int b.toInt32
theorem fit_Bv : ∀ b : BitVec 8, fits .byte (.int (Int8.ofBitVec b).toInt32) = true := by decide +kernel
theorem fit_B (b : Int8) : fits .byte (.int b.toInt32) = true := fit_Bv b.toBitVec
theorem vB_len (xs : List Int8) : (vB xs).length = xs.length := List.length_map ..
theorem vB_fit {xs : List Int8} {v : Value} (h : v ∈ vB xs) : fits .byte v = true := by
  obtain ⟨b, -, rfl⟩ := List.mem_map.mp h
  exact fit_B b
theorem vB_getD (xs : List Int8) (i : Nat) : fits .byte ((vB xs).getD i (.int 0)) = true := by
  rw [List.getD_eq_getElem?_getD]
  cases h : (vB xs)[i]? with
  | none => rfl
  | some v => exact vB_fit (List.mem_of_getElem? h)
theorem own_n32 {k : Nat} (h : k ≤ 64) : (k.toInt32).toNatClampNeg = k ∧ ¬ k.toInt32 < 0 := by
  have q : (k.toInt32).toInt = k := len_toInt (by omega)
  refine ⟨?_, ?_⟩
  · simp only [Int32.toNatClampNeg, q]; rfl
  · rw [Int32.lt_iff_toInt_lt, q]; have : (0 : Int32).toInt = 0 := rfl
    omega
theorem own_arv {a : Addr} {xs : List Int8} (A : Arl Z h a .byte (vB xs)) (hl : xs.length ≤ 64) : ∃ k, Arv Z h a k .byte xs.length.toInt32 (vB xs) (.int 0) := by
  obtain ⟨c', A', r⟩ := A
  have sz : c'.slots.size = xs.length := by rw [← Array.length_toList, r, vB_len]
  refine ⟨c'.cls, c', A', rfl, by rw [sz, (own_n32 hl).1], (own_n32 hl).2, fun i hi => ?_, fun i _ => vB_getD xs i⟩
  rw [← Array.getElem?_toList, r, List.getD_eq_getElem?_getD]
  have : i < (vB xs).length := by rw [vB_len]; omega
  rw [List.getElem?_eq_getElem this]; rfl
theorem own_arl {a : Addr} {k : ClassId} {z : Int32} {d : Value} {xs : List Int8} (A : Arv Z h a k .byte z (vB xs) d) (hl : xs.length = z.toNatClampNeg) : Arl Z h a .byte (vB xs) := by
  obtain ⟨c', A', -, sz, -, H, -⟩ := A
  refine ⟨c', A', ?_⟩
  apply List.ext_getElem?
  intro i
  rw [Array.getElem?_toList]
  by_cases hi : i < c'.slots.size
  · rw [H i hi, List.getD_eq_getElem?_getD]
    have : i < (vB xs).length := by rw [vB_len]; omega
    rw [List.getElem?_eq_getElem this]; rfl
  · rw [Array.getElem?_eq_none (by omega), List.getElem?_eq_none (by rw [vB_len]; omega)]
theorem own_newPE (X : Stand p l e R s m args below meth c T locs cells slots) (hx : p.tables.exec = Jvm.exec) (hZ : Z.Warmed39 s.vm) (w : (Jvm.Cond.arrayClass .byte).before a0 Z = true) (eT : T.heap = h) {g : JFrame} (hg : g.method = m) (hd : decode c.code g.pc = .ok (.newarray .byte, 2)) {n : Int32} {rest : List Value} (hs : g.stack = .int n :: rest)
    (hn : ¬ n < 0) {cap : Nat} (hcap : n.toNatClampNeg ≤ cap) (hb : cap * 8 ≤ 536870912) (hc : cells + 1 ≤ R.cells) (hl : slots + cap ≤ R.slots) :
    ∃ T' h', Stand p l e R s m args below meth c T' locs (cells + 1) (slots + cap) ∧ T'.heap = h' ∧ Ext h h' ∧ Arl Z h' h.size .byte (vB (List.replicate n.toNatClampNeg 0)) ∧ Exa Z h' h.size "[B" ∧
      ∀ target, Steps p.tables e below (T'.setTop { g with pc := g.pc + 2, stack := .ref h.size :: rest }) target → Steps p.tables e below (T.setTop g) target := by
  obtain ⟨T', h', cA, X', e', E', A', Ex, st⟩ := newPE X hx hZ (aty := .byte) w eT hg hd hs hn hcap hb hc hl (ad := "[B") (by decide)
  exact ⟨T', h', X', e', E', ⟨_, A', by simp [newA, vB, newarray.typeOf, defaultValue]⟩, Ex, st⟩
theorem own_cl (X : Stand p l e R s m args below meth c T locs cells slots) (hx : p.tables.exec = Jvm.exec) (hZ : Z.Warmed39 s.vm) {own : String} {index : Nat} (hown : s.vm.findClass own = some m.cls)
    (w1 : (Jvm.Cond.methodLink own index ⟨"[B", "clone", "()Ljava/lang/Object;"⟩).before a0 Z = true) (w2 : (Jvm.Cond.sameMethod "[B" "java/lang/Object" "clone" "()Ljava/lang/Object;").before a0 Z = true) (w3 : (Jvm.Cond.native ⟨"java/lang/Object", "clone", "()Ljava/lang/Object;"⟩).before a0 Z = true)
    (w4 : (Jvm.Cond.instanceMethod ⟨"java/lang/Object", "clone", "()Ljava/lang/Object;"⟩).before a0 Z = true) (w5 : (Jvm.Cond.selects "[B" ⟨"[B", "clone", "()Ljava/lang/Object;"⟩ ⟨"java/lang/Object", "clone", "()Ljava/lang/Object;"⟩).before a0 Z = true) (w6 : (Jvm.Cond.castable "[B" "java/lang/Cloneable").before a0 Z = true)
    (eT : T.heap = h) {a : Addr} {xs : List Int8} (A : Arl Z h a .byte (vB xs)) (E : Exa Z h a "[B") {g : JFrame} (hg : g.method = m) (hsize : g.locals.size = c.maxLocals) {rest : List Value} (hs : g.stack = .ref a :: rest) (hd : decode c.code g.pc = .ok (.invokevirtual index, 3))
    (hf : 1 ≤ R.frames) {W cap : Nat} (hW : 2 * g.monitorRoom + (rest.map fun v => v.category).sum ≤ W) (hl : W + 14 ≤ R.locals) (hcap : xs.length ≤ cap) (hc : cells + 1 ≤ R.cells) (hsl : slots + cap ≤ R.slots) :
    ∃ T' h', Stand p l e R s m args below meth c T' locs (cells + 1) (slots + cap) ∧ T'.heap = h' ∧ Ext h h' ∧ Arl Z h' h.size .byte (vB xs) ∧ Exa Z h' h.size "[B" ∧
      ∀ target, Steps p.tables e below (T'.setTop { g with pc := g.pc + 3, stack := .ref h.size :: rest }) target → Steps p.tables e below (T.setTop g) target := by
  obtain ⟨c', A', r⟩ := A
  have FC : FitC Z c' := fitC_of A' fun i hi v hv => by
    rw [← Array.getElem?_toList, r] at hv
    exact vB_fit (List.mem_of_getElem? hv)
  obtain ⟨T', h', X', e', ex, A2, E2, st⟩ := cloneA X hx hZ hown w1 w2 w3 w4 w5 w6 eT A' E FC hg hsize hs hd hf hW hl (by rw [← Array.length_toList, r, vB_len]; exact hcap) hc hsl
  exact ⟨T', h', X', e', ex, ⟨_, A2, r⟩, E2, st⟩
theorem own_cpL {xs : List Int8} {nn nd : Nat} (h1 : nn ≤ xs.length) (h2 : nn ≤ nd) :
    ((vB (List.replicate nd 0)).take 0 ++ (List.range nn).map (fun i => (vB xs).getD (0 + i) (.int 0)) ++ (vB (List.replicate nd 0)).drop (0 + nn)) = vB (xs.take nn ++ List.replicate (nd - nn) 0) := by
  unfold vB
  rw [List.map_append, List.take_zero, List.nil_append, Nat.zero_add, ← List.map_drop, List.drop_replicate]
  congr 1
  apply List.ext_getElem
  · simp; omega
  · intro i q1 q2
    simp at q1 q2
    simp [List.getD_eq_getElem?_getD]
    rw [List.getElem?_eq_getElem (by omega)]; rfl
theorem own_cp (X : Stand p l e R s m args below meth c T locs cells slots) (hx : p.tables.exec = Jvm.exec) (hZ : Z.Warmed39 s.vm) {own : String} {index : Nat} (hown : s.vm.findClass own = some m.cls)
    (w1 : (Jvm.Cond.methodLink own index Jvm.Stand.acN).before a0 Z = true) (w2 : (Jvm.Cond.native Jvm.Stand.acN).before a0 Z = true) (w3 : (Jvm.Cond.static Jvm.Stand.acN).before a0 Z = true) (w4 : (Jvm.Cond.initialized "java/lang/System").before a0 Z = true) (eT : T.heap = h)
    {a b : Addr} {nd : Nat} {nn : Int32} {xs : List Int8} (A : Arl Z h a .byte (vB xs)) (B : Arl Z h b .byte (vB (List.replicate nd 0))) (hx1 : xs.length ≤ 64) (hx2 : nd ≤ 64) (h3 : ¬ nn < 0) (h4 : nn.toNatClampNeg ≤ xs.length) (h5 : nn.toNatClampNeg ≤ nd) {n0 : Nat} (N : Fr n0 locs) (ge : n0 ≤ b)
    {g : JFrame} (hg : g.method = m) (hsize : g.locals.size = c.maxLocals) {rest : List Value} (hs : g.stack = .int nn :: .int 0 :: .ref b :: .int 0 :: .ref a :: rest) (hd : decode c.code g.pc = .ok (.invokestatic index, 3))
    (hf : 1 ≤ R.frames) {W : Nat} (hW : 2 * g.monitorRoom + (rest.map fun v => v.category).sum ≤ W) (hlo : W + (nativeFrameWords "java/lang/System" "arraycopy" 5 + 11) ≤ R.locals) :
    ∃ T' h' L, Stand p l e R s m args below meth c T' L cells slots ∧ T'.heap = h' ∧ Fr n0 L ∧ Keep h h' [b] ∧ Arl Z h' b .byte (vB (xs.take nn.toNatClampNeg ++ List.replicate (nd - nn.toNatClampNeg) 0)) ∧
      ∀ target, Steps p.tables e below (T'.setTop { g with pc := g.pc + 3, stack := rest }) target → Steps p.tables e below (T.setTop g) target := by
  obtain ⟨k1, A1⟩ := own_arv A hx1
  obtain ⟨k2, B1⟩ := own_arv B (by rw [List.length_replicate]; exact hx2)
  obtain ⟨T', h', L, X', e', N', K', B', st⟩ := cpA X hx hZ hown w1 w2 w3 w4 eT (sp := 0) (dp := 0) (nn := nn) A1 B1 (us := _) (Or.inl ⟨rfl, rfl⟩) (by decide) (by decide) h3
    (by rw [(own_n32 hx1).1]; show 0 + _ ≤ _; omega) (by rw [(own_n32 (by rw [List.length_replicate]; exact hx2)).1, List.length_replicate]; show 0 + _ ≤ _; omega) rfl (by rw [vB_len, List.length_replicate]; show 0 + _ ≤ _; omega) N ge hg hsize hs hd hf hW hlo
  refine ⟨T', h', L, X', e', N', K', ?_, st⟩
  have q := own_cpL (xs := xs) (nn := nn.toNatClampNeg) (nd := nd) h4 h5
  have B2 : Arv Z h' b k2 .byte (List.replicate nd (0 : Int8)).length.toInt32 (vB (xs.take nn.toNatClampNeg ++ List.replicate (nd - nn.toNatClampNeg) 0)) (.int 0) := q ▸ B'
  exact own_arl B2 (by rw [(own_n32 (by rw [List.length_replicate]; exact hx2)).1]; simp; omega)
end Sync

theorem own_nat32 {q : Int32} {k : Nat} (h : q.toInt = k) : q.toBitVec.toNat = k := by
  have h1 : q.toBitVec.toInt = k := h
  rw [BitVec.toInt_eq_toNat_cond] at h1
  have := q.toBitVec.isLt
  split at h1 <;> omega
theorem own_nat64 {q : Int64} {k : Nat} (h : q.toInt = k) : q.toBitVec.toNat = k := by
  have h1 : q.toBitVec.toInt = k := h
  rw [BitVec.toInt_eq_toNat_cond] at h1
  have := q.toBitVec.isLt
  split at h1 <;> omega
theorem own_ushr (x : Int64) (q : Int32) (k : Nat) (h : q.toInt = k) (hk : k < 64) : ((x.toUInt64 >>> (q &&& 0x3f).toInt64.toUInt64).toInt64).toBitVec = x.toBitVec >>> k := by
  have hq : q.toBitVec.toNat % 64 = k := by rw [own_nat32 h]; omega
  show x.toBitVec >>> ((q &&& 0x3f).toInt64.toBitVec % 64) = x.toBitVec >>> k
  rw [BitVec.ushiftRight_eq', BitVec.toNat_umod, (sm64 q k hq).1, BitVec.toNat_ofNat]
  congr 1
  show k % 2 ^ 64 % 64 = k
  omega
theorem own_shl (x : Int64) (q : Int32) (k : Nat) (h : q.toInt = k) (hk : k < 64) : (x <<< (q &&& 0x3f).toInt64).toBitVec = x.toBitVec <<< k := by
  have hq : q.toBitVec.toNat % 64 = k := by rw [own_nat32 h]; omega
  show x.toBitVec <<< ((q &&& 0x3f).toInt64.toBitVec.smod 64) = x.toBitVec <<< k
  rw [BitVec.shiftLeft_eq', (sm64 q k hq).1, smod64 k hk]
/-- bit i of a long -/
def lbit (x : Int64) (i : Nat) : Bool := x.toBitVec.getLsbD i
theorem lbit_ext {x y : Int64} (h : ∀ i, i < 64 → lbit x i = lbit y i) : x = y := by
  apply Int64.toBitVec_inj.mp
  apply BitVec.eq_of_getLsbD_eq
  exact h
theorem lbit_hi {x : Int64} {i : Nat} (h : 64 ≤ i) : lbit x i = false := BitVec.getLsbD_of_ge _ _ h
theorem lbit_and (x y : Int64) (i : Nat) : lbit (x &&& y) i = (lbit x i && lbit y i) := by simp [lbit, Int64.toBitVec_and]
theorem lbit_or (x y : Int64) (i : Nat) : lbit (x ||| y) i = (lbit x i || lbit y i) := by simp [lbit, Int64.toBitVec_or]
theorem lbit_xor (x y : Int64) (i : Nat) : lbit (x ^^^ y) i = (lbit x i ^^ lbit y i) := by simp [lbit, Int64.toBitVec_xor]
theorem lbit_ushr {x : Int64} {q : Int32} {k : Nat} (h : q.toInt = k) (hk : k < 64) (i : Nat) : lbit ((x.toUInt64 >>> (q &&& 0x3f).toInt64.toUInt64).toInt64) i = lbit x (k + i) := by
  unfold lbit; rw [own_ushr x q k h hk, BitVec.getLsbD_ushiftRight]
theorem lbit_shl {x : Int64} {q : Int32} {k : Nat} (h : q.toInt = k) (hk : k < 64) (i : Nat) : lbit (x <<< (q &&& 0x3f).toInt64) i = (decide (i < 64) && (!decide (i < k) && lbit x (i - k))) := by
  unfold lbit; rw [own_shl x q k h hk, BitVec.getLsbD_shiftLeft]; simp [Bool.and_assoc]
theorem lbit_m1 (i : Nat) : lbit (-1) i = decide (i < 64) := by
  unfold lbit
  rw [show (-1 : Int64).toBitVec = BitVec.allOnes 64 from by decide, BitVec.getLsbD_allOnes]
theorem own_one (x : Int64) : (x &&& (1 : Int64)) = if lbit x 0 then 1 else 0 := by
  apply lbit_ext
  intro i hi
  rw [lbit_and]
  have h1 : lbit 1 i = decide (i = 0) := by
    unfold lbit
    rw [show (1 : Int64).toBitVec = 1#64 from by decide, BitVec.getLsbD_one]
    simp
  rw [h1]
  have h0 : lbit 0 i = false := by unfold lbit; rw [show (0 : Int64).toBitVec = 0#64 from by decide]; simp
  by_cases e : i = 0
  · subst e
    cases hb : lbit x 0 <;> simp [h1, h0]
  · cases hb : lbit x 0 <;> simp [h1, h0, e]

theorem own_mono1 {h h' : Heap} {a : Addr} {ws : List Addr} (K : Keep h h' [a]) : Keep h h' (a :: ws) :=
  ⟨K.1, fun x c q r => K.2.1 x c q (fun z => r (by rw [List.mem_singleton.mp z]; exact List.mem_cons_self ..)), K.2.2⟩
theorem own_nar8 (x : Int32) : x.toInt8.toInt32.toInt8.toInt32 = x.toInt8.toInt32 := by simp
/-- what Arrays.copyOf makes -/
def cpo (xs : List Int8) (n : Nat) : List Int8 := xs.take n ++ List.replicate (n - xs.length) 0
theorem own_toNat {x : Int32} (q : ¬ x < 0) : x.toInt = x.toNatClampNeg := by
  rw [Int32.lt_iff_toInt_lt] at q; have : (0 : Int32).toInt = 0 := rfl
  simp only [Int32.toNatClampNeg]; omega
theorem own_len32 {k : Nat} (h : k ≤ 64) : (k.toInt32).toInt = k := len_toInt (by omega)
theorem own_min {xs : List Int8} {p1 : Int32} (hl : xs.length ≤ 32) (hn : ¬ p1 < 0) (hn2 : p1.toNatClampNeg ≤ 32) :
    ¬ (if p1 < xs.length.toInt32 then p1 else xs.length.toInt32) < 0 ∧ (if p1 < xs.length.toInt32 then p1 else xs.length.toInt32).toNatClampNeg ≤ xs.length ∧ (if p1 < xs.length.toInt32 then p1 else xs.length.toInt32).toNatClampNeg ≤ p1.toNatClampNeg := by
  have h1 := own_n32 (k := xs.length) (by omega)
  have h2 := own_len32 (k := xs.length) (by omega)
  have h3 := own_toNat hn
  by_cases c1 : p1 < xs.length.toInt32
  · rw [if_pos c1]
    rw [Int32.lt_iff_toInt_lt, h2] at c1
    exact ⟨hn, by omega, Nat.le_refl _⟩
  · rw [if_neg c1, h1.1]
    rw [Int32.lt_iff_toInt_lt, h2] at c1
    exact ⟨h1.2, Nat.le_refl _, by omega⟩
theorem own_cpo1 {xs : List Int8} {p1 : Int32} (hl : xs.length ≤ 32) (h : p1 = xs.length.toInt32) : xs = cpo xs p1.toNatClampNeg := by
  have h1 := own_n32 (k := xs.length) (by omega)
  rw [h, h1.1]; simp [cpo]
theorem own_cpo2 {xs : List Int8} {p1 : Int32} (hl : xs.length ≤ 32) (hn : ¬ p1 < 0) (hn2 : p1.toNatClampNeg ≤ 32) :
    xs.take (if p1 < xs.length.toInt32 then p1 else xs.length.toInt32).toNatClampNeg ++ List.replicate (p1.toNatClampNeg - (if p1 < xs.length.toInt32 then p1 else xs.length.toInt32).toNatClampNeg) 0 = cpo xs p1.toNatClampNeg := by
  have h1 := own_n32 (k := xs.length) (by omega)
  have h2 := own_len32 (k := xs.length) (by omega)
  have h3 := own_toNat hn
  unfold cpo
  by_cases c1 : p1 < xs.length.toInt32
  · rw [if_pos c1]
    rw [Int32.lt_iff_toInt_lt, h2] at c1
    rw [show p1.toNatClampNeg - p1.toNatClampNeg = 0 by omega, show p1.toNatClampNeg - xs.length = 0 by omega]
  · rw [if_neg c1, h1.1]
    rw [Int32.lt_iff_toInt_lt, h2] at c1
    rw [List.take_of_length_le (Nat.le_refl _), List.take_of_length_le (by omega)]

/-- the buffer's length when k bytes are written -/
def capOf (k : Nat) : Nat := if k ≤ 4 then 4 else if k ≤ 8 then 8 else if k ≤ 16 then 16 else 32
def bufL (ws : List Int8) : List Int8 := ws ++ List.replicate (capOf ws.length - ws.length) 0
def gl (k : Nat) : Nat := if k ≤ 4 then 3 else if k ≤ 8 then 2 else if k ≤ 16 then 1 else 0
theorem capOf_le (k : Nat) : capOf k ≤ 32 := by unfold capOf; split <;> (try split) <;> (try split) <;> omega
theorem capOf_ge {k : Nat} (h : k ≤ 32) : k ≤ capOf k := by unfold capOf; split <;> (try split) <;> (try split) <;> omega
theorem capOf_s {k : Nat} (h : k < capOf k) : capOf (k + 1) = capOf k := by
  unfold capOf at *
  by_cases h1 : k ≤ 4
  · rw [if_pos h1] at h; rw [if_pos (by omega), if_pos h1]
  · rw [if_neg h1] at h; rw [if_neg (by omega), if_neg h1]
    by_cases h2 : k ≤ 8
    · rw [if_pos h2] at h; rw [if_pos (by omega), if_pos h2]
    · rw [if_neg h2] at h; rw [if_neg (by omega), if_neg h2]
      by_cases h3 : k ≤ 16
      · rw [if_pos h3] at h; rw [if_pos (by omega), if_pos h3]
      · rw [if_neg (by omega), if_neg h3]
theorem capOf_g {k : Nat} (h : k = 4 ∨ k = 8 ∨ k = 16) : capOf k = k ∧ capOf (k + 1) = 2 * k ∧ gl k = gl (k + 1) + 1 := by rcases h with rfl | rfl | rfl <;> decide
theorem gl_s {k : Nat} (h : k < capOf k) : gl (k + 1) = gl k := by
  unfold capOf at h; unfold gl
  by_cases h1 : k ≤ 4
  · rw [if_pos h1] at h; rw [if_pos (by omega), if_pos h1]
  · rw [if_neg h1] at h; rw [if_neg (by omega), if_neg h1]
    by_cases h2 : k ≤ 8
    · rw [if_pos h2] at h; rw [if_pos (by omega), if_pos h2]
    · rw [if_neg h2] at h; rw [if_neg (by omega), if_neg h2]
      by_cases h3 : k ≤ 16
      · rw [if_pos h3] at h; rw [if_pos (by omega), if_pos h3]
      · rw [if_neg (by omega), if_neg h3]
theorem cap_or {k : Nat} (h : k ≤ 20) : k < capOf k ∨ (k = 4 ∨ k = 8 ∨ k = 16) := by
  unfold capOf
  split
  · omega
  · split
    · omega
    · split <;> omega
theorem own_g {k : Nat} (h : k = 4 ∨ k = 8 ∨ k = 16) : (0 : Int32) < (k.toInt32 + (1 : Int32)) - k.toInt32 ∧ (k.toInt32 + (1 : Int32)) - k.toInt32 < k.toInt32 ∧ (0 : Int32) < k.toInt32 + k.toInt32 ∧ ¬ (2147483639 : Int32) < k.toInt32 + k.toInt32 ∧ ¬ (k.toInt32 + k.toInt32) < 0 ∧ (k.toInt32 + k.toInt32).toNatClampNeg = 2 * k := by
  rcases h with rfl | rfl | rfl <;> decide
theorem bufL_len {ws : List Int8} (h : ws.length ≤ 32) : (bufL ws).length = capOf ws.length := by
  have := capOf_ge h
  simp [bufL]; omega
theorem own_bufm {ws : List Int8} (h : ws.length < capOf ws.length) (h2 : ws.length ≤ 20) : ¬ (0 : Int32) < (ws.length.toInt32 + (1 : Int32)) - (bufL ws).length.toInt32 := by
  rw [bufL_len (by omega)]
  have h3 := capOf_le ws.length
  rw [Int32.lt_iff_toInt_lt]
  have h4 := own_len32 (k := ws.length) (by omega)
  have h5 := own_len32 (k := capOf ws.length) (by omega)
  have e1 : (ws.length.toInt32 + (1 : Int32)).toInt = ws.length + 1 := by
    rw [Int32.toInt_add, h4]; show Int.bmod (_ + 1) _ = _; rw [Int.bmod_def]; split <;> omega
  rw [Int32.toInt_sub, e1, h5, Int.bmod_def]
  show ¬ (0 : Int) < _
  split <;> omega
theorem own_full {ws : List Int8} (h : ws.length = 4 ∨ ws.length = 8 ∨ ws.length = 16) : bufL ws = ws := by
  unfold bufL; rw [(capOf_g h).1]; simp
theorem own_set0 {ws : List Int8} {r : Nat} {b : Int8} (h2 : ws.length ≤ 20) (hr : 0 < r) : (vB (ws ++ List.replicate r 0)).set ws.length.toInt32.toNatClampNeg (.int b.toInt32) = vB ((ws ++ [b]) ++ List.replicate (r - 1) 0) := by
  rw [(own_n32 (by omega)).1]
  obtain ⟨q, rfl⟩ : ∃ q, r = q + 1 := ⟨r - 1, by omega⟩
  unfold vB
  rw [List.replicate_succ, List.map_append, List.map_cons, List.set_append]
  simp
theorem own_setN {ws : List Int8} {b : Int8} (h : ws.length < capOf ws.length) (h2 : ws.length ≤ 20) : (vB (bufL ws)).set ws.length.toInt32.toNatClampNeg (.int b.toInt32) = vB (bufL (ws ++ [b])) := by
  unfold bufL
  rw [own_set0 h2 (by omega), List.length_append, List.length_singleton, capOf_s h]
  congr 3
theorem own_setG {ws : List Int8} {b : Int8} (h : ws.length = 4 ∨ ws.length = 8 ∨ ws.length = 16) : (vB (cpo ws (ws.length.toInt32 + ws.length.toInt32).toNatClampNeg)).set ws.length.toInt32.toNatClampNeg (.int b.toInt32) = vB (bufL (ws ++ [b])) := by
  rw [(own_g h).2.2.2.2.2]
  have e1 : cpo ws (2 * ws.length) = ws ++ List.replicate ws.length 0 := by
    unfold cpo; rw [List.take_of_length_le (by omega)]; congr 2; omega
  unfold bufL
  rw [e1, own_set0 (by omega) (by omega), List.length_append, List.length_singleton, (capOf_g h).2.1]
  congr 3
  omega
theorem own_ixN {ws : List Int8} (h : ws.length < capOf ws.length) (h2 : ws.length ≤ 20) : ws.length.toInt32.toNatClampNeg < (vB (bufL ws)).length := by
  rw [(own_n32 (by omega)).1, vB_len, bufL_len (by omega)]; exact h
theorem own_ixG {ws : List Int8} (h : ws.length = 4 ∨ ws.length = 8 ∨ ws.length = 16) : ws.length.toInt32.toNatClampNeg < (vB (cpo ws (ws.length.toInt32 + ws.length.toInt32).toNatClampNeg)).length := by
  rw [(own_n32 (by omega)).1, vB_len, (own_g h).2.2.2.2.2]; simp [cpo]; omega
theorem own_cnt {ws : List Int8} {b : Int8} (h2 : ws.length ≤ 20) : ws.length.toInt32 + (1 : Int32) = (ws ++ [b]).length.toInt32 := by
  rw [List.length_append, List.length_singleton]
  apply Int32.toInt_inj.mp
  rw [own_len32 (by omega), Int32.toInt_add, own_len32 (by omega)]
  show Int.bmod (_ + 1) _ = _; rw [Int.bmod_def]; split <;> omega
theorem own_cpoT {ws : List Int8} (h2 : ws.length ≤ 20) : cpo (bufL ws) ws.length.toInt32.toNatClampNeg = ws := by
  rw [(own_n32 (by omega)).1]
  have h3 := bufL_len (ws := ws) (by omega)
  have h4 := capOf_ge (k := ws.length) (by omega)
  unfold cpo
  rw [h3, show ws.length - capOf ws.length = 0 by omega]
  simp [bufL]
def BA : String := "java/io/ByteArrayOutputStream"
/-- a ByteArrayOutputStream ob with its buffer bb, of which ws are written -/
def Wst (Z : State) (h : Heap) (ob bb : Addr) (ws : List Int8) : Prop := Exa Z h ob "java/io/ByteArrayOutputStream" ∧ Fld Z h ob "java/io/ByteArrayOutputStream" "buf" "[B" (.ref bb) ∧ Fld Z h ob "java/io/ByteArrayOutputStream" "count" "I" (.int ws.length.toInt32) ∧ Arl Z h bb .byte (vB (bufL ws)) ∧ Exa Z h bb "[B" ∧ Unt h ob
section WstS
variable {Z : State} {h h' : Heap} {ob bb a : Addr} {ws : List Int8} {W : List Addr} {sl : Nat} {v : Value}
theorem Wst.lt (F : Wst Z h ob bb ws) : ob < h.size := F.1.lt
theorem Wst.ext (F : Wst Z h ob bb ws) (E : Ext h h') : Wst Z h' ob bb ws := ⟨Exa.ext E F.1, Fld.ext E F.2.1, Fld.ext E F.2.2.1, F.2.2.2.1.ext E, Exa.ext E F.2.2.2.2.1, Unt.ext E F.2.2.2.2.2⟩
theorem Wst.other (F : Wst Z h ob bb ws) (G : Wr h h' a sl v) (n1 : ob ≠ a) (n2 : bb ≠ a) : Wst Z h' ob bb ws := ⟨Exa.wr G F.1, Fld.other G F.2.1 (Or.inl n1), Fld.other G F.2.2.1 (Or.inl n1), F.2.2.2.1.other G n2, Exa.wr G F.2.2.2.2.1, Unt.wr G F.2.2.2.2.2⟩
end WstS
/-- the bytes of a number -/
def enc : Nat → Int64 → List Int8
  | 0, r => [((r).toInt32).toInt8]
  | f + 1, r => if (r &&& (-128 : Int64)) = (0 : Int64) then [((r).toInt32).toInt8] else (((((r &&& (127 : Int64))).toInt32 ||| (128 : Int32))).toInt8) :: enc f (((r).toUInt64 >>> ((7 : Int32) &&& 0x3f).toInt64.toUInt64).toInt64)
theorem enc_1 {f : Nat} {r : Int64} {ws : List Int8} (c : (r &&& (-128 : Int64)) = (0 : Int64)) : ws ++ [((r).toInt32).toInt8] = ws ++ enc (f + 1) r := by rw [enc, if_pos c]
theorem enc_s {f : Nat} {r : Int64} {ws : List Int8} (c : ¬ (r &&& (-128 : Int64)) = (0 : Int64)) : (ws ++ [(((((r &&& (127 : Int64))).toInt32 ||| (128 : Int32))).toInt8)]) ++ enc f (((r).toUInt64 >>> ((7 : Int32) &&& 0x3f).toInt64.toUInt64).toInt64) = ws ++ enc (f + 1) r := by rw [enc, if_neg c]; simp
/-- r has at most 7 f + 7 bits -/
def small (f : Nat) (r : Int64) : Prop := ∀ i, 7 * f + 7 ≤ i → lbit r i = false
def zz (p0 : Int64) : Int64 := ((p0 <<< ((1 : Int32) &&& 0x3f).toInt64) ^^^ (p0 >>> ((63 : Int32) &&& 0x3f).toInt64))
theorem gl_le (k : Nat) : gl k ≤ 3 := by unfold gl; split <;> (try split) <;> (try split) <;> omega
theorem small9 (r : Int64) : small 9 r := fun i h => lbit_hi (by omega)
theorem small_s {f : Nat} {r : Int64} (h : small (f + 1) r) : small f (((r).toUInt64 >>> ((7 : Int32) &&& 0x3f).toInt64.toUInt64).toInt64) := fun i hi => by
  rw [lbit_ushr (k := 7) rfl (by decide)]; exact h _ (by omega)
theorem lbit_m128 (i : Nat) : lbit (-128) i = (decide (7 ≤ i) && decide (i < 64)) := by
  by_cases h : i < 64
  · have : ∀ j : Fin 64, lbit (-128) j.val = (decide (7 ≤ j.val) && decide (j.val < 64)) := by decide +kernel
    exact this ⟨i, h⟩
  · rw [lbit_hi (by omega)]; simp [h]
theorem lbit_0 (i : Nat) : lbit 0 i = false := by unfold lbit; rw [show (0 : Int64).toBitVec = 0#64 from by decide]; simp
theorem small0 {r : Int64} (h : small 0 r) : (r &&& (-128 : Int64)) = (0 : Int64) := by
  apply lbit_ext
  intro i hi
  rw [lbit_and, lbit_m128, lbit_0]
  by_cases c1 : 7 ≤ i
  · rw [h i (by omega)]; rfl
  · simp [c1]

/-- what sevenBits makes of the bytes that it meets -/
def svb : List Int32 → Int32 → Int64 → Int64
  | [], _, acc => acc
  | b :: bs, sh, acc => svb bs (sh + (7 : Int32)) (acc ||| ((((b &&& (255 : Int32)) &&& (127 : Int32))).toInt64 <<< (sh &&& 0x3f).toInt64))
def endp : List Int32 → Int32 → Int32
  | [], q => q
  | _ :: bs, q => endp bs (q + (1 : Int32))
/-- the bytes bs stand in vs from q on; all but the last have the high bit -/
def chain : List Int32 → Int32 → List Value → Prop
  | [], _, _ => False
  | [b], q, vs => ¬ q < 0 ∧ vs[q.toNatClampNeg]? = some (.int b) ∧ ((b &&& (255 : Int32)) &&& (128 : Int32)) = 0
  | b :: b2 :: bs, q, vs => ¬ q < 0 ∧ vs[q.toNatClampNeg]? = some (.int b) ∧ ¬ ((b &&& (255 : Int32)) &&& (128 : Int32)) = 0 ∧ chain (b2 :: bs) (q + (1 : Int32)) vs
theorem lbit_127 (i : Nat) : lbit 127 i = decide (i < 7) := by
  by_cases h : i < 64
  · have : ∀ j : Fin 64, lbit 127 j.val = decide (j.val < 7) := by decide +kernel
    exact this ⟨i, h⟩
  · rw [lbit_hi (by omega)]; simp; omega
theorem own_fin7 (r : Int64) : ∃ j : Fin 128, (r &&& (127 : Int64)) = Int64.ofBitVec (BitVec.ofNat 64 j.val) := by
  have h1 : (r &&& (127 : Int64)).toBitVec.toNat < 128 := by
    rw [Int64.toBitVec_and, BitVec.toNat_and]
    have : r.toBitVec.toNat &&& (127 : Int64).toBitVec.toNat ≤ (127 : Int64).toBitVec.toNat := Nat.and_le_right
    have e : (127 : Int64).toBitVec.toNat = 127 := by decide
    omega
  refine ⟨⟨_, h1⟩, ?_⟩
  apply Int64.toBitVec_inj.mp
  show _ = BitVec.ofNat 64 _
  rw [BitVec.ofNat_toNat, BitVec.setWidth_eq]
theorem own_fin {r : Int64} (c : (r &&& (-128 : Int64)) = (0 : Int64)) : ∃ j : Fin 128, r = Int64.ofBitVec (BitVec.ofNat 64 j.val) := by
  have e : (r &&& (127 : Int64)) = r := by
    apply lbit_ext
    intro i hi
    have q := congrArg (fun x => lbit x i) c
    simp only [lbit_and, lbit_m128, lbit_0] at q
    rw [lbit_and, lbit_127]
    by_cases c1 : i < 7
    · simp [c1]
    · have : 7 ≤ i := by omega
      simp [this, hi] at q
      simp [q]
  rw [← e]; exact own_fin7 r
theorem lo_1 : ∀ j : Fin 128, (((Int64.ofBitVec (BitVec.ofNat 64 j.val)).toInt32.toInt8.toInt32 &&& (255 : Int32)) &&& (128 : Int32)) = 0 ∧ ((((Int64.ofBitVec (BitVec.ofNat 64 j.val)).toInt32.toInt8.toInt32 &&& (255 : Int32)) &&& (127 : Int32))).toInt64 = Int64.ofBitVec (BitVec.ofNat 64 j.val) := by decide +kernel
theorem hi_1 : ∀ j : Fin 128, ¬ (((((Int64.ofBitVec (BitVec.ofNat 64 j.val)).toInt32 ||| (128 : Int32)).toInt8.toInt32 &&& (255 : Int32)) &&& (128 : Int32)) = 0) ∧ (((((Int64.ofBitVec (BitVec.ofNat 64 j.val)).toInt32 ||| (128 : Int32)).toInt8.toInt32 &&& (255 : Int32)) &&& (127 : Int32))).toInt64 = Int64.ofBitVec (BitVec.ofNat 64 j.val) := by decide +kernel
theorem lo_2 {r : Int64} (c : (r &&& (-128 : Int64)) = (0 : Int64)) : (((r.toInt32).toInt8.toInt32 &&& (255 : Int32)) &&& (128 : Int32)) = 0 ∧ ((((r.toInt32).toInt8.toInt32 &&& (255 : Int32)) &&& (127 : Int32))).toInt64 = r := by
  obtain ⟨j, rfl⟩ := own_fin c; exact lo_1 j
theorem hi_2 (r : Int64) : ¬ ((((((r &&& (127 : Int64))).toInt32 ||| (128 : Int32)).toInt8.toInt32 &&& (255 : Int32)) &&& (128 : Int32)) = 0) ∧ ((((((r &&& (127 : Int64))).toInt32 ||| (128 : Int32)).toInt8.toInt32 &&& (255 : Int32)) &&& (127 : Int32))).toInt64 = (r &&& (127 : Int64)) := by
  obtain ⟨j, e⟩ := own_fin7 r; rw [e]; exact hi_1 j
theorem own_at2 {pre t post : List Int8} {b : Int8} (h : pre.length ≤ 40) : (vB (pre ++ (b :: t) ++ post))[pre.length.toInt32.toNatClampNeg]? = some (.int b.toInt32) := by
  rw [(own_n32 (by omega)).1]; simp [vB]
theorem enc_c (f : Nat) (r : Int64) : (enc f r).map (fun b => b.toInt32) = [((r).toInt32).toInt8.toInt32] ∧ enc f r = [((r).toInt32).toInt8] ∨ ∃ t, enc f r = (((((r &&& (127 : Int64))).toInt32 ||| (128 : Int32))).toInt8) :: t := by
  cases f with
  | zero => exact Or.inl ⟨rfl, rfl⟩
  | succ f =>
    by_cases c : (r &&& (-128 : Int64)) = (0 : Int64)
    · rw [enc, if_pos c]; exact Or.inl ⟨rfl, rfl⟩
    · rw [enc, if_neg c]; exact Or.inr ⟨_, rfl⟩
theorem enc_ne (f : Nat) (r : Int64) : ∃ b t, enc f r = b :: t := by
  rcases enc_c f r with ⟨-, h⟩ | ⟨t, h⟩
  · exact ⟨_, _, h⟩
  · exact ⟨_, _, h⟩
theorem enc_len : ∀ (f : Nat) (r : Int64), (enc f r).length ≤ f + 1
  | 0, _ => Nat.le_refl _
  | f + 1, r => by
    rw [enc]; split
    · simp
    · rw [List.length_cons]; have := enc_len f (((r).toUInt64 >>> ((7 : Int32) &&& 0x3f).toInt64.toUInt64).toInt64); omega
theorem chain_1 {r : Int64} {pre post : List Int8} (h : pre.length ≤ 40) (c : (r &&& (-128 : Int64)) = (0 : Int64)) : chain ([((r).toInt32).toInt8].map (fun b => b.toInt32)) pre.length.toInt32 (vB (pre ++ [((r).toInt32).toInt8] ++ post)) :=
  ⟨(own_n32 (by omega)).2, own_at2 h, (lo_2 c).1⟩
theorem own_pos {k : Nat} (h : k ≤ 50) : k.toInt32 + (1 : Int32) = (k + 1).toInt32 := by
  apply Int32.toInt_inj.mp
  rw [own_len32 (by omega), Int32.toInt_add, own_len32 (by omega)]
  show Int.bmod (_ + 1) _ = _; rw [Int.bmod_def]; split <;> omega
theorem own_chain : ∀ (f : Nat) (r : Int64) (pre post : List Int8), small f r → pre.length + f ≤ 40 → chain ((enc f r).map (fun b => b.toInt32)) pre.length.toInt32 (vB (pre ++ enc f r ++ post))
  | 0, r, pre, post, hs, h => chain_1 (by omega) (small0 hs)
  | f + 1, r, pre, post, hs, h => by
    by_cases c : (r &&& (-128 : Int64)) = (0 : Int64)
    · rw [enc, if_pos c]; exact chain_1 (by omega) c
    · rw [enc, if_neg c]
      have ih := own_chain f (((r).toUInt64 >>> ((7 : Int32) &&& 0x3f).toInt64.toUInt64).toInt64) (pre ++ [(((((r &&& (127 : Int64))).toInt32 ||| (128 : Int32))).toInt8)]) post (small_s hs) (by rw [List.length_append, List.length_singleton]; omega)
      obtain ⟨b2, t2, e2⟩ := enc_ne f (((r).toUInt64 >>> ((7 : Int32) &&& 0x3f).toInt64.toUInt64).toInt64)
      have q := own_at2 (pre := pre) (t := enc f (((r).toUInt64 >>> ((7 : Int32) &&& 0x3f).toInt64.toUInt64).toInt64)) (post := post) (b := (((((r &&& (127 : Int64))).toInt32 ||| (128 : Int32))).toInt8)) (by omega)
      rw [List.append_assoc pre, List.length_append, List.length_singleton, ← own_pos (by omega)] at ih
      rw [e2] at ih q ⊢
      refine ⟨(own_n32 (by omega)).2, q, (hi_2 r).1, ih⟩
theorem endp_len : ∀ (l : List Int32) (k : Nat), k + l.length ≤ 50 → endp l k.toInt32 = (k + l.length).toInt32
  | [], _, _ => rfl
  | _ :: t, k, h => by
    rw [List.length_cons] at h
    show endp t (k.toInt32 + 1) = _
    rw [own_pos (by omega), endp_len t (k + 1) (by omega), List.length_cons]
    congr 1; omega
theorem svb_step {r acc : Int64} {sh : Int32} {j : Nat} (hs : sh.toInt = ((7 * j : Nat) : Int)) (hj : j + 1 ≤ 9) : (acc ||| ((r &&& (127 : Int64)) <<< (sh &&& 0x3f).toInt64)) ||| ((((r).toUInt64 >>> ((7 : Int32) &&& 0x3f).toInt64.toUInt64).toInt64) <<< ((sh + (7 : Int32)) &&& 0x3f).toInt64) = acc ||| (r <<< (sh &&& 0x3f).toInt64) := by
  have h7 : (sh + (7 : Int32)).toInt = ((7 * (j + 1) : Nat) : Int) := by
    rw [Int32.toInt_add, hs]; show Int.bmod (_ + 7) _ = _; rw [Int.bmod_def]; split <;> omega
  apply lbit_ext
  intro i hi
  rw [lbit_or, lbit_or, lbit_or, lbit_shl hs (by omega), lbit_shl h7 (by omega), lbit_shl hs (by omega), lbit_and, lbit_127, lbit_ushr (k := 7) rfl (by decide)]
  by_cases c1 : i < 7 * j
  · have c2 : i < 7 * (j + 1) := by omega
    simp [c1, c2]
  · by_cases c2 : i < 7 * (j + 1)
    · have c3 : i - 7 * j < 7 := by omega
      simp [c1, c2, c3, hi]
    · have c3 : ¬ i - 7 * j < 7 := by omega
      have e : 7 + (i - 7 * (j + 1)) = i - 7 * j := by omega
      simp [c1, c2, c3, hi, e]
theorem svb_enc : ∀ (f : Nat) (r : Int64) (sh : Int32) (acc : Int64) (j : Nat), small f r → sh.toInt = ((7 * j : Nat) : Int) → f + j ≤ 9 → svb ((enc f r).map (fun b => b.toInt32)) sh acc = acc ||| (r <<< (sh &&& 0x3f).toInt64)
  | 0, r, sh, acc, j, hs, hsh, hj => by
    show acc ||| (_ <<< _) = _
    rw [(lo_2 (small0 hs)).2]
  | f + 1, r, sh, acc, j, hs, hsh, hj => by
    by_cases c : (r &&& (-128 : Int64)) = (0 : Int64)
    · rw [enc, if_pos c]
      show acc ||| (_ <<< _) = _
      rw [(lo_2 c).2]
    · rw [enc, if_neg c]
      show svb (List.map _ _) (sh + 7) (acc ||| (_ <<< _)) = _
      have h7 : (sh + (7 : Int32)).toInt = ((7 * (j + 1) : Nat) : Int) := by
        rw [Int32.toInt_add, hsh]; show Int.bmod (_ + 7) _ = _; rw [Int.bmod_def]; split <;> omega
      rw [svb_enc f _ (sh + 7) _ (j + 1) (small_s hs) h7 (by omega), (hi_2 r).2]
      exact svb_step hsh (by omega)
theorem svb_all (r : Int64) : svb ((enc 9 r).map (fun b => b.toInt32)) 0 0 = r := by
  rw [svb_enc 9 r 0 0 0 (small9 r) (by decide) (by decide)]
  have e : (((0 : Int32)) &&& 0x3f).toInt64 = 0 := by decide
  rw [e]; simp
def uz (x : Int64) : Int64 := (((x).toUInt64 >>> ((1 : Int32) &&& 0x3f).toInt64.toUInt64).toInt64 ^^^ (-(x &&& (1 : Int64))))
theorem own_sshr (x : Int64) (q : Int32) (k : Nat) (h : q.toInt = k) (hk : k < 64) : (x >>> (q &&& 0x3f).toInt64).toBitVec = x.toBitVec.sshiftRight k := by
  have hq : q.toBitVec.toNat % 64 = k := by rw [own_nat32 h]; omega
  show x.toBitVec.sshiftRight' ((q &&& 0x3f).toInt64.toBitVec.smod 64) = _
  rw [BitVec.sshiftRight_eq', (sm64 q k hq).1, smod64 k hk]
theorem lbit_s63 (x : Int64) (i : Nat) (hi : i < 64) : lbit (x >>> ((63 : Int32) &&& 0x3f).toInt64) i = lbit x 63 := by
  unfold lbit
  rw [own_sshr x 63 63 rfl (by decide), BitVec.getLsbD_sshiftRight]
  by_cases c : i = 0
  · subst c; simp
  · have c2 : ¬ (63 + i < 64) := by omega
    have c3 : ¬ (64 ≤ i) := by omega
    simp [c2, c3, BitVec.msb_eq_getLsbD_last]
theorem uz_zz (v : Int64) : uz (zz v) = v := by
  have hb : ∀ i, i < 64 → lbit (zz v) i = ((!decide (i < 1) && lbit v (i - 1)) ^^ lbit v 63) := fun i hi => by
    unfold zz
    rw [lbit_xor, lbit_shl (k := 1) rfl (by decide), lbit_s63 v i hi]; simp [hi]
  have h0 : lbit (zz v) 0 = lbit v 63 := by rw [hb 0 (by decide)]; simp
  apply lbit_ext
  intro i hi
  unfold uz
  rw [lbit_xor, lbit_ushr (k := 1) rfl (by decide), own_one, h0]
  have hn : lbit (-(if lbit v 63 = true then 1 else 0)) i = lbit v 63 := by
    cases h63 : lbit v 63
    · simp [lbit_0]
    · simp [lbit_m1, hi]
  rw [hn]
  by_cases c : i = 63
  · subst c; rw [lbit_hi (by decide)]; simp
  · rw [hb (1 + i) (by omega)]
    have : ¬ (1 + i < 1) := by omega
    rw [show 1 + i - 1 = i by omega]
    cases lbit v i <;> cases lbit v 63 <;> simp
theorem own_k (x : Int32) : ∃ j : Fin 128, (x &&& (127 : Int32)) = Int32.ofBitVec (BitVec.ofNat 32 j.val) := by
  have h1 : (x &&& (127 : Int32)).toBitVec.toNat < 128 := by
    rw [Int32.toBitVec_and, BitVec.toNat_and]
    have : x.toBitVec.toNat &&& (127 : Int32).toBitVec.toNat ≤ (127 : Int32).toBitVec.toNat := Nat.and_le_right
    have e : (127 : Int32).toBitVec.toNat = 127 := by decide
    omega
  refine ⟨⟨_, h1⟩, ?_⟩
  apply Int32.toBitVec_inj.mp
  show _ = BitVec.ofNat 32 _
  rw [BitVec.ofNat_toNat, BitVec.setWidth_eq]
theorem one_1 : ∀ j : Fin 128, (((Int32.ofBitVec (BitVec.ofNat 32 j.val)).toInt8.toInt32 &&& (255 : Int32)) &&& (128 : Int32)) = 0 ∧ (((Int32.ofBitVec (BitVec.ofNat 32 j.val)) &&& (1 : Int32)) = 0 → uz (svb [(Int32.ofBitVec (BitVec.ofNat 32 j.val)).toInt8.toInt32] 0 0) = ((Int32.ofBitVec (BitVec.ofNat 32 j.val)) >>> ((1 : Int32) &&& 31)).toInt64) ∧ (¬ ((Int32.ofBitVec (BitVec.ofNat 32 j.val)) &&& (1 : Int32)) = 0 → uz (svb [(Int32.ofBitVec (BitVec.ofNat 32 j.val)).toInt8.toInt32] 0 0) = -(((Int32.ofBitVec (BitVec.ofNat 32 j.val)) >>> ((1 : Int32) &&& 31)).toInt64 + (1 : Int64))) := by decide +kernel
theorem one_2 {x k : Int32} (h : (x &&& (127 : Int32)) = k) : ((k.toInt8.toInt32 &&& (255 : Int32)) &&& (128 : Int32)) = 0 ∧ ((k &&& (1 : Int32)) = 0 → uz (svb [k.toInt8.toInt32] 0 0) = (k >>> ((1 : Int32) &&& 31)).toInt64) ∧ (¬ (k &&& (1 : Int32)) = 0 → uz (svb [k.toInt8.toInt32] 0 0) = -((k >>> ((1 : Int32) &&& 31)).toInt64 + (1 : Int64))) := by
  obtain ⟨j, e⟩ := own_k x
  rw [← h, e]; exact one_1 j
theorem own_res (v : Int64) : uz (svb ((enc 9 (zz v)).map (fun b => b.toInt32)) 0 0) = v := by rw [svb_all]; exact uz_zz v
theorem own_chain2 (v w : Int64) : chain ((enc 9 w).map (fun b => b.toInt32)) (endp ((enc 9 v).map (fun b => b.toInt32)) (0 : Int32)) (vB ([] ++ enc 9 v ++ enc 9 w)) := by
  have h1 := enc_len 9 v
  have q := own_chain 9 w (enc 9 v) [] (small9 w) (by omega)
  rw [List.append_nil] at q
  have e := endp_len ((enc 9 v).map (fun b => b.toInt32)) 0 (by rw [List.length_map]; omega)
  rw [List.length_map, Nat.zero_add] at e
  have e0 : (0 : Nat).toInt32 = (0 : Int32) := rfl
  rw [e0] at e
  rw [e, List.nil_append]; exact q
theorem own_len20 (v w : Int64) : ([] ++ enc 9 v ++ enc 9 w).length ≤ 20 := by
  have h1 := enc_len 9 v
  have h2 := enc_len 9 w
  rw [List.nil_append, List.length_append]; omega
theorem own_len10 (v : Int64) : ([] ++ enc 9 v).length ≤ 10 := by rw [List.nil_append]; exact enc_len 9 v
theorem own_chain0 (v w : Int64) : chain ((enc 9 v).map (fun b => b.toInt32)) (0 : Int32) (vB ([] ++ enc 9 v ++ enc 9 w)) := own_chain 9 v [] (enc 9 w) (small9 v) (by decide)
theorem own_chain1 {b q : Int32} {vs : List Value} (h1 : ¬ q < 0) (h2 : vs[q.toNatClampNeg]? = some (.int b)) (h3 : ((b &&& (255 : Int32)) &&& (128 : Int32)) = 0) : chain [b] q vs := ⟨h1, h2, h3⟩
theorem own_law (v w : Int64) : ∃ (e1 e2 : List Int8) (b1 b2 : List Int32), e1 = enc 9 (zz v) ∧ e2 = enc 9 (zz w) ∧ e1.length ≤ 10 ∧ (e1 ++ e2).length ≤ 20 ∧ chain b1 (0 : Int32) (vB (e1 ++ e2)) ∧ chain b2 (endp b1 (0 : Int32)) (vB (e1 ++ e2)) ∧ uz (svb b1 0 0) = v ∧ uz (svb b2 0 0) = w := by
  have h1 := own_len20 (zz v) (zz w)
  have h2 := own_chain0 (zz v) (zz w)
  have h3 := own_chain2 (zz v) (zz w)
  rw [List.nil_append] at h1 h2 h3
  exact ⟨_, _, _, _, rfl, rfl, enc_len 9 _, h1, h2, h3, own_res v, own_res w⟩

theorem pd0 : parseMethodDescriptor "(I)V" = some ⟨[.int], none⟩ := by decide +kernel
theorem pd1 : parseMethodDescriptor "()V" = some ⟨[], none⟩ := by decide +kernel
theorem pd2 : parseMethodDescriptor "(J)Lcom/example/countermand/countermand/Packed$Writer;" = some ⟨[.long], (some (.object "com/example/countermand/countermand/Packed$Writer"))⟩ := by decide +kernel
theorem pd3 : parseMethodDescriptor "(J)V" = some ⟨[.long], none⟩ := by decide +kernel
theorem pd4 : parseMethodDescriptor "()[B" = some ⟨[], (some (.array .byte))⟩ := by decide +kernel
theorem pd5 : parseMethodDescriptor "([BI)[B" = some ⟨[(.array .byte), .int], (some (.array .byte))⟩ := by decide +kernel
theorem pd6 : parseMethodDescriptor "(II)I" = some ⟨[.int, .int], (some .int)⟩ := by decide +kernel
theorem pd7 : parseMethodDescriptor "([BI)V" = some ⟨[(.array .byte), .int], none⟩ := by decide +kernel
theorem pd8 : parseMethodDescriptor "()J" = some ⟨[], (some .long)⟩ := by decide +kernel
theorem pd9 : parseMethodDescriptor "(III)I" = some ⟨[.int, .int, .int], (some .int)⟩ := by decide +kernel
theorem pd10 : parseMethodDescriptor "(JJI)Z" = some ⟨[.long, .long, .int], (some .boolean)⟩ := by decide +kernel
theorem d10_0 : decode jdk_29_method_69_code 0 = .ok (.iload_n 0, 1) := by decide +kernel
theorem d10_1 : decode jdk_29_method_69_code 1 = .ok (.iload_n 1, 1) := by decide +kernel
theorem d10_2 : decode jdk_29_method_69_code 2 = .ok (.if_icmp .gt 7, 3) := by decide +kernel
theorem d10_5 : decode jdk_29_method_69_code 5 = .ok (.iload_n 0, 1) := by decide +kernel
theorem d10_6 : decode jdk_29_method_69_code 6 = .ok (.goto 4, 3) := by decide +kernel
theorem d10_9 : decode jdk_29_method_69_code 9 = .ok (.iload_n 1, 1) := by decide +kernel
theorem d10_10 : decode jdk_29_method_69_code 10 = .ok (.ireturn, 1) := by decide +kernel
theorem ef_rmMin (m : MethodId) (p0 : Int32) (p1 : Int32) : entryFrame m #[(.int p0), (.int p1)] 2 = mkF m 0 #[.val (.int p0), .val (.int p1)] [] := by first | (simp [entryFrame, mkF, argsToLocals, Value.category]; done) | rfl
def Q_rmMin (Z : State) (p0 : Int32) (p1 : Int32) (h0 : Heap) (n0 : Nat) (v : Option Value) (h : Heap) (L : List Loc) : Prop := v = some (.int (if p1 < p0 then p1 else p0)) ∧ Fr n0 L ∧ h = h0
set_option maxRecDepth 65536 in
set_option maxHeartbeats 40000000 in
theorem rmMin (l : Launch) (Z : State) (a0 : Array Value) (hw : ∀ d ∈ tables_1, d.before a0 Z = true) (wsC : List Jvm.Cond) (p0 : Int32) (p1 : Int32) (h0 : Heap) (n0 : Nat) (Z0 : n0 ≤ h0.size)  :
    MetFree l (⟨"java/lang/Math", "min", "(II)I"⟩ : MethodName) (head1 (Jvm.Cond.code (⟨"java/lang/Math", "min", "(II)I"⟩ : MethodName) jdk_29_method_69_code 2 (some .int) :: wsC) ({ frames := 0, cells := 0, slots := 0, locals := 0 } : Room)) (fun aa U => aa = #[(.int p0), (.int p1)] ∧ Z.Warmed39 U.vm ∧ U.heap = h0) (fun _ _ _ _ _ => True) (fun _ U oo U' => ∃ v L, oo = .returned v ∧ Q_rmMin Z p0 p1 h0 n0 v U'.heap L ∧ FrameEnd U oo U' L ({ frames := 0, cells := 0, slots := 0, locals := 0 } : Room).cells ({ frames := 0, cells := 0, slots := 0, locals := 0 } : Room).slots) := by
  refine MetFree.of_bodySF (Jvm.Free.JP.mathPlain rfl (by decide +kernel)) hisR ?_
  intro p e s m args below meth c s₁ Bd hml0 hP hK
  obtain ⟨rfl, hZ, hh⟩ := hP
  have hx := Bd.exec
  have hby := Bd.bytes
  have hml : c.maxLocals = 2 := hml0
  have hown : s.vm.findClass "java/lang/Math" = some m.cls := findClass_of_methodNamed Bd.named
  have hnm := (name_of_methodNamed Bd.named Bd.method).1
  have hlk : meth.locks = false := Bd.notSynchronized
  have hret := Bd.returns
  have X0 : Stand p l e ({ frames := 0, cells := 0, slots := 0, locals := 0 } : Room) s m #[(.int p0), (.int p1)] below meth c s₁ [] 0 0 := Stand.of_body Bd
  have e0 : s₁.heap = h0 := by rw [← hh, Bd.state]; rfl
  have N0 := Fr.nil n0
  have K0 : Keep h0 h0 [] := Keep.refl _ _
  show Goes p e below s (Q_rmMin Z p0 p1 h0 n0) ({ frames := 0, cells := 0, slots := 0, locals := 0 } : Room).cells ({ frames := 0, cells := 0, slots := 0, locals := 0 } : Room).slots _
  refine Goes.go (fun _ kk => castTop (ef_rmMin m p0 p1) kk) ?_
  show Goes _ _ _ _ _ _ _ (s₁.setTop (mkF m 0 #[.val (.int p0), .val (.int p1)] []))
  refine Goes.go (fun _ kk => XS.iloadN X0.here hx rfl (hb hby d10_0) rfl kk) ?_
  show Goes _ _ _ _ _ _ _ (s₁.setTop (mkF m 1 _ [(.int p0)]))
  refine Goes.go (fun _ kk => XS.iloadN X0.here hx rfl (hb hby d10_1) rfl kk) ?_
  show Goes _ _ _ _ _ _ _ (s₁.setTop (mkF m 2 _ [(.int p1), (.int p0)]))
  by_cases c2 : p1 < p0
  · skip
    refine Goes.go (fun _ kk => XS.icmpYes X0.here hx rfl (pc0 := 2) (pc' := 9) rfl (hb hby d10_2) rfl (XT.ii_gt_t c2) (by decide) (by decide) kk) ?_
    show Goes _ _ _ _ _ _ _ (s₁.setTop (mkF m 9 _ []))
    refine Goes.go (fun _ kk => XS.iloadN X0.here hx rfl (hb hby d10_9) rfl kk) ?_
    show Goes _ _ _ _ _ _ _ (s₁.setTop (mkF m 10 _ [(.int p1)]))
    exact Goes.outI X0 hx hlk hret (hb hby d10_10) e0 ⟨by rw [if_pos c2], N0, rfl⟩ (by decide) (by decide)
  · skip
    refine Goes.go (fun _ kk => XS.icmpNo X0.here hx rfl (hb hby d10_2) rfl (XT.ii_gt_f c2) kk) ?_
    show Goes _ _ _ _ _ _ _ (s₁.setTop (mkF m 5 _ []))
    refine Goes.go (fun _ kk => XS.iloadN X0.here hx rfl (hb hby d10_5) rfl kk) ?_
    show Goes _ _ _ _ _ _ _ (s₁.setTop (mkF m 6 _ [(.int p0)]))
    refine Goes.go (fun _ kk => XS.goto X0.here hx rfl (pc0 := 6) (pc' := 10) rfl (hb hby d10_6) (by decide) (by decide) kk) ?_
    show Goes _ _ _ _ _ _ _ (s₁.setTop (mkF m 10 _ [(.int p0)]))
    exact Goes.outI X0 hx hlk hret (hb hby d10_10) e0 ⟨by rw [if_neg c2], N0, rfl⟩ (by decide) (by decide)
theorem d15_0 : decode jdk_29_method_65_code 0 = .ok (.iload_n 0, 1) := by decide +kernel
theorem d15_1 : decode jdk_29_method_65_code 1 = .ok (.iload_n 1, 1) := by decide +kernel
theorem d15_2 : decode jdk_29_method_65_code 2 = .ok (.if_icmp .lt 7, 3) := by decide +kernel
theorem d15_5 : decode jdk_29_method_65_code 5 = .ok (.iload_n 0, 1) := by decide +kernel
theorem d15_6 : decode jdk_29_method_65_code 6 = .ok (.goto 4, 3) := by decide +kernel
theorem d15_9 : decode jdk_29_method_65_code 9 = .ok (.iload_n 1, 1) := by decide +kernel
theorem d15_10 : decode jdk_29_method_65_code 10 = .ok (.ireturn, 1) := by decide +kernel
theorem ef_rmMax (m : MethodId) (p0 : Int32) (p1 : Int32) : entryFrame m #[(.int p0), (.int p1)] 2 = mkF m 0 #[.val (.int p0), .val (.int p1)] [] := by first | (simp [entryFrame, mkF, argsToLocals, Value.category]; done) | rfl
def Q_rmMax (Z : State) (p0 : Int32) (p1 : Int32) (h0 : Heap) (n0 : Nat) (v : Option Value) (h : Heap) (L : List Loc) : Prop := v = some (.int p1) ∧ Fr n0 L ∧ h = h0
set_option maxRecDepth 65536 in
set_option maxHeartbeats 40000000 in
theorem rmMax (l : Launch) (Z : State) (a0 : Array Value) (hw : ∀ d ∈ tables_1, d.before a0 Z = true) (wsC : List Jvm.Cond) (p0 : Int32) (p1 : Int32) (h0 : Heap) (n0 : Nat) (Z0 : n0 ≤ h0.size) (hlt : p0 < p1) :
    MetFree l (⟨"java/lang/Math", "max", "(II)I"⟩ : MethodName) (head1 (Jvm.Cond.code (⟨"java/lang/Math", "max", "(II)I"⟩ : MethodName) jdk_29_method_65_code 2 (some .int) :: wsC) ({ frames := 0, cells := 0, slots := 0, locals := 0 } : Room)) (fun aa U => aa = #[(.int p0), (.int p1)] ∧ Z.Warmed39 U.vm ∧ U.heap = h0) (fun _ _ _ _ _ => True) (fun _ U oo U' => ∃ v L, oo = .returned v ∧ Q_rmMax Z p0 p1 h0 n0 v U'.heap L ∧ FrameEnd U oo U' L ({ frames := 0, cells := 0, slots := 0, locals := 0 } : Room).cells ({ frames := 0, cells := 0, slots := 0, locals := 0 } : Room).slots) := by
  refine MetFree.of_bodySF (Jvm.Free.JP.mathPlain rfl (by decide +kernel)) hisR ?_
  intro p e s m args below meth c s₁ Bd hml0 hP hK
  obtain ⟨rfl, hZ, hh⟩ := hP
  have hx := Bd.exec
  have hby := Bd.bytes
  have hml : c.maxLocals = 2 := hml0
  have hown : s.vm.findClass "java/lang/Math" = some m.cls := findClass_of_methodNamed Bd.named
  have hnm := (name_of_methodNamed Bd.named Bd.method).1
  have hlk : meth.locks = false := Bd.notSynchronized
  have hret := Bd.returns
  have X0 : Stand p l e ({ frames := 0, cells := 0, slots := 0, locals := 0 } : Room) s m #[(.int p0), (.int p1)] below meth c s₁ [] 0 0 := Stand.of_body Bd
  have e0 : s₁.heap = h0 := by rw [← hh, Bd.state]; rfl
  have N0 := Fr.nil n0
  have K0 : Keep h0 h0 [] := Keep.refl _ _
  show Goes p e below s (Q_rmMax Z p0 p1 h0 n0) ({ frames := 0, cells := 0, slots := 0, locals := 0 } : Room).cells ({ frames := 0, cells := 0, slots := 0, locals := 0 } : Room).slots _
  refine Goes.go (fun _ kk => castTop (ef_rmMax m p0 p1) kk) ?_
  show Goes _ _ _ _ _ _ _ (s₁.setTop (mkF m 0 #[.val (.int p0), .val (.int p1)] []))
  refine Goes.go (fun _ kk => XS.iloadN X0.here hx rfl (hb hby d15_0) rfl kk) ?_
  show Goes _ _ _ _ _ _ _ (s₁.setTop (mkF m 1 _ [(.int p0)]))
  refine Goes.go (fun _ kk => XS.iloadN X0.here hx rfl (hb hby d15_1) rfl kk) ?_
  show Goes _ _ _ _ _ _ _ (s₁.setTop (mkF m 2 _ [(.int p1), (.int p0)]))
  refine Goes.go (fun _ kk => XS.icmpYes X0.here hx rfl (pc0 := 2) (pc' := 9) rfl (hb hby d15_2) rfl (XT.ii_lt_t hlt) (by decide) (by decide) kk) ?_
  show Goes _ _ _ _ _ _ _ (s₁.setTop (mkF m 9 _ []))
  refine Goes.go (fun _ kk => XS.iloadN X0.here hx rfl (hb hby d15_9) rfl kk) ?_
  show Goes _ _ _ _ _ _ _ (s₁.setTop (mkF m 10 _ [(.int p1)]))
  exact Goes.outI X0 hx hlk hret (hb hby d15_10) e0 ⟨rfl, N0, rfl⟩ (by decide) (by decide)
theorem d14_0 : decode jdk_48_method_27_code 0 = .ok (.iload_n 0, 1) := by decide +kernel
theorem d14_1 : decode jdk_48_method_27_code 1 = .ok (.iload_n 1, 1) := by decide +kernel
theorem d14_2 : decode jdk_48_method_27_code 2 = .ok (.iload_n 2, 1) := by decide +kernel
theorem d14_3 : decode jdk_48_method_27_code 3 = .ok (.invokestatic 194, 3) := by decide +kernel
theorem d14_6 : decode jdk_48_method_27_code 6 = .ok (.iadd, 1) := by decide +kernel
theorem d14_7 : decode jdk_48_method_27_code 7 = .ok (.istore_n 3, 1) := by decide +kernel
theorem d14_8 : decode jdk_48_method_27_code 8 = .ok (.iconst 0, 1) := by decide +kernel
theorem d14_9 : decode jdk_48_method_27_code 9 = .ok (.iload_n 3, 1) := by decide +kernel
theorem d14_10 : decode jdk_48_method_27_code 10 = .ok (.if_icmp .ge 11, 3) := by decide +kernel
theorem d14_13 : decode jdk_48_method_27_code 13 = .ok (.iload_n 3, 1) := by decide +kernel
theorem d14_14 : decode jdk_48_method_27_code 14 = .ok (.ldc 200, 2) := by decide +kernel
theorem d14_16 : decode jdk_48_method_27_code 16 = .ok (.if_icmp .gt 5, 3) := by decide +kernel
theorem d14_19 : decode jdk_48_method_27_code 19 = .ok (.iload_n 3, 1) := by decide +kernel
theorem d14_20 : decode jdk_48_method_27_code 20 = .ok (.ireturn, 1) := by decide +kernel
theorem d14_21 : decode jdk_48_method_27_code 21 = .ok (.iload_n 0, 1) := by decide +kernel
theorem d14_22 : decode jdk_48_method_27_code 22 = .ok (.iload_n 1, 1) := by decide +kernel
theorem d14_23 : decode jdk_48_method_27_code 23 = .ok (.invokestatic 201, 3) := by decide +kernel
theorem d14_26 : decode jdk_48_method_27_code 26 = .ok (.ireturn, 1) := by decide +kernel
theorem pn0 : plainName "jdk/internal/util/ArraysSupport" = true := by first | (simp [plainName, overriddenIn]; done) | decide +kernel
theorem ef_rmNL (m : MethodId) (p0 : Int32) (p1 : Int32) (p2 : Int32) : entryFrame m #[(.int p0), (.int p1), (.int p2)] 4 = mkF m 0 #[.val (.int p0), .val (.int p1), .val (.int p2), .unset] [] := by first | (simp [entryFrame, mkF, argsToLocals, Value.category]; done) | rfl
def Q_rmNL (Z : State) (p0 : Int32) (p1 : Int32) (p2 : Int32) (h0 : Heap) (n0 : Nat) (v : Option Value) (h : Heap) (L : List Loc) : Prop := v = some (.int (p0 + p2)) ∧ Fr n0 L ∧ h = h0
set_option maxRecDepth 65536 in
set_option maxHeartbeats 40000000 in
theorem rmNL (l : Launch) (Z : State) (a0 : Array Value) (hw : ∀ d ∈ tables_1, d.before a0 Z = true) (wsC : List Jvm.Cond) (p0 : Int32) (p1 : Int32) (p2 : Int32) (h0 : Heap) (n0 : Nat) (Z0 : n0 ≤ h0.size) (hlt : p1 < p2) (g1 : (0 : Int32) < p0 + p2) (g2 : ¬ (2147483639 : Int32) < p0 + p2) :
    MetFree l (⟨"jdk/internal/util/ArraysSupport", "newLength", "(III)I"⟩ : MethodName) (head1 (Jvm.Cond.code (⟨"jdk/internal/util/ArraysSupport", "newLength", "(III)I"⟩ : MethodName) jdk_48_method_27_code 4 (some .int) :: wsC) ({ frames := 1, cells := 0, slots := 0, locals := 16 } : Room)) (fun aa U => aa = #[(.int p0), (.int p1), (.int p2)] ∧ Z.Warmed39 U.vm ∧ U.heap = h0) (fun _ _ _ _ _ => True) (fun _ U oo U' => ∃ v L, oo = .returned v ∧ Q_rmNL Z p0 p1 p2 h0 n0 v U'.heap L ∧ FrameEnd U oo U' L ({ frames := 1, cells := 0, slots := 0, locals := 16 } : Room).cells ({ frames := 1, cells := 0, slots := 0, locals := 16 } : Room).slots) := by
  refine MetFree.of_bodySF (plainFor_of_name pn0) hisR ?_
  intro p e s m args below meth c s₁ Bd hml0 hP hK
  obtain ⟨rfl, hZ, hh⟩ := hP
  have hx := Bd.exec
  have hby := Bd.bytes
  have hml : c.maxLocals = 4 := hml0
  have hown : s.vm.findClass "jdk/internal/util/ArraysSupport" = some m.cls := findClass_of_methodNamed Bd.named
  have hnm := (name_of_methodNamed Bd.named Bd.method).1
  have hlk : meth.locks = false := Bd.notSynchronized
  have hret := Bd.returns
  have X0 : Stand p l e ({ frames := 1, cells := 0, slots := 0, locals := 16 } : Room) s m #[(.int p0), (.int p1), (.int p2)] below meth c s₁ [] 0 0 := Stand.of_body Bd
  have e0 : s₁.heap = h0 := by rw [← hh, Bd.state]; rfl
  have N0 := Fr.nil n0
  have K0 : Keep h0 h0 [] := Keep.refl _ _
  show Goes p e below s (Q_rmNL Z p0 p1 p2 h0 n0) ({ frames := 1, cells := 0, slots := 0, locals := 16 } : Room).cells ({ frames := 1, cells := 0, slots := 0, locals := 16 } : Room).slots _
  refine Goes.go (fun _ kk => castTop (ef_rmNL m p0 p1 p2) kk) ?_
  show Goes _ _ _ _ _ _ _ (s₁.setTop (mkF m 0 #[.val (.int p0), .val (.int p1), .val (.int p2), .unset] []))
  refine Goes.go (fun _ kk => XS.iloadN X0.here hx rfl (hb hby d14_0) rfl kk) ?_
  show Goes _ _ _ _ _ _ _ (s₁.setTop (mkF m 1 _ [(.int p0)]))
  refine Goes.go (fun _ kk => XS.iloadN X0.here hx rfl (hb hby d14_1) rfl kk) ?_
  show Goes _ _ _ _ _ _ _ (s₁.setTop (mkF m 2 _ [(.int p1), (.int p0)]))
  refine Goes.go (fun _ kk => XS.iloadN X0.here hx rfl (hb hby d14_2) rfl kk) ?_
  show Goes _ _ _ _ _ _ _ (s₁.setTop (mkF m 3 _ [(.int p2), (.int p1), (.int p0)]))
  obtain ⟨_, _, ⟨T1, L1, k1, n1⟩, -, X1, ⟨Lc1, hQ1, l1, y1, z1⟩, st1⟩ := Jvm.LawKit.callS X0 hx (y := (⟨"java/lang/Math", "max", "(II)I"⟩ : MethodName)) hown (mvT hZ (hw _ (List.mem_of_getElem? (i := 96) rfl))) (mvT hZ (hw _ (List.mem_of_getElem? (i := 97) rfl))) (mvT hZ (hw _ (List.mem_of_getElem? (i := 65) rfl))) (mvT hZ (hw _ (List.mem_of_getElem? (i := 98) rfl))) (by decide) (backOf (W := 1) (rmMax l Z a0 hw [] p1 p2 h0 n0 Z0 hlt) hZ (hw _ (List.mem_of_getElem? (i := 98) rfl)) (hw _ (List.mem_of_getElem? (i := 65) rfl)) (by decide) (by decide)) (g := (mkF m 3 #[.val (.int p0), .val (.int p1), .val (.int p2), .unset] [(.int p2), (.int p1), (.int p0)])) rfl (by rw [hml]; rfl) (argsL := [(.int p1), (.int p2)]) (rest := [(.int p0)]) (lenOf pd6 rfl) rfl (by show 2 * 0 + _ ≤ _; exact Nat.le_of_eq rfl) (hb hby d14_3) (fun _ _ => ⟨rfl, e0, (by decide : 0 + 0 ≤ _), (by decide : 0 + 0 ≤ _)⟩)
  dsimp only [Pt.U, Pt.locs, Pt.cells, Pt.slots] at X1 l1 y1 z1 st1 hQ1
  subst l1 y1 z1
  obtain ⟨rfl, Nq1, hh1⟩ := hQ1
  have N1 := Fr.app N0 Nq1
  refine Goes.go (st1) ?_
  show Goes _ _ _ _ _ _ _ (T1.setTop (mkF m 6 _ [(.int p2), (.int p0)]))
  refine Goes.go (fun _ kk => XS.iadd X1.here hx rfl (hb hby d14_6) rfl kk) ?_
  show Goes _ _ _ _ _ _ _ (T1.setTop (mkF m 7 _ [(.int (p0 + p2))]))
  refine Goes.go (fun _ kk => XS.istoreN X1.here hx rfl (hb hby d14_7) rfl (l' := #[.val (.int p0), .val (.int p1), .val (.int p2), .val (.int (p0 + p2))]) rfl kk) ?_
  show Goes _ _ _ _ _ _ _ (T1.setTop (mkF m 8 #[.val (.int p0), .val (.int p1), .val (.int p2), .val (.int (p0 + p2))] []))
  refine Goes.go (fun _ kk => XS.iconst X1.here hx rfl (hb hby d14_8) kk) ?_
  show Goes _ _ _ _ _ _ _ (T1.setTop (mkF m 9 _ [(.int (0 : Int32))]))
  refine Goes.go (fun _ kk => XS.iloadN X1.here hx rfl (hb hby d14_9) rfl kk) ?_
  show Goes _ _ _ _ _ _ _ (T1.setTop (mkF m 10 _ [(.int (p0 + p2)), (.int (0 : Int32))]))
  refine Goes.go (fun _ kk => XS.icmpNo X1.here hx rfl (hb hby d14_10) rfl (XT.ii_ge_f g1) kk) ?_
  show Goes _ _ _ _ _ _ _ (T1.setTop (mkF m 13 _ []))
  refine Goes.go (fun _ kk => XS.iloadN X1.here hx rfl (hb hby d14_13) rfl kk) ?_
  show Goes _ _ _ _ _ _ _ (T1.setTop (mkF m 14 _ [(.int (p0 + p2))]))
  refine Goes.go (fun _ kk => X1.ldcI hx (v := (2147483639 : Int32)) hown (mvT hZ (hw _ (List.mem_of_getElem? (i := 99) rfl))) rfl (hb hby d14_14) kk) ?_
  show Goes _ _ _ _ _ _ _ (T1.setTop (mkF m 16 _ [(.int (2147483639 : Int32)), (.int (p0 + p2))]))
  refine Goes.go (fun _ kk => XS.icmpNo X1.here hx rfl (hb hby d14_16) rfl (XT.ii_gt_f g2) kk) ?_
  show Goes _ _ _ _ _ _ _ (T1.setTop (mkF m 19 _ []))
  refine Goes.go (fun _ kk => XS.iloadN X1.here hx rfl (hb hby d14_19) rfl kk) ?_
  show Goes _ _ _ _ _ _ _ (T1.setTop (mkF m 20 _ [(.int (p0 + p2))]))
  exact Goes.outI X1 hx hlk hret (hb hby d14_20) hh1 ⟨rfl, N1, rfl⟩ (by decide) (by decide)
theorem d9_0 : decode jdk_65_method_121_code 0 = .ok (.iload_n 1, 1) := by decide +kernel
theorem d9_1 : decode jdk_65_method_121_code 1 = .ok (.aload_n 0, 1) := by decide +kernel
theorem d9_2 : decode jdk_65_method_121_code 2 = .ok (.arraylength, 1) := by decide +kernel
theorem d9_3 : decode jdk_65_method_121_code 3 = .ok (.if_icmp .ne 11, 3) := by decide +kernel
theorem d9_6 : decode jdk_65_method_121_code 6 = .ok (.aload_n 0, 1) := by decide +kernel
theorem d9_7 : decode jdk_65_method_121_code 7 = .ok (.invokevirtual 310, 3) := by decide +kernel
theorem d9_10 : decode jdk_65_method_121_code 10 = .ok (.checkcast 311, 3) := by decide +kernel
theorem d9_13 : decode jdk_65_method_121_code 13 = .ok (.areturn, 1) := by decide +kernel
theorem d9_14 : decode jdk_65_method_121_code 14 = .ok (.iload_n 1, 1) := by decide +kernel
theorem d9_15 : decode jdk_65_method_121_code 15 = .ok (.newarray .byte, 2) := by decide +kernel
theorem d9_17 : decode jdk_65_method_121_code 17 = .ok (.astore_n 2, 1) := by decide +kernel
theorem d9_18 : decode jdk_65_method_121_code 18 = .ok (.aload_n 0, 1) := by decide +kernel
theorem d9_19 : decode jdk_65_method_121_code 19 = .ok (.iconst 0, 1) := by decide +kernel
theorem d9_20 : decode jdk_65_method_121_code 20 = .ok (.aload_n 2, 1) := by decide +kernel
theorem d9_21 : decode jdk_65_method_121_code 21 = .ok (.iconst 0, 1) := by decide +kernel
theorem d9_22 : decode jdk_65_method_121_code 22 = .ok (.aload_n 0, 1) := by decide +kernel
theorem d9_23 : decode jdk_65_method_121_code 23 = .ok (.arraylength, 1) := by decide +kernel
theorem d9_24 : decode jdk_65_method_121_code 24 = .ok (.iload_n 1, 1) := by decide +kernel
theorem d9_25 : decode jdk_65_method_121_code 25 = .ok (.invokestatic 304, 3) := by decide +kernel
theorem d9_28 : decode jdk_65_method_121_code 28 = .ok (.invokestatic 150, 3) := by decide +kernel
theorem d9_31 : decode jdk_65_method_121_code 31 = .ok (.aload_n 2, 1) := by decide +kernel
theorem d9_32 : decode jdk_65_method_121_code 32 = .ok (.areturn, 1) := by decide +kernel
theorem pn1 : plainName "java/util/Arrays" = true := by first | (simp [plainName, overriddenIn]; done) | decide +kernel
theorem ef_rmC (m : MethodId) (bb : Addr) (p1 : Int32) : entryFrame m #[(.ref bb), (.int p1)] 3 = mkF m 0 #[.val (.ref bb), .val (.int p1), .unset] [] := by first | (simp [entryFrame, mkF, argsToLocals, Value.category]; done) | rfl
def Q_rmC (Z : State) (bb : Addr) (p1 : Int32) (xs : List Int8) (h0 : Heap) (n0 : Nat) (v : Option Value) (h : Heap) (L : List Loc) : Prop := ∃ x, v = some (.ref x) ∧ Fr n0 L ∧ Keep h0 h [] ∧ n0 ≤ x ∧ h0.size ≤ x ∧ Arl Z h x .byte (vB (cpo xs p1.toNatClampNeg)) ∧ Exa Z h x "[B"
set_option maxRecDepth 65536 in
set_option maxHeartbeats 40000000 in
theorem rmC (l : Launch) (Z : State) (a0 : Array Value) (hw : ∀ d ∈ tables_1, d.before a0 Z = true) (wsC : List Jvm.Cond) (bb : Addr) (p1 : Int32) (xs : List Int8) (h0 : Heap) (n0 : Nat) (Z0 : n0 ≤ h0.size) (A0 : Arl Z h0 bb .byte (vB xs)) (E0 : Exa Z h0 bb "[B") (hl : xs.length ≤ 32) (hn : ¬ p1 < 0) (hn2 : p1.toNatClampNeg ≤ 32) :
    MetFree l (⟨"java/util/Arrays", "copyOf", "([BI)[B"⟩ : MethodName) (head1 (Jvm.Cond.code (⟨"java/util/Arrays", "copyOf", "([BI)[B"⟩ : MethodName) jdk_65_method_121_code 3 (some (.array .byte)) :: wsC) ({ frames := 1, cells := 1, slots := 32, locals := 40 } : Room)) (fun aa U => aa = #[(.ref bb), (.int p1)] ∧ Z.Warmed39 U.vm ∧ U.heap = h0) (fun _ _ _ _ _ => True) (fun _ U oo U' => ∃ v L, oo = .returned v ∧ Q_rmC Z bb p1 xs h0 n0 v U'.heap L ∧ FrameEnd U oo U' L ({ frames := 1, cells := 1, slots := 32, locals := 40 } : Room).cells ({ frames := 1, cells := 1, slots := 32, locals := 40 } : Room).slots) := by
  refine MetFree.of_bodySF (plainFor_of_name pn1) hisR ?_
  intro p e s m args below meth c s₁ Bd hml0 hP hK
  obtain ⟨rfl, hZ, hh⟩ := hP
  have hx := Bd.exec
  have hby := Bd.bytes
  have hml : c.maxLocals = 3 := hml0
  have hown : s.vm.findClass "java/util/Arrays" = some m.cls := findClass_of_methodNamed Bd.named
  have hnm := (name_of_methodNamed Bd.named Bd.method).1
  have hlk : meth.locks = false := Bd.notSynchronized
  have hret := Bd.returns
  have X0 : Stand p l e ({ frames := 1, cells := 1, slots := 32, locals := 40 } : Room) s m #[(.ref bb), (.int p1)] below meth c s₁ [] 0 0 := Stand.of_body Bd
  have e0 : s₁.heap = h0 := by rw [← hh, Bd.state]; rfl
  have N0 := Fr.nil n0
  have K0 : Keep h0 h0 [] := Keep.refl _ _
  show Goes p e below s (Q_rmC Z bb p1 xs h0 n0) ({ frames := 1, cells := 1, slots := 32, locals := 40 } : Room).cells ({ frames := 1, cells := 1, slots := 32, locals := 40 } : Room).slots _
  refine Goes.go (fun _ kk => castTop (ef_rmC m bb p1) kk) ?_
  show Goes _ _ _ _ _ _ _ (s₁.setTop (mkF m 0 #[.val (.ref bb), .val (.int p1), .unset] []))
  refine Goes.go (fun _ kk => XS.iloadN X0.here hx rfl (hb hby d9_0) rfl kk) ?_
  show Goes _ _ _ _ _ _ _ (s₁.setTop (mkF m 1 _ [(.int p1)]))
  refine Goes.go (fun _ kk => XS.aloadN X0.here hx rfl (hb hby d9_1) rfl rfl kk) ?_
  show Goes _ _ _ _ _ _ _ (s₁.setTop (mkF m 2 _ [(.ref bb), (.int p1)]))
  refine Goes.go (own_len X0 hx hZ e0 A0 (n := xs.length.toInt32) (by rw [vB_len]) rfl rfl (hb hby d9_2)) ?_
  show Goes _ _ _ _ _ _ _ (s₁.setTop (mkF m 3 _ [(.int xs.length.toInt32), (.int p1)]))
  by_cases c3 : p1 = xs.length.toInt32
  · skip
    refine Goes.go (fun _ kk => XS.icmpNo X0.here hx rfl (hb hby d9_3) rfl (XT.ii_ne_f c3) kk) ?_
    show Goes _ _ _ _ _ _ _ (s₁.setTop (mkF m 6 _ []))
    refine Goes.go (fun _ kk => XS.aloadN X0.here hx rfl (hb hby d9_6) rfl rfl kk) ?_
    show Goes _ _ _ _ _ _ _ (s₁.setTop (mkF m 7 _ [(.ref bb)]))
    obtain ⟨T1, h1, X1, e1, E1, A1, Ex1, st1⟩ := own_cl X0 hx hZ hown (hw _ (List.mem_of_getElem? (i := 100) rfl)) (hw _ (List.mem_of_getElem? (i := 101) rfl)) (hw _ (List.mem_of_getElem? (i := 105) rfl)) (hw _ (List.mem_of_getElem? (i := 103) rfl)) (hw _ (List.mem_of_getElem? (i := 104) rfl)) (hw _ (List.mem_of_getElem? (i := 106) rfl)) e0 A0 E0 (g := (mkF m 7 #[.val (.ref bb), .val (.int p1), .unset] [(.ref bb)])) rfl (by rw [hml]; rfl) rfl (hb hby d9_7) (by decide) (W := 0) (cap := 32) (by show 2 * 0 + _ ≤ _; exact Nat.le_of_eq rfl) (by decide) hl (by decide) (by decide)
    obtain ⟨x7, gx7⟩ : ∃ z, z = h0.size := ⟨_, rfl⟩
    rw [← gx7] at A1 Ex1 st1
    have ne_bb_x7 : bb ≠ x7 := by rw [gx7]; exact Nat.ne_of_lt E0.lt
    have f := Exa.ext E1 E0
    have f_1 := A0.ext E1
    have Z1 : n0 ≤ h1.size := Nat.le_trans Z0 E1.1
    have ge_x7 : n0 ≤ x7 := Nat.le_trans Z0 (Nat.le_of_eq gx7.symm)
    have kge_x7 : h0.size ≤ x7 := by rw [gx7]; exact K0.1
    have K1 := K0.ext E1
    refine Goes.go (st1) ?_
    show Goes _ _ _ _ _ _ _ (T1.setTop (mkF m 10 _ [(.ref x7)]))
    obtain ⟨T2, X2, e2, st2⟩ := castY X1 hx hZ hown (hw _ (List.mem_of_getElem? (i := 107) rfl)) e1 (Ins.of_exa Ex1 (hw _ (List.mem_of_getElem? (i := 108) rfl))) (g := (mkF m 10 #[.val (.ref bb), .val (.int p1), .unset] [(.ref x7)])) rfl rfl (hb hby d9_10)
    refine Goes.go (st2) ?_
    show Goes _ _ _ _ _ _ _ (T2.setTop (mkF m 13 _ [(.ref x7)]))
    exact Goes.outA X2 hx hlk hret rfl rfl (hb hby d9_13) e2 ⟨x7, rfl, N0, K1, ge_x7, kge_x7, A1.eq (congrArg vB (own_cpo1 hl c3)), Ex1⟩ (by decide) (by decide)
  · skip
    refine Goes.go (fun _ kk => XS.icmpYes X0.here hx rfl (pc0 := 3) (pc' := 14) rfl (hb hby d9_3) rfl (XT.ii_ne_t c3) (by decide) (by decide) kk) ?_
    show Goes _ _ _ _ _ _ _ (s₁.setTop (mkF m 14 _ []))
    refine Goes.go (fun _ kk => XS.iloadN X0.here hx rfl (hb hby d9_14) rfl kk) ?_
    show Goes _ _ _ _ _ _ _ (s₁.setTop (mkF m 15 _ [(.int p1)]))
    obtain ⟨T1, h1, X1, e1, E1, A1, Ex1, st1⟩ := own_newPE X0 hx hZ (hw _ (List.mem_of_getElem? (i := 22) rfl)) e0 (g := (mkF m 15 #[.val (.ref bb), .val (.int p1), .unset] [(.int p1)])) rfl (hb hby d9_15) rfl (n := p1) hn (cap := 32) hn2 (by decide) (by decide) (by decide)
    obtain ⟨x15, gx15⟩ : ∃ z, z = h0.size := ⟨_, rfl⟩
    rw [← gx15] at A1 Ex1 st1
    have ne_bb_x15 : bb ≠ x15 := by rw [gx15]; exact Nat.ne_of_lt E0.lt
    have f := Exa.ext E1 E0
    have f_1 := A0.ext E1
    have Z1 : n0 ≤ h1.size := Nat.le_trans Z0 E1.1
    have ge_x15 : n0 ≤ x15 := Nat.le_trans Z0 (Nat.le_of_eq gx15.symm)
    have kge_x15 : h0.size ≤ x15 := by rw [gx15]; exact K0.1
    have K1 := K0.ext E1
    refine Goes.go (st1) ?_
    show Goes _ _ _ _ _ _ _ (T1.setTop (mkF m 17 _ [(.ref x15)]))
    refine Goes.go (fun _ kk => XS.astoreN X1.here hx rfl (hb hby d9_17) rfl rfl (l' := #[.val (.ref bb), .val (.int p1), .val (.ref x15)]) rfl kk) ?_
    show Goes _ _ _ _ _ _ _ (T1.setTop (mkF m 18 #[.val (.ref bb), .val (.int p1), .val (.ref x15)] []))
    refine Goes.go (fun _ kk => XS.aloadN X1.here hx rfl (hb hby d9_18) rfl rfl kk) ?_
    show Goes _ _ _ _ _ _ _ (T1.setTop (mkF m 19 _ [(.ref bb)]))
    refine Goes.go (fun _ kk => XS.iconst X1.here hx rfl (hb hby d9_19) kk) ?_
    show Goes _ _ _ _ _ _ _ (T1.setTop (mkF m 20 _ [(.int (0 : Int32)), (.ref bb)]))
    refine Goes.go (fun _ kk => XS.aloadN X1.here hx rfl (hb hby d9_20) rfl rfl kk) ?_
    show Goes _ _ _ _ _ _ _ (T1.setTop (mkF m 21 _ [(.ref x15), (.int (0 : Int32)), (.ref bb)]))
    refine Goes.go (fun _ kk => XS.iconst X1.here hx rfl (hb hby d9_21) kk) ?_
    show Goes _ _ _ _ _ _ _ (T1.setTop (mkF m 22 _ [(.int (0 : Int32)), (.ref x15), (.int (0 : Int32)), (.ref bb)]))
    refine Goes.go (fun _ kk => XS.aloadN X1.here hx rfl (hb hby d9_22) rfl rfl kk) ?_
    show Goes _ _ _ _ _ _ _ (T1.setTop (mkF m 23 _ [(.ref bb), (.int (0 : Int32)), (.ref x15), (.int (0 : Int32)), (.ref bb)]))
    refine Goes.go (own_len X1 hx hZ e1 f_1 (n := xs.length.toInt32) (by rw [vB_len]) rfl rfl (hb hby d9_23)) ?_
    show Goes _ _ _ _ _ _ _ (T1.setTop (mkF m 24 _ [(.int xs.length.toInt32), (.int (0 : Int32)), (.ref x15), (.int (0 : Int32)), (.ref bb)]))
    refine Goes.go (fun _ kk => XS.iloadN X1.here hx rfl (hb hby d9_24) rfl kk) ?_
    show Goes _ _ _ _ _ _ _ (T1.setTop (mkF m 25 _ [(.int p1), (.int xs.length.toInt32), (.int (0 : Int32)), (.ref x15), (.int (0 : Int32)), (.ref bb)]))
    obtain ⟨_, _, ⟨T2, L2, k2, n2⟩, -, X2, ⟨Lc2, hQ2, l2, y2, z2⟩, st2⟩ := Jvm.LawKit.callS X1 hx (y := (⟨"java/lang/Math", "min", "(II)I"⟩ : MethodName)) hown (mvT hZ (hw _ (List.mem_of_getElem? (i := 63) rfl))) (mvT hZ (hw _ (List.mem_of_getElem? (i := 64) rfl))) (mvT hZ (hw _ (List.mem_of_getElem? (i := 65) rfl))) (mvT hZ (hw _ (List.mem_of_getElem? (i := 66) rfl))) (by decide) (backOf (W := 4) (rmMin l Z a0 hw [] xs.length.toInt32 p1 h1 n0 Z1) hZ (hw _ (List.mem_of_getElem? (i := 66) rfl)) (hw _ (List.mem_of_getElem? (i := 65) rfl)) (by decide) (by decide)) (g := (mkF m 25 #[.val (.ref bb), .val (.int p1), .val (.ref x15)] [(.int p1), (.int xs.length.toInt32), (.int (0 : Int32)), (.ref x15), (.int (0 : Int32)), (.ref bb)])) rfl (by rw [hml]; rfl) (argsL := [(.int xs.length.toInt32), (.int p1)]) (rest := [(.int (0 : Int32)), (.ref x15), (.int (0 : Int32)), (.ref bb)]) (lenOf pd6 rfl) rfl (by show 2 * 0 + _ ≤ _; exact Nat.le_of_eq rfl) (hb hby d9_25) (fun _ _ => ⟨rfl, e1, (by decide : 1 + 0 ≤ _), (by decide : 32 + 0 ≤ _)⟩)
    dsimp only [Pt.U, Pt.locs, Pt.cells, Pt.slots] at X2 l2 y2 z2 st2 hQ2
    subst l2 y2 z2
    obtain ⟨rfl, Nq2, hh2⟩ := hQ2
    have N2 := Fr.app N0 Nq2
    refine Goes.go (st2) ?_
    show Goes _ _ _ _ _ _ _ (T2.setTop (mkF m 28 _ [(.int (if p1 < xs.length.toInt32 then p1 else xs.length.toInt32)), (.int (0 : Int32)), (.ref x15), (.int (0 : Int32)), (.ref bb)]))
    obtain ⟨q3a, q3b, q3c⟩ := own_min hl hn hn2
    obtain ⟨T3, h3, L3, X3, e3, N3, Kq3, A3, st3⟩ := own_cp X2 hx hZ hown (hw _ (List.mem_of_getElem? (i := 67) rfl)) (hw _ (List.mem_of_getElem? (i := 70) rfl)) (hw _ (List.mem_of_getElem? (i := 68) rfl)) (hw _ (List.mem_of_getElem? (i := 69) rfl)) hh2 (nn := (if p1 < xs.length.toInt32 then p1 else xs.length.toInt32)) f_1 A1 (Nat.le_trans hl (by decide)) (Nat.le_trans hn2 (by decide)) q3a q3b q3c N2 ge_x15 (g := (mkF m 28 #[.val (.ref bb), .val (.int p1), .val (.ref x15)] [(.int (if p1 < xs.length.toInt32 then p1 else xs.length.toInt32)), (.int (0 : Int32)), (.ref x15), (.int (0 : Int32)), (.ref bb)])) rfl (by rw [hml]; rfl) rfl (hb hby d9_28) (by decide) (W := 0) (by show 2 * 0 + _ ≤ _; exact Nat.le_of_eq rfl) (by decide)
    have Z3 : n0 ≤ h3.size := Nat.le_trans Z1 Kq3.1
    have Ex3 := Exa.keep Ex1 Kq3
    have K3 := K1.trans Kq3 (allS (Or.inr kge_x15) all0)
    refine Goes.go (st3) ?_
    show Goes _ _ _ _ _ _ _ (T3.setTop (mkF m 31 _ []))
    refine Goes.go (fun _ kk => XS.aloadN X3.here hx rfl (hb hby d9_31) rfl rfl kk) ?_
    show Goes _ _ _ _ _ _ _ (T3.setTop (mkF m 32 _ [(.ref x15)]))
    exact Goes.outA X3 hx hlk hret rfl rfl (hb hby d9_32) e3 ⟨x15, rfl, N3, K3, ge_x15, kge_x15, A3.eq (congrArg vB (own_cpo2 hl hn hn2)), Ex3⟩ (by decide) (by decide)
theorem d7_0 : decode jdk_2005_method_3_code 0 = .ok (.aload_n 0, 1) := by decide +kernel
theorem d7_1 : decode jdk_2005_method_3_code 1 = .ok (.getfield 33, 3) := by decide +kernel
theorem d7_4 : decode jdk_2005_method_3_code 4 = .ok (.arraylength, 1) := by decide +kernel
theorem d7_5 : decode jdk_2005_method_3_code 5 = .ok (.istore_n 2, 1) := by decide +kernel
theorem d7_6 : decode jdk_2005_method_3_code 6 = .ok (.iload_n 1, 1) := by decide +kernel
theorem d7_7 : decode jdk_2005_method_3_code 7 = .ok (.iload_n 2, 1) := by decide +kernel
theorem d7_8 : decode jdk_2005_method_3_code 8 = .ok (.isub, 1) := by decide +kernel
theorem d7_9 : decode jdk_2005_method_3_code 9 = .ok (.istore_n 3, 1) := by decide +kernel
theorem d7_10 : decode jdk_2005_method_3_code 10 = .ok (.iload_n 3, 1) := by decide +kernel
theorem d7_11 : decode jdk_2005_method_3_code 11 = .ok (.ifCond .le 20, 3) := by decide +kernel
theorem d7_14 : decode jdk_2005_method_3_code 14 = .ok (.aload_n 0, 1) := by decide +kernel
theorem d7_15 : decode jdk_2005_method_3_code 15 = .ok (.aload_n 0, 1) := by decide +kernel
theorem d7_16 : decode jdk_2005_method_3_code 16 = .ok (.getfield 33, 3) := by decide +kernel
theorem d7_19 : decode jdk_2005_method_3_code 19 = .ok (.iload_n 2, 1) := by decide +kernel
theorem d7_20 : decode jdk_2005_method_3_code 20 = .ok (.iload_n 3, 1) := by decide +kernel
theorem d7_21 : decode jdk_2005_method_3_code 21 = .ok (.iload_n 2, 1) := by decide +kernel
theorem d7_22 : decode jdk_2005_method_3_code 22 = .ok (.invokestatic 37, 3) := by decide +kernel
theorem d7_25 : decode jdk_2005_method_3_code 25 = .ok (.invokestatic 43, 3) := by decide +kernel
theorem d7_28 : decode jdk_2005_method_3_code 28 = .ok (.putfield 33, 3) := by decide +kernel
theorem d7_31 : decode jdk_2005_method_3_code 31 = .ok (.return_, 1) := by decide +kernel
theorem pn2 : plainName "java/io/ByteArrayOutputStream" = true := by first | (simp [plainName, overriddenIn]; done) | decide +kernel
theorem ef_rmE0 (m : MethodId) (a : Addr) (p0 : Int32) : entryFrame m #[(.ref a), (.int p0)] 4 = mkF m 0 #[.val (.ref a), .val (.int p0), .unset, .unset] [] := by first | (simp [entryFrame, mkF, argsToLocals, Value.category]; done) | rfl
def Q_rmE0 (Z : State) (a : Addr) (p0 : Int32) (bb : Addr) (xs : List Int8) (h0 : Heap) (n0 : Nat) (v : Option Value) (h : Heap) (L : List Loc) : Prop := v = none ∧ Fr n0 L ∧ h = h0
set_option maxRecDepth 65536 in
set_option maxHeartbeats 40000000 in
theorem rmE0 (l : Launch) (Z : State) (a0 : Array Value) (hw : ∀ d ∈ tables_1, d.before a0 Z = true) (wsC : List Jvm.Cond) (a : Addr) (p0 : Int32) (bb : Addr) (xs : List Int8) (h0 : Heap) (n0 : Nat) (Z0 : n0 ≤ h0.size) (Fb : Fld Z h0 a "java/io/ByteArrayOutputStream" "buf" "[B" (.ref bb)) (A0 : Arl Z h0 bb .byte (vB xs)) (hd : ¬ (0 : Int32) < p0 - xs.length.toInt32) :
    MetFree l (⟨"java/io/ByteArrayOutputStream", "ensureCapacity", "(I)V"⟩ : MethodName) (head1 (Jvm.Cond.code (⟨"java/io/ByteArrayOutputStream", "ensureCapacity", "(I)V"⟩ : MethodName) jdk_2005_method_3_code 4 none :: wsC) ({ frames := 0, cells := 0, slots := 0, locals := 0 } : Room)) (fun aa U => aa = #[(.ref a), (.int p0)] ∧ Z.Warmed39 U.vm ∧ U.heap = h0) (fun _ _ _ _ _ => True) (fun _ U oo U' => ∃ v L, oo = .returned v ∧ Q_rmE0 Z a p0 bb xs h0 n0 v U'.heap L ∧ FrameEnd U oo U' L ({ frames := 0, cells := 0, slots := 0, locals := 0 } : Room).cells ({ frames := 0, cells := 0, slots := 0, locals := 0 } : Room).slots) := by
  refine MetFree.of_bodySF (plainFor_of_name pn2) hisR ?_
  intro p e s m args below meth c s₁ Bd hml0 hP hK
  obtain ⟨rfl, hZ, hh⟩ := hP
  have hx := Bd.exec
  have hby := Bd.bytes
  have hml : c.maxLocals = 4 := hml0
  have hown : s.vm.findClass "java/io/ByteArrayOutputStream" = some m.cls := findClass_of_methodNamed Bd.named
  have hnm := (name_of_methodNamed Bd.named Bd.method).1
  have hlk : meth.locks = false := Bd.notSynchronized
  have hret := Bd.returns
  have X0 : Stand p l e ({ frames := 0, cells := 0, slots := 0, locals := 0 } : Room) s m #[(.ref a), (.int p0)] below meth c s₁ [] 0 0 := Stand.of_body Bd
  have e0 : s₁.heap = h0 := by rw [← hh, Bd.state]; rfl
  have N0 := Fr.nil n0
  have K0 : Keep h0 h0 [] := Keep.refl _ _
  show Goes p e below s (Q_rmE0 Z a p0 bb xs h0 n0) ({ frames := 0, cells := 0, slots := 0, locals := 0 } : Room).cells ({ frames := 0, cells := 0, slots := 0, locals := 0 } : Room).slots _
  refine Goes.go (fun _ kk => castTop (ef_rmE0 m a p0) kk) ?_
  show Goes _ _ _ _ _ _ _ (s₁.setTop (mkF m 0 #[.val (.ref a), .val (.int p0), .unset, .unset] []))
  refine Goes.go (fun _ kk => XS.aloadN X0.here hx rfl (hb hby d7_0) rfl rfl kk) ?_
  show Goes _ _ _ _ _ _ _ (s₁.setTop (mkF m 1 _ [(.ref a)]))
  obtain ⟨T1, X1, e1, st1⟩ := getF X0 hx hZ hown (host := "") (Or.inl (hw _ (List.mem_of_getElem? (i := 23) rfl))) Via.refl e0 Fb (g := (mkF m 1 #[.val (.ref a), .val (.int p0), .unset, .unset] [(.ref a)])) rfl rfl (hb hby d7_1)
  refine Goes.go (st1) ?_
  show Goes _ _ _ _ _ _ _ (T1.setTop (mkF m 4 _ [(.ref bb)]))
  refine Goes.go (own_len X1 hx hZ e1 A0 (n := xs.length.toInt32) (by rw [vB_len]) rfl rfl (hb hby d7_4)) ?_
  show Goes _ _ _ _ _ _ _ (T1.setTop (mkF m 5 _ [(.int xs.length.toInt32)]))
  refine Goes.go (fun _ kk => XS.istoreN X1.here hx rfl (hb hby d7_5) rfl (l' := #[.val (.ref a), .val (.int p0), .val (.int xs.length.toInt32), .unset]) rfl kk) ?_
  show Goes _ _ _ _ _ _ _ (T1.setTop (mkF m 6 #[.val (.ref a), .val (.int p0), .val (.int xs.length.toInt32), .unset] []))
  refine Goes.go (fun _ kk => XS.iloadN X1.here hx rfl (hb hby d7_6) rfl kk) ?_
  show Goes _ _ _ _ _ _ _ (T1.setTop (mkF m 7 _ [(.int p0)]))
  refine Goes.go (fun _ kk => XS.iloadN X1.here hx rfl (hb hby d7_7) rfl kk) ?_
  show Goes _ _ _ _ _ _ _ (T1.setTop (mkF m 8 _ [(.int xs.length.toInt32), (.int p0)]))
  refine Goes.go (fun _ kk => XS.isub X1.here hx rfl (hb hby d7_8) rfl kk) ?_
  show Goes _ _ _ _ _ _ _ (T1.setTop (mkF m 9 _ [(.int (p0 - xs.length.toInt32))]))
  refine Goes.go (fun _ kk => XS.istoreN X1.here hx rfl (hb hby d7_9) rfl (l' := #[.val (.ref a), .val (.int p0), .val (.int xs.length.toInt32), .val (.int (p0 - xs.length.toInt32))]) rfl kk) ?_
  show Goes _ _ _ _ _ _ _ (T1.setTop (mkF m 10 #[.val (.ref a), .val (.int p0), .val (.int xs.length.toInt32), .val (.int (p0 - xs.length.toInt32))] []))
  refine Goes.go (fun _ kk => XS.iloadN X1.here hx rfl (hb hby d7_10) rfl kk) ?_
  show Goes _ _ _ _ _ _ _ (T1.setTop (mkF m 11 _ [(.int (p0 - xs.length.toInt32))]))
  refine Goes.go (fun _ kk => XS.ifYes X1.here hx rfl (pc0 := 11) (pc' := 31) rfl (hb hby d7_11) rfl (XT.i0_le_t hd) (by decide) (by decide) kk) ?_
  show Goes _ _ _ _ _ _ _ (T1.setTop (mkF m 31 _ []))
  exact Goes.outV X1 hx hlk hret (hb hby d7_31) e1 ⟨rfl, N0, rfl⟩ (by decide) (by decide)
theorem ef_rmE1 (m : MethodId) (a : Addr) (p0 : Int32) : entryFrame m #[(.ref a), (.int p0)] 4 = mkF m 0 #[.val (.ref a), .val (.int p0), .unset, .unset] [] := by first | (simp [entryFrame, mkF, argsToLocals, Value.category]; done) | rfl
def Q_rmE1 (Z : State) (a : Addr) (p0 : Int32) (bb : Addr) (ws : List Int8) (h0 : Heap) (n0 : Nat) (v : Option Value) (h : Heap) (L : List Loc) : Prop := v = none ∧ Fr n0 L ∧ ∃ x, Keep h0 h [a] ∧ n0 ≤ x ∧ h0.size ≤ x ∧ Exa Z h a "java/io/ByteArrayOutputStream" ∧ Fld Z h a "java/io/ByteArrayOutputStream" "buf" "[B" (.ref x) ∧ Fld Z h a "java/io/ByteArrayOutputStream" "count" "I" (.int ws.length.toInt32) ∧ Arl Z h x .byte (vB (cpo ws (ws.length.toInt32 + ws.length.toInt32).toNatClampNeg)) ∧ Exa Z h x "[B"
set_option maxRecDepth 65536 in
set_option maxHeartbeats 40000000 in
theorem rmE1 (l : Launch) (Z : State) (a0 : Array Value) (hw : ∀ d ∈ tables_1, d.before a0 Z = true) (wsC : List Jvm.Cond) (a : Addr) (p0 : Int32) (bb : Addr) (ws : List Int8) (h0 : Heap) (n0 : Nat) (Z0 : n0 ≤ h0.size) (E0 : Exa Z h0 a "java/io/ByteArrayOutputStream") (Fb : Fld Z h0 a "java/io/ByteArrayOutputStream" "buf" "[B" (.ref bb)) (Fc : Fld Z h0 a "java/io/ByteArrayOutputStream" "count" "I" (.int ws.length.toInt32)) (A0 : Arl Z h0 bb .byte (vB ws)) (Eb : Exa Z h0 bb "[B") (ga : n0 ≤ a) (hk : ws.length = 4 ∨ ws.length = 8 ∨ ws.length = 16) (hp : p0 = ws.length.toInt32 + (1 : Int32)) :
    MetFree l (⟨"java/io/ByteArrayOutputStream", "ensureCapacity", "(I)V"⟩ : MethodName) (head1 (Jvm.Cond.code (⟨"java/io/ByteArrayOutputStream", "ensureCapacity", "(I)V"⟩ : MethodName) jdk_2005_method_3_code 4 none :: wsC) ({ frames := 2, cells := 1, slots := 32, locals := 56 } : Room)) (fun aa U => aa = #[(.ref a), (.int p0)] ∧ Z.Warmed39 U.vm ∧ U.heap = h0) (fun _ _ _ _ _ => True) (fun _ U oo U' => ∃ v L, oo = .returned v ∧ Q_rmE1 Z a p0 bb ws h0 n0 v U'.heap L ∧ FrameEnd U oo U' L ({ frames := 2, cells := 1, slots := 32, locals := 56 } : Room).cells ({ frames := 2, cells := 1, slots := 32, locals := 56 } : Room).slots) := by
  refine MetFree.of_bodySF (plainFor_of_name pn2) hisR ?_
  intro p e s m args below meth c s₁ Bd hml0 hP hK
  obtain ⟨rfl, hZ, hh⟩ := hP
  have hx := Bd.exec
  have hby := Bd.bytes
  have hml : c.maxLocals = 4 := hml0
  have hown : s.vm.findClass "java/io/ByteArrayOutputStream" = some m.cls := findClass_of_methodNamed Bd.named
  have hnm := (name_of_methodNamed Bd.named Bd.method).1
  have hlk : meth.locks = false := Bd.notSynchronized
  have hret := Bd.returns
  have X0 : Stand p l e ({ frames := 2, cells := 1, slots := 32, locals := 56 } : Room) s m #[(.ref a), (.int p0)] below meth c s₁ [] 0 0 := Stand.of_body Bd
  have e0 : s₁.heap = h0 := by rw [← hh, Bd.state]; rfl
  have N0 := Fr.nil n0
  have K0 : Keep h0 h0 [a] := Keep.refl _ _
  show Goes p e below s (Q_rmE1 Z a p0 bb ws h0 n0) ({ frames := 2, cells := 1, slots := 32, locals := 56 } : Room).cells ({ frames := 2, cells := 1, slots := 32, locals := 56 } : Room).slots _
  refine Goes.go (fun _ kk => castTop (ef_rmE1 m a p0) kk) ?_
  have ne_a_bb : a ≠ bb := ne_exa E0 Eb (by decide)
  obtain ⟨q1, q2, q3, q4, q5, q6⟩ := own_g hk
  rw [← hp] at q1 q2
  show Goes _ _ _ _ _ _ _ (s₁.setTop (mkF m 0 #[.val (.ref a), .val (.int p0), .unset, .unset] []))
  refine Goes.go (fun _ kk => XS.aloadN X0.here hx rfl (hb hby d7_0) rfl rfl kk) ?_
  show Goes _ _ _ _ _ _ _ (s₁.setTop (mkF m 1 _ [(.ref a)]))
  obtain ⟨T1, X1, e1, st1⟩ := getF X0 hx hZ hown (host := "") (Or.inl (hw _ (List.mem_of_getElem? (i := 23) rfl))) Via.refl e0 Fb (g := (mkF m 1 #[.val (.ref a), .val (.int p0), .unset, .unset] [(.ref a)])) rfl rfl (hb hby d7_1)
  refine Goes.go (st1) ?_
  show Goes _ _ _ _ _ _ _ (T1.setTop (mkF m 4 _ [(.ref bb)]))
  refine Goes.go (own_len X1 hx hZ e1 A0 (n := ws.length.toInt32) (by rw [vB_len]) rfl rfl (hb hby d7_4)) ?_
  show Goes _ _ _ _ _ _ _ (T1.setTop (mkF m 5 _ [(.int ws.length.toInt32)]))
  refine Goes.go (fun _ kk => XS.istoreN X1.here hx rfl (hb hby d7_5) rfl (l' := #[.val (.ref a), .val (.int p0), .val (.int ws.length.toInt32), .unset]) rfl kk) ?_
  show Goes _ _ _ _ _ _ _ (T1.setTop (mkF m 6 #[.val (.ref a), .val (.int p0), .val (.int ws.length.toInt32), .unset] []))
  refine Goes.go (fun _ kk => XS.iloadN X1.here hx rfl (hb hby d7_6) rfl kk) ?_
  show Goes _ _ _ _ _ _ _ (T1.setTop (mkF m 7 _ [(.int p0)]))
  refine Goes.go (fun _ kk => XS.iloadN X1.here hx rfl (hb hby d7_7) rfl kk) ?_
  show Goes _ _ _ _ _ _ _ (T1.setTop (mkF m 8 _ [(.int ws.length.toInt32), (.int p0)]))
  refine Goes.go (fun _ kk => XS.isub X1.here hx rfl (hb hby d7_8) rfl kk) ?_
  show Goes _ _ _ _ _ _ _ (T1.setTop (mkF m 9 _ [(.int (p0 - ws.length.toInt32))]))
  refine Goes.go (fun _ kk => XS.istoreN X1.here hx rfl (hb hby d7_9) rfl (l' := #[.val (.ref a), .val (.int p0), .val (.int ws.length.toInt32), .val (.int (p0 - ws.length.toInt32))]) rfl kk) ?_
  show Goes _ _ _ _ _ _ _ (T1.setTop (mkF m 10 #[.val (.ref a), .val (.int p0), .val (.int ws.length.toInt32), .val (.int (p0 - ws.length.toInt32))] []))
  refine Goes.go (fun _ kk => XS.iloadN X1.here hx rfl (hb hby d7_10) rfl kk) ?_
  show Goes _ _ _ _ _ _ _ (T1.setTop (mkF m 11 _ [(.int (p0 - ws.length.toInt32))]))
  refine Goes.go (fun _ kk => XS.ifNo X1.here hx rfl (hb hby d7_11) rfl (XT.i0_le_f q1) kk) ?_
  show Goes _ _ _ _ _ _ _ (T1.setTop (mkF m 14 _ []))
  refine Goes.go (fun _ kk => XS.aloadN X1.here hx rfl (hb hby d7_14) rfl rfl kk) ?_
  show Goes _ _ _ _ _ _ _ (T1.setTop (mkF m 15 _ [(.ref a)]))
  refine Goes.go (fun _ kk => XS.aloadN X1.here hx rfl (hb hby d7_15) rfl rfl kk) ?_
  show Goes _ _ _ _ _ _ _ (T1.setTop (mkF m 16 _ [(.ref a), (.ref a)]))
  obtain ⟨T2, X2, e2, st2⟩ := getF X1 hx hZ hown (host := "") (Or.inl (hw _ (List.mem_of_getElem? (i := 23) rfl))) Via.refl e1 Fb (g := (mkF m 16 #[.val (.ref a), .val (.int p0), .val (.int ws.length.toInt32), .val (.int (p0 - ws.length.toInt32))] [(.ref a), (.ref a)])) rfl rfl (hb hby d7_16)
  refine Goes.go (st2) ?_
  show Goes _ _ _ _ _ _ _ (T2.setTop (mkF m 19 _ [(.ref bb), (.ref a)]))
  refine Goes.go (fun _ kk => XS.iloadN X2.here hx rfl (hb hby d7_19) rfl kk) ?_
  show Goes _ _ _ _ _ _ _ (T2.setTop (mkF m 20 _ [(.int ws.length.toInt32), (.ref bb), (.ref a)]))
  refine Goes.go (fun _ kk => XS.iloadN X2.here hx rfl (hb hby d7_20) rfl kk) ?_
  show Goes _ _ _ _ _ _ _ (T2.setTop (mkF m 21 _ [(.int (p0 - ws.length.toInt32)), (.int ws.length.toInt32), (.ref bb), (.ref a)]))
  refine Goes.go (fun _ kk => XS.iloadN X2.here hx rfl (hb hby d7_21) rfl kk) ?_
  show Goes _ _ _ _ _ _ _ (T2.setTop (mkF m 22 _ [(.int ws.length.toInt32), (.int (p0 - ws.length.toInt32)), (.int ws.length.toInt32), (.ref bb), (.ref a)]))
  obtain ⟨_, _, ⟨T3, L3, k3, n3⟩, -, X3, ⟨Lc3, hQ3, l3, y3, z3⟩, st3⟩ := Jvm.LawKit.callS X2 hx (y := (⟨"jdk/internal/util/ArraysSupport", "newLength", "(III)I"⟩ : MethodName)) hown (mvT hZ (hw _ (List.mem_of_getElem? (i := 92) rfl))) (mvT hZ (hw _ (List.mem_of_getElem? (i := 93) rfl))) (mvT hZ (hw _ (List.mem_of_getElem? (i := 94) rfl))) (mvT hZ (hw _ (List.mem_of_getElem? (i := 95) rfl))) (by decide) (backOf (W := 2) (rmNL l Z a0 hw [] ws.length.toInt32 (p0 - ws.length.toInt32) ws.length.toInt32 h0 n0 Z0 q2 q3 q4) hZ (hw _ (List.mem_of_getElem? (i := 95) rfl)) (hw _ (List.mem_of_getElem? (i := 94) rfl)) (by decide) (by decide)) (g := (mkF m 22 #[.val (.ref a), .val (.int p0), .val (.int ws.length.toInt32), .val (.int (p0 - ws.length.toInt32))] [(.int ws.length.toInt32), (.int (p0 - ws.length.toInt32)), (.int ws.length.toInt32), (.ref bb), (.ref a)])) rfl (by rw [hml]; rfl) (argsL := [(.int ws.length.toInt32), (.int (p0 - ws.length.toInt32)), (.int ws.length.toInt32)]) (rest := [(.ref bb), (.ref a)]) (lenOf pd9 rfl) rfl (by show 2 * 0 + _ ≤ _; exact Nat.le_of_eq rfl) (hb hby d7_22) (fun _ _ => ⟨rfl, e2, (by decide : 0 + 0 ≤ _), (by decide : 0 + 0 ≤ _)⟩)
  dsimp only [Pt.U, Pt.locs, Pt.cells, Pt.slots] at X3 l3 y3 z3 st3 hQ3
  subst l3 y3 z3
  obtain ⟨rfl, Nq3, hh3⟩ := hQ3
  have N3 := Fr.app N0 Nq3
  refine Goes.go (st3) ?_
  show Goes _ _ _ _ _ _ _ (T3.setTop (mkF m 25 _ [(.int (ws.length.toInt32 + ws.length.toInt32)), (.ref bb), (.ref a)]))
  obtain ⟨_, _, ⟨T4, L4, k4, n4⟩, -, X4, ⟨Lc4, hQ4, l4, y4, z4⟩, st4⟩ := Jvm.LawKit.callS X3 hx (y := (⟨"java/util/Arrays", "copyOf", "([BI)[B"⟩ : MethodName)) hown (mvT hZ (hw _ (List.mem_of_getElem? (i := 59) rfl))) (mvT hZ (hw _ (List.mem_of_getElem? (i := 60) rfl))) (mvT hZ (hw _ (List.mem_of_getElem? (i := 61) rfl))) (mvT hZ (hw _ (List.mem_of_getElem? (i := 62) rfl))) (by decide) (backOf (W := 1) (rmC l Z a0 hw [] bb (ws.length.toInt32 + ws.length.toInt32) ws h0 n0 Z0 A0 Eb (by omega) q5 (by omega)) hZ (hw _ (List.mem_of_getElem? (i := 62) rfl)) (hw _ (List.mem_of_getElem? (i := 61) rfl)) (by decide) (by decide)) (g := (mkF m 25 #[.val (.ref a), .val (.int p0), .val (.int ws.length.toInt32), .val (.int (p0 - ws.length.toInt32))] [(.int (ws.length.toInt32 + ws.length.toInt32)), (.ref bb), (.ref a)])) rfl (by rw [hml]; rfl) (argsL := [(.ref bb), (.int (ws.length.toInt32 + ws.length.toInt32))]) (rest := [(.ref a)]) (lenOf pd5 rfl) rfl (by show 2 * 0 + _ ≤ _; exact Nat.le_of_eq rfl) (hb hby d7_25) (fun _ _ => ⟨rfl, hh3, (by decide : 0 + 1 ≤ _), (by decide : 0 + 32 ≤ _)⟩)
  dsimp only [Pt.U, Pt.locs, Pt.cells, Pt.slots] at X4 l4 y4 z4 st4 hQ4
  subst l4 y4 z4
  obtain ⟨x4, rfl, Nq4, Kq4, gq4, kq4, Aq4, Eq4⟩ := hQ4
  have N4 := Fr.app N3 Nq4
  have Z4 : n0 ≤ T4.heap.size := Nat.le_trans Z0 Kq4.1
  have ne_a_x4 : a ≠ x4 := Nat.ne_of_lt (Nat.lt_of_lt_of_le E0.lt kq4)
  have ne_bb_x4 : bb ≠ x4 := Nat.ne_of_lt (Nat.lt_of_lt_of_le A0.lt kq4)
  have f := Exa.keep E0 Kq4
  have f_1 := Fld.keep Fb Kq4 nin0
  have f_2 := Fld.keep Fc Kq4 nin0
  have f_3 := Arl.keep A0 Kq4 nin0
  have f_4 := Exa.keep Eb Kq4
  have kge_x4 : h0.size ≤ x4 := Nat.le_trans K0.1 kq4
  have K4 := K0.trans Kq4 all0
  refine Goes.go (st4) ?_
  show Goes _ _ _ _ _ _ _ (T4.setTop (mkF m 28 _ [(.ref x4), (.ref a)]))
  obtain ⟨T5, h5, X5, e5, W5, st5⟩ := putF X4 hx hZ hown (host := "") (Or.inl (hw _ (List.mem_of_getElem? (i := 23) rfl))) Via.refl rfl f_1 f (Or.inl (hw _ (List.mem_of_getElem? (i := 24) rfl))) (hw _ (List.mem_of_getElem? (i := 10) rfl)) (ty := (.array .byte)) (by decide) rfl rfl (g := (mkF m 28 #[.val (.ref a), .val (.int p0), .val (.int ws.length.toInt32), .val (.int (p0 - ws.length.toInt32))] [(.ref x4), (.ref a)])) rfl rfl (hb hby d7_28)
  have N5 := Fr.snoc X5 N4 ga
  have f_5 := Exa.wr W5 f
  have f_6 := Fld.other W5 f_2 (Or.inr (slot_ne (Or.inl (hw _ (List.mem_of_getElem? (i := 43) rfl))) (Or.inl (hw _ (List.mem_of_getElem? (i := 24) rfl))) (by decide) (t := .int) (t' := (.array .byte)) (by decide) (by decide)))
  have f_7 := Arl.other f_3 W5 ne_a_bb.symm
  have f_8 := Exa.wr W5 f_4
  have f_9 := Exa.wr W5 Eq4
  have f_10 := Arl.other Aq4 W5 ne_a_x4.symm
  have f_11 := Fld.same W5 f_1
  have Z5 : n0 ≤ h5.size := by rw [W5.size]; exact Z4
  have K5 := K4.wr W5 (Or.inl (List.mem_of_getElem? (i := 0) rfl))
  refine Goes.go (st5) ?_
  show Goes _ _ _ _ _ _ _ (T5.setTop (mkF m 31 _ []))
  exact Goes.outV X5 hx hlk hret (hb hby d7_31) e5 ⟨rfl, N5, x4, K5, gq4, kge_x4, f_5, f_11, f_6, f_10, f_9⟩ (by decide) (by decide)
theorem d107_0 : decode jdk_2005_method_4_code 0 = .ok (.aload_n 0, 1) := by decide +kernel
theorem d107_1 : decode jdk_2005_method_4_code 1 = .ok (.aload_n 0, 1) := by decide +kernel
theorem d107_2 : decode jdk_2005_method_4_code 2 = .ok (.getfield 49, 3) := by decide +kernel
theorem d107_5 : decode jdk_2005_method_4_code 5 = .ok (.iconst 1, 1) := by decide +kernel
theorem d107_6 : decode jdk_2005_method_4_code 6 = .ok (.iadd, 1) := by decide +kernel
theorem d107_7 : decode jdk_2005_method_4_code 7 = .ok (.invokevirtual 53, 3) := by decide +kernel
theorem d107_10 : decode jdk_2005_method_4_code 10 = .ok (.aload_n 0, 1) := by decide +kernel
theorem d107_11 : decode jdk_2005_method_4_code 11 = .ok (.getfield 33, 3) := by decide +kernel
theorem d107_14 : decode jdk_2005_method_4_code 14 = .ok (.aload_n 0, 1) := by decide +kernel
theorem d107_15 : decode jdk_2005_method_4_code 15 = .ok (.getfield 49, 3) := by decide +kernel
theorem d107_18 : decode jdk_2005_method_4_code 18 = .ok (.iload_n 1, 1) := by decide +kernel
theorem d107_19 : decode jdk_2005_method_4_code 19 = .ok (.i2b, 1) := by decide +kernel
theorem d107_20 : decode jdk_2005_method_4_code 20 = .ok (.bastore, 1) := by decide +kernel
theorem d107_21 : decode jdk_2005_method_4_code 21 = .ok (.aload_n 0, 1) := by decide +kernel
theorem d107_22 : decode jdk_2005_method_4_code 22 = .ok (.dup, 1) := by decide +kernel
theorem d107_23 : decode jdk_2005_method_4_code 23 = .ok (.getfield 49, 3) := by decide +kernel
theorem d107_26 : decode jdk_2005_method_4_code 26 = .ok (.iconst 1, 1) := by decide +kernel
theorem d107_27 : decode jdk_2005_method_4_code 27 = .ok (.iadd, 1) := by decide +kernel
theorem d107_28 : decode jdk_2005_method_4_code 28 = .ok (.putfield 49, 3) := by decide +kernel
theorem d107_31 : decode jdk_2005_method_4_code 31 = .ok (.return_, 1) := by decide +kernel
theorem ef_rmW0 (m : MethodId) (a : Addr) (p0 : Int32) : entryFrameSync m #[(.ref a), (.int p0)] 2 a = mkL a m 0 #[.val (.ref a), .val (.int p0)] [] := by first | (simp [entryFrameSync, entryFrame, mkL, argsToLocals, Value.category]; done) | rfl
def Q_rmW0 (Z : State) (a : Addr) (p0 : Int32) (bb : Addr) (ws : List Int8) (h0 : Heap) (n0 : Nat) (v : Option Value) (h : Heap) (L : List Loc) : Prop := v = none ∧ Fr n0 L ∧ ∃ x, Keep h0 h [a, bb] ∧ n0 ≤ x ∧ (x = bb ∨ h0.size ≤ x) ∧ Wst Z h a x (ws ++ [p0.toInt8])
set_option maxRecDepth 65536 in
set_option maxHeartbeats 40000000 in
theorem rmW0 (l : Launch) (Z : State) (a0 : Array Value) (hw : ∀ d ∈ tables_1, d.before a0 Z = true) (ws0 : List Jvm.Cond) (a : Addr) (p0 : Int32) (bb : Addr) (ws : List Int8) (h0 : Heap) (n0 : Nat) (Z00 : n0 ≤ h0.size) (w : Wst Z h0 a bb ws) (ga : n0 ≤ a) (gb : n0 ≤ bb) (hk : ws.length < capOf ws.length) (hk2 : ws.length ≤ 20) :
    MetFree l (⟨"java/io/ByteArrayOutputStream", "write", "(I)V"⟩ : MethodName) (head1 (Jvm.Cond.codeSync (⟨"java/io/ByteArrayOutputStream", "write", "(I)V"⟩ : MethodName) jdk_2005_method_4_code 2 none :: Jvm.Cond.instanceMethod (⟨"java/io/ByteArrayOutputStream", "write", "(I)V"⟩ : MethodName) :: ws0) ({ frames := 1, cells := 0, slots := 0, locals := 17 } : Room)) (fun aa U => aa = #[(.ref a), (.int p0)] ∧ Z.Warmed39 U.vm ∧ U.heap = h0 ∧ ∃ cell : Cell, h0[a]? = some cell ∧ cell.enterable U.cur) (fun _ _ _ _ _ => True) (fun _ U oo U' => ∃ v L, oo = .returned v ∧ Q_rmW0 Z a p0 bb ws h0 n0 v U'.heap L ∧ FrameEnd U oo U' L ({ frames := 1, cells := 0, slots := 0, locals := 17 } : Room).cells ({ frames := 1, cells := 0, slots := 0, locals := 17 } : Room).slots) := by
  refine MetFree.of_bodySync (plainFor_of_name pn2) (hisS (List.mem_cons_self ..)) (fun _ s _ ⟨q1, _, q2, cl, q3, q4⟩ => ⟨a, cl, by rw [q1]; rfl, by rw [q2]; exact q3, q4⟩) ?_
  intro p e s m args below meth c a1 cell s₁ Bd hml0 hP _
  obtain ⟨rfl, hZ0, hh, -⟩ := hP
  cases Bd.receiver
  have hx := Bd.exec
  have hby := Bd.bytes
  have hml : c.maxLocals = 2 := hml0
  have hZ : Z.Warmed39 (s.setCell a (cell.withEntry s.cur)).vm := hZ0
  have hown : (s.setCell a (cell.withEntry s.cur)).vm.findClass "java/io/ByteArrayOutputStream" = some m.cls := (findClass_of_methodNamed Bd.named :)
  have hnm := (name_of_methodNamed Bd.named Bd.method).1
  have hret := Bd.returns
  have hob : s.heap[a]? = some cell := Bd.object
  have hent := Bd.enterable
  have hlk := Bd.synchronized
  have X0 : Stand p l e ({ frames := 1, cells := 0, slots := 0, locals := 17 } : Room) (s.setCell a (cell.withEntry s.cur)) m #[(.ref a), (.int p0)] below meth c s₁ [] 0 0 := Stand.of_bodySync Bd
  obtain ⟨h1, e0⟩ : ∃ z, s₁.heap = z := ⟨_, rfl⟩
  have M0 : Mon h0 h1 := by rw [← e0, ← hh, Bd.state]; exact mon_set Bd.object _
  have K0 : Keep h0 h1 [a, bb] := own_mono1 (show Keep h0 h1 [a] by rw [← e0, ← hh, Bd.state]; exact own_keepM Bd.object _)
  have Z0 : n0 ≤ h1.size := Nat.le_trans Z00 K0.1
  have N0 := Fr.nil n0
  show Goes p e below s (Q_rmW0 Z a p0 bb ws h0 n0) ({ frames := 1, cells := 0, slots := 0, locals := 17 } : Room).cells ({ frames := 1, cells := 0, slots := 0, locals := 17 } : Room).slots _
  refine Goes.go (fun _ kk => castTop (ef_rmW0 m a p0) kk) ?_
  have U1 : Unt s.heap a := by rw [hh]; exact w.2.2.2.2.2
  have E1 := Exa.mon M0 w.1
  have Fb := Fld.mon M0 w.2.1
  have Fc := Fld.mon M0 w.2.2.1
  have Eb := Exa.mon M0 w.2.2.2.2.1
  have A1 := w.2.2.2.1.mon M0
  have ne_a_bb : a ≠ bb := ne_exa E1 Eb (by decide)
  show Goes _ _ _ _ _ _ _ (s₁.setTop (mkL a m 0 #[.val (.ref a), .val (.int p0)] []))
  refine Goes.go (fun _ kk => XS.aloadN X0.here hx rfl (hb hby d107_0) rfl rfl kk) ?_
  show Goes _ _ _ _ _ _ _ (s₁.setTop (mkL a m 1 _ [(.ref a)]))
  refine Goes.go (fun _ kk => XS.aloadN X0.here hx rfl (hb hby d107_1) rfl rfl kk) ?_
  show Goes _ _ _ _ _ _ _ (s₁.setTop (mkL a m 2 _ [(.ref a), (.ref a)]))
  obtain ⟨T1, X1, e1, st1⟩ := getF X0 hx hZ hown (host := "") (Or.inl (hw _ (List.mem_of_getElem? (i := 42) rfl))) Via.refl e0 Fc (g := (mkL a m 2 #[.val (.ref a), .val (.int p0)] [(.ref a), (.ref a)])) rfl rfl (hb hby d107_2)
  refine Goes.go (st1) ?_
  show Goes _ _ _ _ _ _ _ (T1.setTop (mkL a m 5 _ [(.int ws.length.toInt32), (.ref a)]))
  refine Goes.go (fun _ kk => XS.iconst X1.here hx rfl (hb hby d107_5) kk) ?_
  show Goes _ _ _ _ _ _ _ (T1.setTop (mkL a m 6 _ [(.int (1 : Int32)), (.int ws.length.toInt32), (.ref a)]))
  refine Goes.go (fun _ kk => XS.iadd X1.here hx rfl (hb hby d107_6) rfl kk) ?_
  show Goes _ _ _ _ _ _ _ (T1.setTop (mkL a m 7 _ [(.int (ws.length.toInt32 + (1 : Int32))), (.ref a)]))
  obtain ⟨cq2, qa2, qb2⟩ := E1.cell
  obtain ⟨_, _, ⟨T2, L2, k2, n2⟩, -, X2, ⟨Lc2, hQ2, l2, y2, z2⟩, st2⟩ := X1.privateBack hx (y := (⟨"java/io/ByteArrayOutputStream", "ensureCapacity", "(I)V"⟩ : MethodName)) hown (mvT hZ (hw _ (List.mem_of_getElem? (i := 44) rfl))) (mvT hZ (hw _ (List.mem_of_getElem? (i := 45) rfl))) (own_selP (args := #[]) (mvT hZ (hw _ (List.mem_of_getElem? (i := 40) rfl))) rfl (Cond.privateMethod_at (mvP hZ (hw _ (List.mem_of_getElem? (i := 46) rfl)) (args := #[]))) (mvT hZ (hw _ (List.mem_of_getElem? (i := 45) rfl))) (by decide)) (Cond.privateMethod_at (mvP hZ (hw _ (List.mem_of_getElem? (i := 46) rfl)) (args := #[]))) (mvT hZ (hw _ (List.mem_of_getElem? (i := 48) rfl))) (by decide) (backOf (W := 2) (rmE0 l Z a0 hw [] a (ws.length.toInt32 + (1 : Int32)) bb (bufL ws) h1 n0 Z0 Fb A1 (own_bufm hk hk2)) hZ (hw _ (List.mem_of_getElem? (i := 48) rfl)) (hw _ (List.mem_of_getElem? (i := 11) rfl)) (by decide) (by decide)) (g := (mkL a m 7 #[.val (.ref a), .val (.int p0)] [(.int (ws.length.toInt32 + (1 : Int32))), (.ref a)])) rfl (by rw [hml]; rfl) (Steps.refl _) (a := a) (by rw [e1]; exact qa2) qb2 (argsL := [(.int (ws.length.toInt32 + (1 : Int32)))]) (rest := []) (lenOf pd0 rfl) rfl (by show 2 * 1 + _ ≤ _; exact Nat.le_of_eq rfl) (hb hby d107_7) (fun _ _ => ⟨rfl, e1, (by decide : 0 + 0 ≤ _), (by decide : 0 + 0 ≤ _)⟩)
  dsimp only [Pt.U, Pt.locs, Pt.cells, Pt.slots] at X2 l2 y2 z2 st2 hQ2
  subst l2 y2 z2
  obtain ⟨rfl, Nq2, hh2⟩ := hQ2
  have N2 := Fr.app N0 Nq2
  refine Goes.go (fun _ kk => st2.trans kk) ?_
  show Goes _ _ _ _ _ _ _ (T2.setTop (mkL a m 10 _ []))
  refine Goes.go (fun _ kk => XS.aloadN X2.here hx rfl (hb hby d107_10) rfl rfl kk) ?_
  show Goes _ _ _ _ _ _ _ (T2.setTop (mkL a m 11 _ [(.ref a)]))
  obtain ⟨T3, X3, e3, st3⟩ := getF X2 hx hZ hown (host := "") (Or.inl (hw _ (List.mem_of_getElem? (i := 23) rfl))) Via.refl hh2 Fb (g := (mkL a m 11 #[.val (.ref a), .val (.int p0)] [(.ref a)])) rfl rfl (hb hby d107_11)
  refine Goes.go (st3) ?_
  show Goes _ _ _ _ _ _ _ (T3.setTop (mkL a m 14 _ [(.ref bb)]))
  refine Goes.go (fun _ kk => XS.aloadN X3.here hx rfl (hb hby d107_14) rfl rfl kk) ?_
  show Goes _ _ _ _ _ _ _ (T3.setTop (mkL a m 15 _ [(.ref a), (.ref bb)]))
  obtain ⟨T4, X4, e4, st4⟩ := getF X3 hx hZ hown (host := "") (Or.inl (hw _ (List.mem_of_getElem? (i := 42) rfl))) Via.refl e3 Fc (g := (mkL a m 15 #[.val (.ref a), .val (.int p0)] [(.ref a), (.ref bb)])) rfl rfl (hb hby d107_15)
  refine Goes.go (st4) ?_
  show Goes _ _ _ _ _ _ _ (T4.setTop (mkL a m 18 _ [(.int ws.length.toInt32), (.ref bb)]))
  refine Goes.go (fun _ kk => XS.iloadN X4.here hx rfl (hb hby d107_18) rfl kk) ?_
  show Goes _ _ _ _ _ _ _ (T4.setTop (mkL a m 19 _ [(.int p0), (.int ws.length.toInt32), (.ref bb)]))
  refine Goes.go (fun _ kk => XS.i2b X4.here hx rfl (hb hby d107_19) rfl kk) ?_
  show Goes _ _ _ _ _ _ _ (T4.setTop (mkL a m 20 _ [(.int (p0).toInt8.toInt32), (.int ws.length.toInt32), (.ref bb)]))
  obtain ⟨T5, h5, X5, e5, W5, A5, st5⟩ := own_stB X4 hx hZ e4 A1 (j := ws.length.toInt32) (x := (p0).toInt8.toInt32) (own_n32 (Nat.le_trans hk2 (by decide))).2 (own_ixN hk hk2) (g := (mkL a m 20 #[.val (.ref a), .val (.int p0)] [(.int (p0).toInt8.toInt32), (.int ws.length.toInt32), (.ref bb)])) rfl rfl (hb hby d107_20)
  rw [own_nar8] at A5
  have N5 := Fr.snoc X5 N2 gb
  have f := Exa.wr W5 E1
  have f_1 := Fld.other W5 Fb (Or.inl ne_a_bb)
  have f_2 := Fld.other W5 Fc (Or.inl ne_a_bb)
  have f_3 := Exa.wr W5 Eb
  have K5 := K0.wr W5 (Or.inl (List.mem_of_getElem? (i := 1) rfl))
  have Z5 : n0 ≤ h5.size := by rw [W5.size]; exact Z0
  have f_4 := Arl.eq A5 (own_setN hk hk2)
  refine Goes.go (st5) ?_
  show Goes _ _ _ _ _ _ _ (T5.setTop (mkL a m 21 _ []))
  refine Goes.go (fun _ kk => XS.aloadN X5.here hx rfl (hb hby d107_21) rfl rfl kk) ?_
  show Goes _ _ _ _ _ _ _ (T5.setTop (mkL a m 22 _ [(.ref a)]))
  refine Goes.go (fun _ kk => XS.dup X5.here hx rfl (hb hby d107_22) rfl rfl kk) ?_
  show Goes _ _ _ _ _ _ _ (T5.setTop (mkL a m 23 _ [(.ref a), (.ref a)]))
  obtain ⟨T6, X6, e6, st6⟩ := getF X5 hx hZ hown (host := "") (Or.inl (hw _ (List.mem_of_getElem? (i := 42) rfl))) Via.refl e5 f_2 (g := (mkL a m 23 #[.val (.ref a), .val (.int p0)] [(.ref a), (.ref a)])) rfl rfl (hb hby d107_23)
  refine Goes.go (st6) ?_
  show Goes _ _ _ _ _ _ _ (T6.setTop (mkL a m 26 _ [(.int ws.length.toInt32), (.ref a)]))
  refine Goes.go (fun _ kk => XS.iconst X6.here hx rfl (hb hby d107_26) kk) ?_
  show Goes _ _ _ _ _ _ _ (T6.setTop (mkL a m 27 _ [(.int (1 : Int32)), (.int ws.length.toInt32), (.ref a)]))
  refine Goes.go (fun _ kk => XS.iadd X6.here hx rfl (hb hby d107_27) rfl kk) ?_
  show Goes _ _ _ _ _ _ _ (T6.setTop (mkL a m 28 _ [(.int (ws.length.toInt32 + (1 : Int32))), (.ref a)]))
  obtain ⟨T7, h7, X7, e7, W7, st7⟩ := putF X6 hx hZ hown (host := "") (Or.inl (hw _ (List.mem_of_getElem? (i := 42) rfl))) Via.refl e6 f_2 f (Or.inl (hw _ (List.mem_of_getElem? (i := 43) rfl))) (hw _ (List.mem_of_getElem? (i := 10) rfl)) (ty := .int) (by decide) rfl rfl (g := (mkL a m 28 #[.val (.ref a), .val (.int p0)] [(.int (ws.length.toInt32 + (1 : Int32))), (.ref a)])) rfl rfl (hb hby d107_28)
  have N7 := Fr.snoc X7 N5 ga
  have f_5 := Exa.wr W7 f
  have f_6 := Fld.other W7 f_1 (Or.inr (slot_ne (Or.inl (hw _ (List.mem_of_getElem? (i := 24) rfl))) (Or.inl (hw _ (List.mem_of_getElem? (i := 43) rfl))) (by decide) (t := (.array .byte)) (t' := .int) (by decide) (by decide)))
  have f_7 := Arl.other f_4 W7 ne_a_bb.symm
  have f_8 := Exa.wr W7 f_3
  have f_9 := Fld.same W7 f_2
  have Z7 : n0 ≤ h7.size := by rw [W7.size]; exact Z5
  have K7 := K5.wr W7 (Or.inl (List.mem_of_getElem? (i := 0) rfl))
  refine Goes.go (st7) ?_
  show Goes _ _ _ _ _ _ _ (T7.setTop (mkL a m 31 _ []))
  exact Goes.outVL X7 hx hob hent hlk hret (hb hby d107_31) e7 (fun h2 M2 K2 u2 => ⟨rfl, N7, bb, K7.trans K2 (allS (Or.inl (List.mem_of_getElem? (i := 0) rfl)) all0), gb, Or.inl rfl, Exa.mon M2 f_5, Fld.mon M2 f_6, own_cnt hk2 ▸ Fld.mon M2 f_9, Arl.mon f_7 M2, Exa.mon M2 f_8, own_untS hob U1 u2⟩) (by decide) (by decide)
theorem ef_rmW1 (m : MethodId) (a : Addr) (p0 : Int32) : entryFrameSync m #[(.ref a), (.int p0)] 2 a = mkL a m 0 #[.val (.ref a), .val (.int p0)] [] := by first | (simp [entryFrameSync, entryFrame, mkL, argsToLocals, Value.category]; done) | rfl
def Q_rmW1 (Z : State) (a : Addr) (p0 : Int32) (bb : Addr) (ws : List Int8) (h0 : Heap) (n0 : Nat) (v : Option Value) (h : Heap) (L : List Loc) : Prop := v = none ∧ Fr n0 L ∧ ∃ x, Keep h0 h [a, bb] ∧ n0 ≤ x ∧ (x = bb ∨ h0.size ≤ x) ∧ Wst Z h a x (ws ++ [p0.toInt8])
set_option maxRecDepth 65536 in
set_option maxHeartbeats 40000000 in
theorem rmW1 (l : Launch) (Z : State) (a0 : Array Value) (hw : ∀ d ∈ tables_1, d.before a0 Z = true) (ws0 : List Jvm.Cond) (a : Addr) (p0 : Int32) (bb : Addr) (ws : List Int8) (h0 : Heap) (n0 : Nat) (Z00 : n0 ≤ h0.size) (w : Wst Z h0 a bb ws) (ga : n0 ≤ a) (gb : n0 ≤ bb) (hk : ws.length = 4 ∨ ws.length = 8 ∨ ws.length = 16) (hk2 : ws.length ≤ 20) :
    MetFree l (⟨"java/io/ByteArrayOutputStream", "write", "(I)V"⟩ : MethodName) (head1 (Jvm.Cond.codeSync (⟨"java/io/ByteArrayOutputStream", "write", "(I)V"⟩ : MethodName) jdk_2005_method_4_code 2 none :: Jvm.Cond.instanceMethod (⟨"java/io/ByteArrayOutputStream", "write", "(I)V"⟩ : MethodName) :: ws0) ({ frames := 3, cells := 1, slots := 32, locals := 73 } : Room)) (fun aa U => aa = #[(.ref a), (.int p0)] ∧ Z.Warmed39 U.vm ∧ U.heap = h0 ∧ ∃ cell : Cell, h0[a]? = some cell ∧ cell.enterable U.cur) (fun _ _ _ _ _ => True) (fun _ U oo U' => ∃ v L, oo = .returned v ∧ Q_rmW1 Z a p0 bb ws h0 n0 v U'.heap L ∧ FrameEnd U oo U' L ({ frames := 3, cells := 1, slots := 32, locals := 73 } : Room).cells ({ frames := 3, cells := 1, slots := 32, locals := 73 } : Room).slots) := by
  refine MetFree.of_bodySync (plainFor_of_name pn2) (hisS (List.mem_cons_self ..)) (fun _ s _ ⟨q1, _, q2, cl, q3, q4⟩ => ⟨a, cl, by rw [q1]; rfl, by rw [q2]; exact q3, q4⟩) ?_
  intro p e s m args below meth c a1 cell s₁ Bd hml0 hP _
  obtain ⟨rfl, hZ0, hh, -⟩ := hP
  cases Bd.receiver
  have hx := Bd.exec
  have hby := Bd.bytes
  have hml : c.maxLocals = 2 := hml0
  have hZ : Z.Warmed39 (s.setCell a (cell.withEntry s.cur)).vm := hZ0
  have hown : (s.setCell a (cell.withEntry s.cur)).vm.findClass "java/io/ByteArrayOutputStream" = some m.cls := (findClass_of_methodNamed Bd.named :)
  have hnm := (name_of_methodNamed Bd.named Bd.method).1
  have hret := Bd.returns
  have hob : s.heap[a]? = some cell := Bd.object
  have hent := Bd.enterable
  have hlk := Bd.synchronized
  have X0 : Stand p l e ({ frames := 3, cells := 1, slots := 32, locals := 73 } : Room) (s.setCell a (cell.withEntry s.cur)) m #[(.ref a), (.int p0)] below meth c s₁ [] 0 0 := Stand.of_bodySync Bd
  obtain ⟨h1, e0⟩ : ∃ z, s₁.heap = z := ⟨_, rfl⟩
  have M0 : Mon h0 h1 := by rw [← e0, ← hh, Bd.state]; exact mon_set Bd.object _
  have K0 : Keep h0 h1 [a, bb] := own_mono1 (show Keep h0 h1 [a] by rw [← e0, ← hh, Bd.state]; exact own_keepM Bd.object _)
  have Z0 : n0 ≤ h1.size := Nat.le_trans Z00 K0.1
  have N0 := Fr.nil n0
  show Goes p e below s (Q_rmW1 Z a p0 bb ws h0 n0) ({ frames := 3, cells := 1, slots := 32, locals := 73 } : Room).cells ({ frames := 3, cells := 1, slots := 32, locals := 73 } : Room).slots _
  refine Goes.go (fun _ kk => castTop (ef_rmW1 m a p0) kk) ?_
  have U1 : Unt s.heap a := by rw [hh]; exact w.2.2.2.2.2
  have E1 := Exa.mon M0 w.1
  have Fb := Fld.mon M0 w.2.1
  have Fc := Fld.mon M0 w.2.2.1
  have Eb := Exa.mon M0 w.2.2.2.2.1
  have A1 := w.2.2.2.1.mon M0
  rw [own_full hk] at A1
  have ne_a_bb : a ≠ bb := ne_exa E1 Eb (by decide)
  show Goes _ _ _ _ _ _ _ (s₁.setTop (mkL a m 0 #[.val (.ref a), .val (.int p0)] []))
  refine Goes.go (fun _ kk => XS.aloadN X0.here hx rfl (hb hby d107_0) rfl rfl kk) ?_
  show Goes _ _ _ _ _ _ _ (s₁.setTop (mkL a m 1 _ [(.ref a)]))
  refine Goes.go (fun _ kk => XS.aloadN X0.here hx rfl (hb hby d107_1) rfl rfl kk) ?_
  show Goes _ _ _ _ _ _ _ (s₁.setTop (mkL a m 2 _ [(.ref a), (.ref a)]))
  obtain ⟨T1, X1, e1, st1⟩ := getF X0 hx hZ hown (host := "") (Or.inl (hw _ (List.mem_of_getElem? (i := 42) rfl))) Via.refl e0 Fc (g := (mkL a m 2 #[.val (.ref a), .val (.int p0)] [(.ref a), (.ref a)])) rfl rfl (hb hby d107_2)
  refine Goes.go (st1) ?_
  show Goes _ _ _ _ _ _ _ (T1.setTop (mkL a m 5 _ [(.int ws.length.toInt32), (.ref a)]))
  refine Goes.go (fun _ kk => XS.iconst X1.here hx rfl (hb hby d107_5) kk) ?_
  show Goes _ _ _ _ _ _ _ (T1.setTop (mkL a m 6 _ [(.int (1 : Int32)), (.int ws.length.toInt32), (.ref a)]))
  refine Goes.go (fun _ kk => XS.iadd X1.here hx rfl (hb hby d107_6) rfl kk) ?_
  show Goes _ _ _ _ _ _ _ (T1.setTop (mkL a m 7 _ [(.int (ws.length.toInt32 + (1 : Int32))), (.ref a)]))
  obtain ⟨cq2, qa2, qb2⟩ := E1.cell
  obtain ⟨_, _, ⟨T2, L2, k2, n2⟩, -, X2, ⟨Lc2, hQ2, l2, y2, z2⟩, st2⟩ := X1.privateBack hx (y := (⟨"java/io/ByteArrayOutputStream", "ensureCapacity", "(I)V"⟩ : MethodName)) hown (mvT hZ (hw _ (List.mem_of_getElem? (i := 44) rfl))) (mvT hZ (hw _ (List.mem_of_getElem? (i := 45) rfl))) (own_selP (args := #[]) (mvT hZ (hw _ (List.mem_of_getElem? (i := 40) rfl))) rfl (Cond.privateMethod_at (mvP hZ (hw _ (List.mem_of_getElem? (i := 46) rfl)) (args := #[]))) (mvT hZ (hw _ (List.mem_of_getElem? (i := 45) rfl))) (by decide)) (Cond.privateMethod_at (mvP hZ (hw _ (List.mem_of_getElem? (i := 46) rfl)) (args := #[]))) (mvT hZ (hw _ (List.mem_of_getElem? (i := 48) rfl))) (by decide) (backOf (W := 2) (rmE1 l Z a0 hw [] a (ws.length.toInt32 + (1 : Int32)) bb ws h1 n0 Z0 E1 Fb Fc A1 Eb ga hk rfl) hZ (hw _ (List.mem_of_getElem? (i := 48) rfl)) (hw _ (List.mem_of_getElem? (i := 11) rfl)) (by decide) (by decide)) (g := (mkL a m 7 #[.val (.ref a), .val (.int p0)] [(.int (ws.length.toInt32 + (1 : Int32))), (.ref a)])) rfl (by rw [hml]; rfl) (Steps.refl _) (a := a) (by rw [e1]; exact qa2) qb2 (argsL := [(.int (ws.length.toInt32 + (1 : Int32)))]) (rest := []) (lenOf pd0 rfl) rfl (by show 2 * 1 + _ ≤ _; exact Nat.le_of_eq rfl) (hb hby d107_7) (fun _ _ => ⟨rfl, e1, (by decide : 0 + 1 ≤ _), (by decide : 0 + 32 ≤ _)⟩)
  dsimp only [Pt.U, Pt.locs, Pt.cells, Pt.slots] at X2 l2 y2 z2 st2 hQ2
  subst l2 y2 z2
  obtain ⟨rfl, Nq2, x2, Kq2, gq2, kq2, Eq2, Fb2, Fc2, Aq2, Ex2⟩ := hQ2
  have N2 := Fr.app N0 Nq2
  have Z2 : n0 ≤ T2.heap.size := Nat.le_trans Z0 Kq2.1
  have kge_x2 : h0.size ≤ x2 := Nat.le_trans K0.1 kq2
  have ne_a_x2 : a ≠ x2 := ne_exa Eq2 Ex2 (by decide)
  have K2 := K0.trans Kq2 (allS (Or.inl (List.mem_of_getElem? (i := 0) rfl)) all0)
  refine Goes.go (fun _ kk => st2.trans kk) ?_
  show Goes _ _ _ _ _ _ _ (T2.setTop (mkL a m 10 _ []))
  refine Goes.go (fun _ kk => XS.aloadN X2.here hx rfl (hb hby d107_10) rfl rfl kk) ?_
  show Goes _ _ _ _ _ _ _ (T2.setTop (mkL a m 11 _ [(.ref a)]))
  obtain ⟨T3, X3, e3, st3⟩ := getF X2 hx hZ hown (host := "") (Or.inl (hw _ (List.mem_of_getElem? (i := 23) rfl))) Via.refl rfl Fb2 (g := (mkL a m 11 #[.val (.ref a), .val (.int p0)] [(.ref a)])) rfl rfl (hb hby d107_11)
  refine Goes.go (st3) ?_
  show Goes _ _ _ _ _ _ _ (T3.setTop (mkL a m 14 _ [(.ref x2)]))
  refine Goes.go (fun _ kk => XS.aloadN X3.here hx rfl (hb hby d107_14) rfl rfl kk) ?_
  show Goes _ _ _ _ _ _ _ (T3.setTop (mkL a m 15 _ [(.ref a), (.ref x2)]))
  obtain ⟨T4, X4, e4, st4⟩ := getF X3 hx hZ hown (host := "") (Or.inl (hw _ (List.mem_of_getElem? (i := 42) rfl))) Via.refl e3 Fc2 (g := (mkL a m 15 #[.val (.ref a), .val (.int p0)] [(.ref a), (.ref x2)])) rfl rfl (hb hby d107_15)
  refine Goes.go (st4) ?_
  show Goes _ _ _ _ _ _ _ (T4.setTop (mkL a m 18 _ [(.int ws.length.toInt32), (.ref x2)]))
  refine Goes.go (fun _ kk => XS.iloadN X4.here hx rfl (hb hby d107_18) rfl kk) ?_
  show Goes _ _ _ _ _ _ _ (T4.setTop (mkL a m 19 _ [(.int p0), (.int ws.length.toInt32), (.ref x2)]))
  refine Goes.go (fun _ kk => XS.i2b X4.here hx rfl (hb hby d107_19) rfl kk) ?_
  show Goes _ _ _ _ _ _ _ (T4.setTop (mkL a m 20 _ [(.int (p0).toInt8.toInt32), (.int ws.length.toInt32), (.ref x2)]))
  obtain ⟨T5, h5, X5, e5, W5, A5, st5⟩ := own_stB X4 hx hZ e4 Aq2 (j := ws.length.toInt32) (x := (p0).toInt8.toInt32) (own_n32 (Nat.le_trans hk2 (by decide))).2 (own_ixG hk) (g := (mkL a m 20 #[.val (.ref a), .val (.int p0)] [(.int (p0).toInt8.toInt32), (.int ws.length.toInt32), (.ref x2)])) rfl rfl (hb hby d107_20)
  rw [own_nar8] at A5
  have N5 := Fr.snoc X5 N2 gq2
  have f := Exa.wr W5 Eq2
  have f_1 := Fld.other W5 Fb2 (Or.inl ne_a_x2)
  have f_2 := Fld.other W5 Fc2 (Or.inl ne_a_x2)
  have f_3 := Exa.wr W5 Ex2
  have K5 := K2.wr W5 (Or.inr kge_x2)
  have Z5 : n0 ≤ h5.size := by rw [W5.size]; exact Z2
  have f_4 := Arl.eq A5 (own_setG hk)
  refine Goes.go (st5) ?_
  show Goes _ _ _ _ _ _ _ (T5.setTop (mkL a m 21 _ []))
  refine Goes.go (fun _ kk => XS.aloadN X5.here hx rfl (hb hby d107_21) rfl rfl kk) ?_
  show Goes _ _ _ _ _ _ _ (T5.setTop (mkL a m 22 _ [(.ref a)]))
  refine Goes.go (fun _ kk => XS.dup X5.here hx rfl (hb hby d107_22) rfl rfl kk) ?_
  show Goes _ _ _ _ _ _ _ (T5.setTop (mkL a m 23 _ [(.ref a), (.ref a)]))
  obtain ⟨T6, X6, e6, st6⟩ := getF X5 hx hZ hown (host := "") (Or.inl (hw _ (List.mem_of_getElem? (i := 42) rfl))) Via.refl e5 f_2 (g := (mkL a m 23 #[.val (.ref a), .val (.int p0)] [(.ref a), (.ref a)])) rfl rfl (hb hby d107_23)
  refine Goes.go (st6) ?_
  show Goes _ _ _ _ _ _ _ (T6.setTop (mkL a m 26 _ [(.int ws.length.toInt32), (.ref a)]))
  refine Goes.go (fun _ kk => XS.iconst X6.here hx rfl (hb hby d107_26) kk) ?_
  show Goes _ _ _ _ _ _ _ (T6.setTop (mkL a m 27 _ [(.int (1 : Int32)), (.int ws.length.toInt32), (.ref a)]))
  refine Goes.go (fun _ kk => XS.iadd X6.here hx rfl (hb hby d107_27) rfl kk) ?_
  show Goes _ _ _ _ _ _ _ (T6.setTop (mkL a m 28 _ [(.int (ws.length.toInt32 + (1 : Int32))), (.ref a)]))
  obtain ⟨T7, h7, X7, e7, W7, st7⟩ := putF X6 hx hZ hown (host := "") (Or.inl (hw _ (List.mem_of_getElem? (i := 42) rfl))) Via.refl e6 f_2 f (Or.inl (hw _ (List.mem_of_getElem? (i := 43) rfl))) (hw _ (List.mem_of_getElem? (i := 10) rfl)) (ty := .int) (by decide) rfl rfl (g := (mkL a m 28 #[.val (.ref a), .val (.int p0)] [(.int (ws.length.toInt32 + (1 : Int32))), (.ref a)])) rfl rfl (hb hby d107_28)
  have N7 := Fr.snoc X7 N5 ga
  have f_5 := Exa.wr W7 f
  have f_6 := Fld.other W7 f_1 (Or.inr (slot_ne (Or.inl (hw _ (List.mem_of_getElem? (i := 24) rfl))) (Or.inl (hw _ (List.mem_of_getElem? (i := 43) rfl))) (by decide) (t := (.array .byte)) (t' := .int) (by decide) (by decide)))
  have f_7 := Arl.other f_4 W7 ne_a_x2.symm
  have f_8 := Exa.wr W7 f_3
  have f_9 := Fld.same W7 f_2
  have Z7 : n0 ≤ h7.size := by rw [W7.size]; exact Z5
  have K7 := K5.wr W7 (Or.inl (List.mem_of_getElem? (i := 0) rfl))
  refine Goes.go (st7) ?_
  show Goes _ _ _ _ _ _ _ (T7.setTop (mkL a m 31 _ []))
  exact Goes.outVL X7 hx hob hent hlk hret (hb hby d107_31) e7 (fun h2 M2 K2 u2 => ⟨rfl, N7, x2, K7.trans K2 (allS (Or.inl (List.mem_of_getElem? (i := 0) rfl)) all0), gq2, Or.inr kge_x2, Exa.mon M2 f_5, Fld.mon M2 f_6, own_cnt hk2 ▸ Fld.mon M2 f_9, Arl.mon f_7 M2, Exa.mon M2 f_8, own_untS hob U1 u2⟩) (by decide) (by decide)
theorem d110_0 : decode jdk_2005_method_9_code 0 = .ok (.aload_n 0, 1) := by decide +kernel
theorem d110_1 : decode jdk_2005_method_9_code 1 = .ok (.getfield 33, 3) := by decide +kernel
theorem d110_4 : decode jdk_2005_method_9_code 4 = .ok (.aload_n 0, 1) := by decide +kernel
theorem d110_5 : decode jdk_2005_method_9_code 5 = .ok (.getfield 49, 3) := by decide +kernel
theorem d110_8 : decode jdk_2005_method_9_code 8 = .ok (.invokestatic 43, 3) := by decide +kernel
theorem d110_11 : decode jdk_2005_method_9_code 11 = .ok (.areturn, 1) := by decide +kernel
theorem ef_rmT (m : MethodId) (a : Addr) : entryFrameSync m #[(.ref a)] 1 a = mkL a m 0 #[.val (.ref a)] [] := by first | (simp [entryFrameSync, entryFrame, mkL, argsToLocals, Value.category]; done) | rfl
def Q_rmT (Z : State) (a : Addr) (bb : Addr) (ws : List Int8) (h0 : Heap) (n0 : Nat) (v : Option Value) (h : Heap) (L : List Loc) : Prop := ∃ x, v = some (.ref x) ∧ Fr n0 L ∧ Keep h0 h [a] ∧ n0 ≤ x ∧ h0.size ≤ x ∧ Arl Z h x .byte (vB ws)
set_option maxRecDepth 65536 in
set_option maxHeartbeats 40000000 in
theorem rmT (l : Launch) (Z : State) (a0 : Array Value) (hw : ∀ d ∈ tables_1, d.before a0 Z = true) (ws0 : List Jvm.Cond) (a : Addr) (bb : Addr) (ws : List Int8) (h0 : Heap) (n0 : Nat) (Z00 : n0 ≤ h0.size) (w : Wst Z h0 a bb ws) (hk2 : ws.length ≤ 20) :
    MetFree l (⟨"java/io/ByteArrayOutputStream", "toByteArray", "()[B"⟩ : MethodName) (head1 (Jvm.Cond.codeSync (⟨"java/io/ByteArrayOutputStream", "toByteArray", "()[B"⟩ : MethodName) jdk_2005_method_9_code 1 (some (.array .byte)) :: Jvm.Cond.instanceMethod (⟨"java/io/ByteArrayOutputStream", "toByteArray", "()[B"⟩ : MethodName) :: ws0) ({ frames := 2, cells := 1, slots := 32, locals := 57 } : Room)) (fun aa U => aa = #[(.ref a)] ∧ Z.Warmed39 U.vm ∧ U.heap = h0 ∧ ∃ cell : Cell, h0[a]? = some cell ∧ cell.enterable U.cur) (fun _ _ _ _ _ => True) (fun _ U oo U' => ∃ v L, oo = .returned v ∧ Q_rmT Z a bb ws h0 n0 v U'.heap L ∧ FrameEnd U oo U' L ({ frames := 2, cells := 1, slots := 32, locals := 57 } : Room).cells ({ frames := 2, cells := 1, slots := 32, locals := 57 } : Room).slots) := by
  refine MetFree.of_bodySync (plainFor_of_name pn2) (hisS (List.mem_cons_self ..)) (fun _ s _ ⟨q1, _, q2, cl, q3, q4⟩ => ⟨a, cl, by rw [q1]; rfl, by rw [q2]; exact q3, q4⟩) ?_
  intro p e s m args below meth c a1 cell s₁ Bd hml0 hP _
  obtain ⟨rfl, hZ0, hh, -⟩ := hP
  cases Bd.receiver
  have hx := Bd.exec
  have hby := Bd.bytes
  have hml : c.maxLocals = 1 := hml0
  have hZ : Z.Warmed39 (s.setCell a (cell.withEntry s.cur)).vm := hZ0
  have hown : (s.setCell a (cell.withEntry s.cur)).vm.findClass "java/io/ByteArrayOutputStream" = some m.cls := (findClass_of_methodNamed Bd.named :)
  have hnm := (name_of_methodNamed Bd.named Bd.method).1
  have hret := Bd.returns
  have hob : s.heap[a]? = some cell := Bd.object
  have hent := Bd.enterable
  have hlk := Bd.synchronized
  have X0 : Stand p l e ({ frames := 2, cells := 1, slots := 32, locals := 57 } : Room) (s.setCell a (cell.withEntry s.cur)) m #[(.ref a)] below meth c s₁ [] 0 0 := Stand.of_bodySync Bd
  obtain ⟨h1, e0⟩ : ∃ z, s₁.heap = z := ⟨_, rfl⟩
  have M0 : Mon h0 h1 := by rw [← e0, ← hh, Bd.state]; exact mon_set Bd.object _
  have K0 : Keep h0 h1 [a] := own_mono1 (show Keep h0 h1 [a] by rw [← e0, ← hh, Bd.state]; exact own_keepM Bd.object _)
  have Z0 : n0 ≤ h1.size := Nat.le_trans Z00 K0.1
  have N0 := Fr.nil n0
  show Goes p e below s (Q_rmT Z a bb ws h0 n0) ({ frames := 2, cells := 1, slots := 32, locals := 57 } : Room).cells ({ frames := 2, cells := 1, slots := 32, locals := 57 } : Room).slots _
  refine Goes.go (fun _ kk => castTop (ef_rmT m a) kk) ?_
  have Fb := Fld.mon M0 w.2.1
  have Fc := Fld.mon M0 w.2.2.1
  have Eb := Exa.mon M0 w.2.2.2.2.1
  have A1 := w.2.2.2.1.mon M0
  have q1 := own_n32 (k := ws.length) (Nat.le_trans hk2 (by decide))
  have q2 := capOf_le ws.length
  have q3 := bufL_len (ws := ws) (Nat.le_trans hk2 (by decide))
  show Goes _ _ _ _ _ _ _ (s₁.setTop (mkL a m 0 #[.val (.ref a)] []))
  refine Goes.go (fun _ kk => XS.aloadN X0.here hx rfl (hb hby d110_0) rfl rfl kk) ?_
  show Goes _ _ _ _ _ _ _ (s₁.setTop (mkL a m 1 _ [(.ref a)]))
  obtain ⟨T1, X1, e1, st1⟩ := getF X0 hx hZ hown (host := "") (Or.inl (hw _ (List.mem_of_getElem? (i := 23) rfl))) Via.refl e0 Fb (g := (mkL a m 1 #[.val (.ref a)] [(.ref a)])) rfl rfl (hb hby d110_1)
  refine Goes.go (st1) ?_
  show Goes _ _ _ _ _ _ _ (T1.setTop (mkL a m 4 _ [(.ref bb)]))
  refine Goes.go (fun _ kk => XS.aloadN X1.here hx rfl (hb hby d110_4) rfl rfl kk) ?_
  show Goes _ _ _ _ _ _ _ (T1.setTop (mkL a m 5 _ [(.ref a), (.ref bb)]))
  obtain ⟨T2, X2, e2, st2⟩ := getF X1 hx hZ hown (host := "") (Or.inl (hw _ (List.mem_of_getElem? (i := 42) rfl))) Via.refl e1 Fc (g := (mkL a m 5 #[.val (.ref a)] [(.ref a), (.ref bb)])) rfl rfl (hb hby d110_5)
  refine Goes.go (st2) ?_
  show Goes _ _ _ _ _ _ _ (T2.setTop (mkL a m 8 _ [(.int ws.length.toInt32), (.ref bb)]))
  obtain ⟨_, _, ⟨T3, L3, k3, n3⟩, -, X3, ⟨Lc3, hQ3, l3, y3, z3⟩, st3⟩ := Jvm.LawKit.callS X2 hx (y := (⟨"java/util/Arrays", "copyOf", "([BI)[B"⟩ : MethodName)) hown (mvT hZ (hw _ (List.mem_of_getElem? (i := 59) rfl))) (mvT hZ (hw _ (List.mem_of_getElem? (i := 60) rfl))) (mvT hZ (hw _ (List.mem_of_getElem? (i := 61) rfl))) (mvT hZ (hw _ (List.mem_of_getElem? (i := 62) rfl))) (by decide) (backOf (W := 2) (rmC l Z a0 hw [] bb ws.length.toInt32 (bufL ws) h1 n0 Z0 A1 Eb (by rw [q3]; exact q2) q1.2 (by rw [q1.1]; exact Nat.le_trans hk2 (by decide))) hZ (hw _ (List.mem_of_getElem? (i := 62) rfl)) (hw _ (List.mem_of_getElem? (i := 61) rfl)) (by decide) (by decide)) (g := (mkL a m 8 #[.val (.ref a)] [(.int ws.length.toInt32), (.ref bb)])) rfl (by rw [hml]; rfl) (argsL := [(.ref bb), (.int ws.length.toInt32)]) (rest := []) (lenOf pd5 rfl) rfl (by show 2 * 1 + _ ≤ _; exact Nat.le_of_eq rfl) (hb hby d110_8) (fun _ _ => ⟨rfl, e2, (by decide : 0 + 1 ≤ _), (by decide : 0 + 32 ≤ _)⟩)
  dsimp only [Pt.U, Pt.locs, Pt.cells, Pt.slots] at X3 l3 y3 z3 st3 hQ3
  subst l3 y3 z3
  obtain ⟨x3, rfl, Nq3, Kq3, gq3, kq3, Aq3, Eq3⟩ := hQ3
  have N3 := Fr.app N0 Nq3
  have Z3 : n0 ≤ T3.heap.size := Nat.le_trans Z0 Kq3.1
  have ne_a_x3 : a ≠ x3 := Nat.ne_of_lt (Nat.lt_of_lt_of_le Fb.lt kq3)
  have ne_bb_x3 : bb ≠ x3 := Nat.ne_of_lt (Nat.lt_of_lt_of_le A1.lt kq3)
  have f := Fld.keep Fb Kq3 nin0
  have f_1 := Fld.keep Fc Kq3 nin0
  have f_2 := Arl.keep A1 Kq3 nin0
  have f_3 := Exa.keep Eb Kq3
  have kge_x3 : h0.size ≤ x3 := Nat.le_trans K0.1 kq3
  have K3 := K0.trans Kq3 all0
  refine Goes.go (st3) ?_
  show Goes _ _ _ _ _ _ _ (T3.setTop (mkL a m 11 _ [(.ref x3)]))
  exact Goes.outAL X3 hx hob hent hlk hret (hb hby d110_11) rfl (fun h2 M2 K2 u2 => ⟨x3, rfl, N3, K3.trans K2 (allS (Or.inl (List.mem_of_getElem? (i := 0) rfl)) all0), gq3, kge_x3, Arl.mon (Arl.eq Aq3 (congrArg vB (own_cpoT hk2))) M2⟩) (by decide) (by decide)
theorem d4_0 : decode jdk_2038_method_1_code 0 = .ok (.aload_n 0, 1) := by decide +kernel
theorem d4_1 : decode jdk_2038_method_1_code 1 = .ok (.invokespecial 1, 3) := by decide +kernel
theorem d4_4 : decode jdk_2038_method_1_code 4 = .ok (.return_, 1) := by decide +kernel
theorem pn3 : plainName "java/io/OutputStream" = true := by first | (simp [plainName, overriddenIn]; done) | decide +kernel
theorem ef_rmO (m : MethodId) (a : Addr) : entryFrame m #[(.ref a)] 1 = mkF m 0 #[.val (.ref a)] [] := by first | (simp [entryFrame, mkF, argsToLocals, Value.category]; done) | rfl
def Q_rmO (Z : State) (a : Addr) (h0 : Heap) (n0 : Nat) (v : Option Value) (h : Heap) (L : List Loc) : Prop := v = none ∧ Fr n0 L ∧ h = h0
set_option maxRecDepth 65536 in
set_option maxHeartbeats 40000000 in
theorem rmO (l : Launch) (Z : State) (a0 : Array Value) (hw : ∀ d ∈ tables_1, d.before a0 Z = true) (wsC : List Jvm.Cond) (a : Addr) (h0 : Heap) (n0 : Nat) (Z0 : n0 ≤ h0.size)  :
    MetFree l (⟨"java/io/OutputStream", "<init>", "()V"⟩ : MethodName) (head1 (Jvm.Cond.code (⟨"java/io/OutputStream", "<init>", "()V"⟩ : MethodName) jdk_2038_method_1_code 1 none :: wsC) ({ frames := 1, cells := 0, slots := 0, locals := 12 } : Room)) (fun aa U => aa = #[(.ref a)] ∧ Z.Warmed39 U.vm ∧ U.heap = h0) (fun _ _ _ _ _ => True) (fun _ U oo U' => ∃ v L, oo = .returned v ∧ Q_rmO Z a h0 n0 v U'.heap L ∧ FrameEnd U oo U' L ({ frames := 1, cells := 0, slots := 0, locals := 12 } : Room).cells ({ frames := 1, cells := 0, slots := 0, locals := 12 } : Room).slots) := by
  refine MetFree.of_bodySF (plainFor_of_name pn3) hisR ?_
  intro p e s m args below meth c s₁ Bd hml0 hP hK
  obtain ⟨rfl, hZ, hh⟩ := hP
  have hx := Bd.exec
  have hby := Bd.bytes
  have hml : c.maxLocals = 1 := hml0
  have hown : s.vm.findClass "java/io/OutputStream" = some m.cls := findClass_of_methodNamed Bd.named
  have hnm := (name_of_methodNamed Bd.named Bd.method).1
  have hlk : meth.locks = false := Bd.notSynchronized
  have hret := Bd.returns
  have X0 : Stand p l e ({ frames := 1, cells := 0, slots := 0, locals := 12 } : Room) s m #[(.ref a)] below meth c s₁ [] 0 0 := Stand.of_body Bd
  have e0 : s₁.heap = h0 := by rw [← hh, Bd.state]; rfl
  have N0 := Fr.nil n0
  have K0 : Keep h0 h0 [] := Keep.refl _ _
  show Goes p e below s (Q_rmO Z a h0 n0) ({ frames := 1, cells := 0, slots := 0, locals := 12 } : Room).cells ({ frames := 1, cells := 0, slots := 0, locals := 12 } : Room).slots _
  refine Goes.go (fun _ kk => castTop (ef_rmO m a) kk) ?_
  show Goes _ _ _ _ _ _ _ (s₁.setTop (mkF m 0 #[.val (.ref a)] []))
  refine Goes.go (fun _ kk => XS.aloadN X0.here hx rfl (hb hby d4_0) rfl rfl kk) ?_
  show Goes _ _ _ _ _ _ _ (s₁.setTop (mkF m 1 _ [(.ref a)]))
  obtain ⟨T1, X1, e1, st1⟩ := initO X0 hx hZ hown (hw _ (List.mem_of_getElem? (i := 21) rfl)) (hw _ (List.mem_of_getElem? (i := 7) rfl)) (hw _ (List.mem_of_getElem? (i := 8) rfl)) e0 (g := (mkF m 1 #[.val (.ref a)] [(.ref a)])) rfl (by rw [hml]; rfl) rfl (hb hby d4_1) (by decide) (W := 0) (by show 2 * 0 + _ ≤ _; exact Nat.le_of_eq rfl) (by decide)
  refine Goes.go (st1) ?_
  show Goes _ _ _ _ _ _ _ (T1.setTop (mkF m 4 _ []))
  exact Goes.outV X1 hx hlk hret (hb hby d4_4) e1 ⟨rfl, N0, rfl⟩ (by decide) (by decide)
theorem d3_0 : decode jdk_2005_method_2_code 0 = .ok (.aload_n 0, 1) := by decide +kernel
theorem d3_1 : decode jdk_2005_method_2_code 1 = .ok (.invokespecial 7, 3) := by decide +kernel
theorem d3_4 : decode jdk_2005_method_2_code 4 = .ok (.iload_n 1, 1) := by decide +kernel
theorem d3_5 : decode jdk_2005_method_2_code 5 = .ok (.ifCond .ge 30, 3) := by decide +kernel
theorem d3_8 : decode jdk_2005_method_2_code 8 = .ok (.new 12, 3) := by decide +kernel
theorem d3_11 : decode jdk_2005_method_2_code 11 = .ok (.dup, 1) := by decide +kernel
theorem d3_12 : decode jdk_2005_method_2_code 12 = .ok (.new 14, 3) := by decide +kernel
theorem d3_15 : decode jdk_2005_method_2_code 15 = .ok (.dup, 1) := by decide +kernel
theorem d3_16 : decode jdk_2005_method_2_code 16 = .ok (.invokespecial 16, 3) := by decide +kernel
theorem d3_19 : decode jdk_2005_method_2_code 19 = .ok (.ldc 17, 2) := by decide +kernel
theorem d3_21 : decode jdk_2005_method_2_code 21 = .ok (.invokevirtual 19, 3) := by decide +kernel
theorem d3_24 : decode jdk_2005_method_2_code 24 = .ok (.iload_n 1, 1) := by decide +kernel
theorem d3_25 : decode jdk_2005_method_2_code 25 = .ok (.invokevirtual 23, 3) := by decide +kernel
theorem d3_28 : decode jdk_2005_method_2_code 28 = .ok (.invokevirtual 26, 3) := by decide +kernel
theorem d3_31 : decode jdk_2005_method_2_code 31 = .ok (.invokespecial 30, 3) := by decide +kernel
theorem d3_34 : decode jdk_2005_method_2_code 34 = .ok (.athrow, 1) := by decide +kernel
theorem d3_35 : decode jdk_2005_method_2_code 35 = .ok (.aload_n 0, 1) := by decide +kernel
theorem d3_36 : decode jdk_2005_method_2_code 36 = .ok (.iload_n 1, 1) := by decide +kernel
theorem d3_37 : decode jdk_2005_method_2_code 37 = .ok (.newarray .byte, 2) := by decide +kernel
theorem d3_39 : decode jdk_2005_method_2_code 39 = .ok (.putfield 33, 3) := by decide +kernel
theorem d3_42 : decode jdk_2005_method_2_code 42 = .ok (.return_, 1) := by decide +kernel
theorem ef_rmBI (m : MethodId) (a : Addr) (p0 : Int32) : entryFrame m #[(.ref a), (.int p0)] 2 = mkF m 0 #[.val (.ref a), .val (.int p0)] [] := by first | (simp [entryFrame, mkF, argsToLocals, Value.category]; done) | rfl
def Q_rmBI (Z : State) (a : Addr) (p0 : Int32) (h0 : Heap) (n0 : Nat) (v : Option Value) (h : Heap) (L : List Loc) : Prop := v = none ∧ Fr n0 L ∧ ∃ x, Keep h0 h [a] ∧ n0 ≤ x ∧ Wst Z h a x []
set_option maxRecDepth 65536 in
set_option maxHeartbeats 40000000 in
theorem rmBI (l : Launch) (Z : State) (a0 : Array Value) (hw : ∀ d ∈ tables_1, d.before a0 Z = true) (wsC : List Jvm.Cond) (a : Addr) (p0 : Int32) (h0 : Heap) (n0 : Nat) (Z0 : n0 ≤ h0.size) (E0 : Exa Z h0 a "java/io/ByteArrayOutputStream") (Fb : Fld Z h0 a "java/io/ByteArrayOutputStream" "buf" "[B" .null) (Fc : Fld Z h0 a "java/io/ByteArrayOutputStream" "count" "I" (.int (0 : Int32))) (U0 : Unt h0 a) (ga : n0 ≤ a) (hp : p0 = (4 : Int32)) :
    MetFree l (⟨"java/io/ByteArrayOutputStream", "<init>", "(I)V"⟩ : MethodName) (head1 (Jvm.Cond.code (⟨"java/io/ByteArrayOutputStream", "<init>", "(I)V"⟩ : MethodName) jdk_2005_method_2_code 2 none :: wsC) ({ frames := 2, cells := 1, slots := 4, locals := 24 } : Room)) (fun aa U => aa = #[(.ref a), (.int p0)] ∧ Z.Warmed39 U.vm ∧ U.heap = h0) (fun _ _ _ _ _ => True) (fun _ U oo U' => ∃ v L, oo = .returned v ∧ Q_rmBI Z a p0 h0 n0 v U'.heap L ∧ FrameEnd U oo U' L ({ frames := 2, cells := 1, slots := 4, locals := 24 } : Room).cells ({ frames := 2, cells := 1, slots := 4, locals := 24 } : Room).slots) := by
  refine MetFree.of_bodySF (plainFor_of_name pn2) hisR ?_
  intro p e s m args below meth c s₁ Bd hml0 hP hK
  obtain ⟨rfl, hZ, hh⟩ := hP
  have hx := Bd.exec
  have hby := Bd.bytes
  have hml : c.maxLocals = 2 := hml0
  have hown : s.vm.findClass "java/io/ByteArrayOutputStream" = some m.cls := findClass_of_methodNamed Bd.named
  have hnm := (name_of_methodNamed Bd.named Bd.method).1
  have hlk : meth.locks = false := Bd.notSynchronized
  have hret := Bd.returns
  have X0 : Stand p l e ({ frames := 2, cells := 1, slots := 4, locals := 24 } : Room) s m #[(.ref a), (.int p0)] below meth c s₁ [] 0 0 := Stand.of_body Bd
  have e0 : s₁.heap = h0 := by rw [← hh, Bd.state]; rfl
  have N0 := Fr.nil n0
  have K0 : Keep h0 h0 [a] := Keep.refl _ _
  show Goes p e below s (Q_rmBI Z a p0 h0 n0) ({ frames := 2, cells := 1, slots := 4, locals := 24 } : Room).cells ({ frames := 2, cells := 1, slots := 4, locals := 24 } : Room).slots _
  refine Goes.go (fun _ kk => castTop (ef_rmBI m a p0) kk) ?_
  subst hp
  show Goes _ _ _ _ _ _ _ (s₁.setTop (mkF m 0 #[.val (.ref a), .val (.int (4 : Int32))] []))
  refine Goes.go (fun _ kk => XS.aloadN X0.here hx rfl (hb hby d3_0) rfl rfl kk) ?_
  show Goes _ _ _ _ _ _ _ (s₁.setTop (mkF m 1 _ [(.ref a)]))
  obtain ⟨_, _, ⟨T1, L1, k1, n1⟩, -, X1, ⟨Lc1, hQ1, l1, y1, z1⟩, st1⟩ := X0.specialBack hx (y := (⟨"java/io/OutputStream", "<init>", "()V"⟩ : MethodName)) rfl hown (mvT hZ (hw _ (List.mem_of_getElem? (i := 15) rfl))) (mvT hZ (hw _ (List.mem_of_getElem? (i := 16) rfl))) (mvT hZ (hw _ (List.mem_of_getElem? (i := 20) rfl))) (by decide) (backOf (W := 0) (rmO l Z a0 hw [] a h0 n0 Z0) hZ (hw _ (List.mem_of_getElem? (i := 20) rfl)) (hw _ (List.mem_of_getElem? (i := 19) rfl)) (by decide) (by decide)) (g := (mkF m 1 #[.val (.ref a), .val (.int (4 : Int32))] [(.ref a)])) rfl (by rw [hml]; rfl) (Steps.refl _) (a := a) (argsL := []) (rest := []) (lenOf pd1 rfl) rfl (by show 2 * 0 + _ ≤ _; exact Nat.le_of_eq rfl) (hb hby d3_1) (fun _ _ => ⟨rfl, e0, (by decide : 0 + 0 ≤ _), (by decide : 0 + 0 ≤ _)⟩)
  dsimp only [Pt.U, Pt.locs, Pt.cells, Pt.slots] at X1 l1 y1 z1 st1 hQ1
  subst l1 y1 z1
  obtain ⟨rfl, Nq1, hh1⟩ := hQ1
  have N1 := Fr.app N0 Nq1
  refine Goes.go (fun _ kk => st1.trans kk) ?_
  show Goes _ _ _ _ _ _ _ (T1.setTop (mkF m 4 _ []))
  refine Goes.go (fun _ kk => XS.iloadN X1.here hx rfl (hb hby d3_4) rfl kk) ?_
  show Goes _ _ _ _ _ _ _ (T1.setTop (mkF m 5 _ [(.int (4 : Int32))]))
  refine Goes.go (fun _ kk => XS.ifYes X1.here hx rfl (pc0 := 5) (pc' := 35) rfl (hb hby d3_5) rfl (XT.i0_ge_t (by decide)) (by decide) (by decide) kk) ?_
  show Goes _ _ _ _ _ _ _ (T1.setTop (mkF m 35 _ []))
  refine Goes.go (fun _ kk => XS.aloadN X1.here hx rfl (hb hby d3_35) rfl rfl kk) ?_
  show Goes _ _ _ _ _ _ _ (T1.setTop (mkF m 36 _ [(.ref a)]))
  refine Goes.go (fun _ kk => XS.iloadN X1.here hx rfl (hb hby d3_36) rfl kk) ?_
  show Goes _ _ _ _ _ _ _ (T1.setTop (mkF m 37 _ [(.int (4 : Int32)), (.ref a)]))
  obtain ⟨T2, h2, X2, e2, E2, A2, Ex2, st2⟩ := own_newPE X1 hx hZ (hw _ (List.mem_of_getElem? (i := 22) rfl)) hh1 (g := (mkF m 37 #[.val (.ref a), .val (.int (4 : Int32))] [(.int (4 : Int32)), (.ref a)])) rfl (hb hby d3_37) rfl (n := (4 : Int32)) (by decide) (cap := 4) (by decide) (by decide) (by decide) (by decide)
  obtain ⟨x37, gx37⟩ : ∃ z, z = h0.size := ⟨_, rfl⟩
  rw [← gx37] at A2 Ex2 st2
  have ne_a_x37 : a ≠ x37 := by rw [gx37]; exact Nat.ne_of_lt E0.lt
  have f := Exa.ext E2 E0
  have f_1 := Unt.ext E2 U0
  have f_2 := Fld.ext E2 Fb
  have f_3 := Fld.ext E2 Fc
  have Z2 : n0 ≤ h2.size := Nat.le_trans Z0 E2.1
  have ge_x37 : n0 ≤ x37 := Nat.le_trans Z0 (Nat.le_of_eq gx37.symm)
  have kge_x37 : h0.size ≤ x37 := by rw [gx37]; exact K0.1
  have K2 := K0.ext E2
  refine Goes.go (st2) ?_
  show Goes _ _ _ _ _ _ _ (T2.setTop (mkF m 39 _ [(.ref x37), (.ref a)]))
  obtain ⟨T3, h3, X3, e3, W3, st3⟩ := putF X2 hx hZ hown (host := "") (Or.inl (hw _ (List.mem_of_getElem? (i := 23) rfl))) Via.refl e2 f_2 f (Or.inl (hw _ (List.mem_of_getElem? (i := 24) rfl))) (hw _ (List.mem_of_getElem? (i := 10) rfl)) (ty := (.array .byte)) (by decide) rfl rfl (g := (mkF m 39 #[.val (.ref a), .val (.int (4 : Int32))] [(.ref x37), (.ref a)])) rfl rfl (hb hby d3_39)
  have N3 := Fr.snoc X3 N1 ga
  have f_4 := Exa.wr W3 f
  have f_5 := Unt.wr W3 f_1
  have f_6 := Fld.other W3 f_3 (Or.inr (slot_ne (Or.inl (hw _ (List.mem_of_getElem? (i := 43) rfl))) (Or.inl (hw _ (List.mem_of_getElem? (i := 24) rfl))) (by decide) (t := .int) (t' := (.array .byte)) (by decide) (by decide)))
  have f_7 := Exa.wr W3 Ex2
  have f_8 := Arl.other A2 W3 ne_a_x37.symm
  have f_9 := Fld.same W3 f_2
  have Z3 : n0 ≤ h3.size := by rw [W3.size]; exact Z2
  have K3 := K2.wr W3 (Or.inl (List.mem_of_getElem? (i := 0) rfl))
  refine Goes.go (st3) ?_
  show Goes _ _ _ _ _ _ _ (T3.setTop (mkF m 42 _ []))
  exact Goes.outV X3 hx hlk hret (hb hby d3_42) e3 ⟨rfl, N3, x37, K3, ge_x37, f_4, f_9, f_6, f_8, f_7, f_5⟩ (by decide) (by decide)
theorem d1_0 : decode prog_32_method_1_code 0 = .ok (.aload_n 0, 1) := by decide +kernel
theorem d1_1 : decode prog_32_method_1_code 1 = .ok (.invokespecial 1, 3) := by decide +kernel
theorem d1_4 : decode prog_32_method_1_code 4 = .ok (.aload_n 0, 1) := by decide +kernel
theorem d1_5 : decode prog_32_method_1_code 5 = .ok (.new 7, 3) := by decide +kernel
theorem d1_8 : decode prog_32_method_1_code 8 = .ok (.dup, 1) := by decide +kernel
theorem d1_9 : decode prog_32_method_1_code 9 = .ok (.iload_n 1, 1) := by decide +kernel
theorem d1_10 : decode prog_32_method_1_code 10 = .ok (.invokespecial 9, 3) := by decide +kernel
theorem d1_13 : decode prog_32_method_1_code 13 = .ok (.putfield 12, 3) := by decide +kernel
theorem d1_16 : decode prog_32_method_1_code 16 = .ok (.return_, 1) := by decide +kernel
theorem pn4 : plainName "com/example/countermand/countermand/Packed$Writer" = true := by first | (simp [plainName, overriddenIn]; done) | decide +kernel
theorem ef_rmWI (m : MethodId) (a : Addr) (p0 : Int32) : entryFrame m #[(.ref a), (.int p0)] 2 = mkF m 0 #[.val (.ref a), .val (.int p0)] [] := by first | (simp [entryFrame, mkF, argsToLocals, Value.category]; done) | rfl
def Q_rmWI (Z : State) (a : Addr) (p0 : Int32) (h0 : Heap) (n0 : Nat) (v : Option Value) (h : Heap) (L : List Loc) : Prop := v = none ∧ Fr n0 L ∧ ∃ ob x, Keep h0 h [a] ∧ n0 ≤ ob ∧ n0 ≤ x ∧ Exa Z h a "com/example/countermand/countermand/Packed$Writer" ∧ Fld Z h a "com/example/countermand/countermand/Packed$Writer" "out" "Ljava/io/ByteArrayOutputStream;" (.ref ob) ∧ Wst Z h ob x []
set_option maxRecDepth 65536 in
set_option maxHeartbeats 40000000 in
theorem rmWI (l : Launch) (Z : State) (a0 : Array Value) (hw : ∀ d ∈ tables_1, d.before a0 Z = true) (wsC : List Jvm.Cond) (a : Addr) (p0 : Int32) (h0 : Heap) (n0 : Nat) (Z0 : n0 ≤ h0.size) (E0 : Exa Z h0 a "com/example/countermand/countermand/Packed$Writer") (Fo : Fld Z h0 a "com/example/countermand/countermand/Packed$Writer" "out" "Ljava/io/ByteArrayOutputStream;" .null) (ga : n0 ≤ a) (hp : p0 = (4 : Int32)) :
    MetFree l (⟨"com/example/countermand/countermand/Packed$Writer", "<init>", "(I)V"⟩ : MethodName) (head1 (Jvm.Cond.code (⟨"com/example/countermand/countermand/Packed$Writer", "<init>", "(I)V"⟩ : MethodName) prog_32_method_1_code 2 none :: wsC) ({ frames := 3, cells := 2, slots := 6, locals := 39 } : Room)) (fun aa U => aa = #[(.ref a), (.int p0)] ∧ Z.Warmed39 U.vm ∧ U.heap = h0) (fun _ _ _ _ _ => True) (fun _ U oo U' => ∃ v L, oo = .returned v ∧ Q_rmWI Z a p0 h0 n0 v U'.heap L ∧ FrameEnd U oo U' L ({ frames := 3, cells := 2, slots := 6, locals := 39 } : Room).cells ({ frames := 3, cells := 2, slots := 6, locals := 39 } : Room).slots) := by
  refine MetFree.of_bodySF (plainFor_of_name pn4) hisR ?_
  intro p e s m args below meth c s₁ Bd hml0 hP hK
  obtain ⟨rfl, hZ, hh⟩ := hP
  have hx := Bd.exec
  have hby := Bd.bytes
  have hml : c.maxLocals = 2 := hml0
  have hown : s.vm.findClass "com/example/countermand/countermand/Packed$Writer" = some m.cls := findClass_of_methodNamed Bd.named
  have hnm := (name_of_methodNamed Bd.named Bd.method).1
  have hlk : meth.locks = false := Bd.notSynchronized
  have hret := Bd.returns
  have X0 : Stand p l e ({ frames := 3, cells := 2, slots := 6, locals := 39 } : Room) s m #[(.ref a), (.int p0)] below meth c s₁ [] 0 0 := Stand.of_body Bd
  have e0 : s₁.heap = h0 := by rw [← hh, Bd.state]; rfl
  have N0 := Fr.nil n0
  have K0 : Keep h0 h0 [a] := Keep.refl _ _
  show Goes p e below s (Q_rmWI Z a p0 h0 n0) ({ frames := 3, cells := 2, slots := 6, locals := 39 } : Room).cells ({ frames := 3, cells := 2, slots := 6, locals := 39 } : Room).slots _
  refine Goes.go (fun _ kk => castTop (ef_rmWI m a p0) kk) ?_
  subst hp
  show Goes _ _ _ _ _ _ _ (s₁.setTop (mkF m 0 #[.val (.ref a), .val (.int (4 : Int32))] []))
  refine Goes.go (fun _ kk => XS.aloadN X0.here hx rfl (hb hby d1_0) rfl rfl kk) ?_
  show Goes _ _ _ _ _ _ _ (s₁.setTop (mkF m 1 _ [(.ref a)]))
  obtain ⟨T1, X1, e1, st1⟩ := initO X0 hx hZ hown (hw _ (List.mem_of_getElem? (i := 6) rfl)) (hw _ (List.mem_of_getElem? (i := 7) rfl)) (hw _ (List.mem_of_getElem? (i := 8) rfl)) e0 (g := (mkF m 1 #[.val (.ref a), .val (.int (4 : Int32))] [(.ref a)])) rfl (by rw [hml]; rfl) rfl (hb hby d1_1) (by decide) (W := 0) (by show 2 * 0 + _ ≤ _; exact Nat.le_of_eq rfl) (by decide)
  refine Goes.go (st1) ?_
  show Goes _ _ _ _ _ _ _ (T1.setTop (mkF m 4 _ []))
  refine Goes.go (fun _ kk => XS.aloadN X1.here hx rfl (hb hby d1_4) rfl rfl kk) ?_
  show Goes _ _ _ _ _ _ _ (T1.setTop (mkF m 5 _ [(.ref a)]))
  obtain ⟨T2, h2, X2, e2, E2, A2, D2, U2, st2⟩ := newO X1 hx hZ hown (hw _ (List.mem_of_getElem? (i := 9) rfl)) (hw _ (List.mem_of_getElem? (i := 10) rfl)) (hw _ (List.mem_of_getElem? (i := 11) rfl)) e1 (g := (mkF m 5 #[.val (.ref a), .val (.int (4 : Int32))] [(.ref a)])) rfl (hb hby d1_5) (by decide) (by decide)
  obtain ⟨ob5, gob5⟩ : ∃ z, z = h0.size := ⟨_, rfl⟩
  rw [← gob5] at A2 D2 U2 st2
  have ne_a_ob5 : a ≠ ob5 := by rw [gob5]; exact Nat.ne_of_lt E0.lt
  have f := Exa.ext E2 E0
  have f_1 := Fld.ext E2 Fo
  have Z2 : n0 ≤ h2.size := Nat.le_trans Z0 E2.1
  have ge_ob5 : n0 ≤ ob5 := Nat.le_trans Z0 (Nat.le_of_eq gob5.symm)
  have kge_ob5 : h0.size ≤ ob5 := by rw [gob5]; exact K0.1
  have f_2 : Fld Z h2 ob5 "java/io/ByteArrayOutputStream" "buf" "[B" .null := D2 (Or.inl (hw _ (List.mem_of_getElem? (i := 24) rfl))) (ty := (.array .byte)) (by decide)
  have f_3 : Fld Z h2 ob5 "java/io/ByteArrayOutputStream" "count" "I" (.int (0 : Int32)) := D2 (Or.inl (hw _ (List.mem_of_getElem? (i := 43) rfl))) (ty := .int) (by decide)
  have K2 := K0.ext E2
  refine Goes.go (st2) ?_
  show Goes _ _ _ _ _ _ _ (T2.setTop (mkF m 8 _ [(.ref ob5), (.ref a)]))
  refine Goes.go (fun _ kk => XS.dup X2.here hx rfl (hb hby d1_8) rfl rfl kk) ?_
  show Goes _ _ _ _ _ _ _ (T2.setTop (mkF m 9 _ [(.ref ob5), (.ref ob5), (.ref a)]))
  refine Goes.go (fun _ kk => XS.iloadN X2.here hx rfl (hb hby d1_9) rfl kk) ?_
  show Goes _ _ _ _ _ _ _ (T2.setTop (mkF m 10 _ [(.int (4 : Int32)), (.ref ob5), (.ref ob5), (.ref a)]))
  obtain ⟨_, _, ⟨T3, L3, k3, n3⟩, -, X3, ⟨Lc3, hQ3, l3, y3, z3⟩, st3⟩ := X2.specialBack hx (y := (⟨"java/io/ByteArrayOutputStream", "<init>", "(I)V"⟩ : MethodName)) rfl hown (mvT hZ (hw _ (List.mem_of_getElem? (i := 12) rfl))) (mvT hZ (hw _ (List.mem_of_getElem? (i := 13) rfl))) (mvT hZ (hw _ (List.mem_of_getElem? (i := 14) rfl))) (by decide) (backOf (W := 2) (rmBI l Z a0 hw [] ob5 (4 : Int32) h2 n0 Z2 A2 f_2 f_3 U2 ge_ob5 rfl) hZ (hw _ (List.mem_of_getElem? (i := 14) rfl)) (hw _ (List.mem_of_getElem? (i := 11) rfl)) (by decide) (by decide)) (g := (mkF m 10 #[.val (.ref a), .val (.int (4 : Int32))] [(.int (4 : Int32)), (.ref ob5), (.ref ob5), (.ref a)])) rfl (by rw [hml]; rfl) (Steps.refl _) (a := ob5) (argsL := [(.int (4 : Int32))]) (rest := [(.ref ob5), (.ref a)]) (lenOf pd0 rfl) rfl (by show 2 * 0 + _ ≤ _; exact Nat.le_of_eq rfl) (hb hby d1_10) (fun _ _ => ⟨rfl, e2, (by decide : 1 + 1 ≤ _), (by decide : 2 + 4 ≤ _)⟩)
  dsimp only [Pt.U, Pt.locs, Pt.cells, Pt.slots] at X3 l3 y3 z3 st3 hQ3
  subst l3 y3 z3
  obtain ⟨rfl, Nq3, x3, Kq3, gq3, wq3⟩ := hQ3
  have N3 := Fr.app N0 Nq3
  have Z3 : n0 ≤ T3.heap.size := Nat.le_trans Z2 Kq3.1
  have f_4 := Exa.keep f Kq3
  have f_5 := Fld.keep f_1 Kq3 (ninS ne_a_ob5 nin0)
  have f_6 := Exa.keep A2 Kq3
  have K3 := K2.trans Kq3 (allS (Or.inr kge_ob5) all0)
  have ne_a_x3 : a ≠ x3 := ne_exa f_4 wq3.2.2.2.2.1 (by decide)
  refine Goes.go (fun _ kk => st3.trans kk) ?_
  show Goes _ _ _ _ _ _ _ (T3.setTop (mkF m 13 _ [(.ref ob5), (.ref a)]))
  obtain ⟨T4, h4, X4, e4, W4, st4⟩ := putF X3 hx hZ hown (host := "") (Or.inl (hw _ (List.mem_of_getElem? (i := 25) rfl))) Via.refl rfl f_5 f_4 (Or.inr ⟨(hw _ (List.mem_of_getElem? (i := 26) rfl)), rfl, hnm⟩) (hw _ (List.mem_of_getElem? (i := 1) rfl)) (ty := (.object "java/io/ByteArrayOutputStream")) (by decide) rfl rfl (g := (mkF m 13 #[.val (.ref a), .val (.int (4 : Int32))] [(.ref ob5), (.ref a)])) rfl rfl (hb hby d1_13)
  have N4 := Fr.snoc X4 N3 ga
  have f_7 := Exa.wr W4 f_4
  have f_8 := Wst.other wq3 W4 ne_a_ob5.symm ne_a_x3.symm
  have f_9 := Fld.same W4 f_5
  have Z4 : n0 ≤ h4.size := by rw [W4.size]; exact Z3
  have K4 := K3.wr W4 (Or.inl (List.mem_of_getElem? (i := 0) rfl))
  refine Goes.go (st4) ?_
  show Goes _ _ _ _ _ _ _ (T4.setTop (mkF m 16 _ []))
  exact Goes.outV X4 hx hlk hret (hb hby d1_16) e4 ⟨rfl, N4, ob5, x3, K4, ge_ob5, gq3, f_7, f_9, f_8⟩ (by decide) (by decide)
theorem d6_0 : decode prog_32_method_8_code 0 = .ok (.lload_n 1, 1) := by decide +kernel
theorem d6_1 : decode prog_32_method_8_code 1 = .ok (.lstore_n 3, 1) := by decide +kernel
theorem d6_2 : decode prog_32_method_8_code 2 = .ok (.lload_n 3, 1) := by decide +kernel
theorem d6_3 : decode prog_32_method_8_code 3 = .ok (.ldc2_w 58, 3) := by decide +kernel
theorem d6_6 : decode prog_32_method_8_code 6 = .ok (.land, 1) := by decide +kernel
theorem d6_7 : decode prog_32_method_8_code 7 = .ok (.lconst 0, 1) := by decide +kernel
theorem d6_8 : decode prog_32_method_8_code 8 = .ok (.lcmp, 1) := by decide +kernel
theorem d6_9 : decode prog_32_method_8_code 9 = .ok (.ifCond .eq 28, 3) := by decide +kernel
theorem d6_12 : decode prog_32_method_8_code 12 = .ok (.aload_n 0, 1) := by decide +kernel
theorem d6_13 : decode prog_32_method_8_code 13 = .ok (.getfield 12, 3) := by decide +kernel
theorem d6_16 : decode prog_32_method_8_code 16 = .ok (.lload_n 3, 1) := by decide +kernel
theorem d6_17 : decode prog_32_method_8_code 17 = .ok (.ldc2_w 60, 3) := by decide +kernel
theorem d6_20 : decode prog_32_method_8_code 20 = .ok (.land, 1) := by decide +kernel
theorem d6_21 : decode prog_32_method_8_code 21 = .ok (.l2i, 1) := by decide +kernel
theorem d6_22 : decode prog_32_method_8_code 22 = .ok (.sipush 128, 3) := by decide +kernel
theorem d6_25 : decode prog_32_method_8_code 25 = .ok (.ior, 1) := by decide +kernel
theorem d6_26 : decode prog_32_method_8_code 26 = .ok (.invokevirtual 56, 3) := by decide +kernel
theorem d6_29 : decode prog_32_method_8_code 29 = .ok (.lload_n 3, 1) := by decide +kernel
theorem d6_30 : decode prog_32_method_8_code 30 = .ok (.bipush 7, 2) := by decide +kernel
theorem d6_32 : decode prog_32_method_8_code 32 = .ok (.lushr, 1) := by decide +kernel
theorem d6_33 : decode prog_32_method_8_code 33 = .ok (.lstore_n 3, 1) := by decide +kernel
theorem d6_34 : decode prog_32_method_8_code 34 = .ok (.goto (-32), 3) := by decide +kernel
theorem d6_37 : decode prog_32_method_8_code 37 = .ok (.aload_n 0, 1) := by decide +kernel
theorem d6_38 : decode prog_32_method_8_code 38 = .ok (.getfield 12, 3) := by decide +kernel
theorem d6_41 : decode prog_32_method_8_code 41 = .ok (.lload_n 3, 1) := by decide +kernel
theorem d6_42 : decode prog_32_method_8_code 42 = .ok (.l2i, 1) := by decide +kernel
theorem d6_43 : decode prog_32_method_8_code 43 = .ok (.invokevirtual 56, 3) := by decide +kernel
theorem d6_46 : decode prog_32_method_8_code 46 = .ok (.return_, 1) := by decide +kernel
set_option maxRecDepth 65536 in
set_option maxHeartbeats 40000000 in
theorem lpW {p : Program} {l : Launch} {e : Env} {s : State} {m : MethodId} {args : Array Value} {below : List Frame} {meth : Method} {c : Code} {Q : Option Value → Heap → List Loc → Prop} {Z : State} {a0 : Array Value} (hw : ∀ d ∈ tables_1, d.before a0 Z = true) (hx : p.tables.exec = Jvm.exec) (hby : c.code = prog_32_method_8_code) (hml : c.maxLocals = 5) (hown : s.vm.findClass "com/example/countermand/countermand/Packed$Writer" = some m.cls) (hnm : meth.name = "sevenBits") (hlk : meth.locks = false) (hret : meth.sig.returnType = none) (hZ : Z.Warmed39 s.vm) (n0 : Nat) (a ob bb0 : Addr) (p0 : Int64) (go : n0 ≤ ob) (hS : Heap) (f : Nat) :
    ∀ (r : Int64) (ws : List Int8) (bb : Addr) (kk sl : Nat) {T : State} {locs : List Loc} {h0 : Heap} (Z0 : n0 ≤ h0.size) (X0 : Stand p l e ({ frames := 4, cells := 3, slots := 96, locals := 86 } : Room) s m args below meth c T locs kk sl) (e0 : T.heap = h0) (N0 : Fr n0 locs) (K0 : Keep hS h0 [ob, bb0]) (hbb : bb ∈ [ob, bb0] ∨ hS.size ≤ bb) (gb : n0 ≤ bb) (E0 : Exa Z h0 a "com/example/countermand/countermand/Packed$Writer") (Fo : Fld Z h0 a "com/example/countermand/countermand/Packed$Writer" "out" "Ljava/io/ByteArrayOutputStream;" (.ref ob)) (w : Wst Z h0 ob bb ws) (hr : small f r) (hlen : ws.length + f + 1 ≤ 20) (hkk : kk + gl ws.length ≤ 3) (hsl : sl + 32 * gl ws.length ≤ 96)
      (hQ : ∀ h L x, Fr n0 L → Keep hS h [ob, bb0] → n0 ≤ x → Exa Z h a "com/example/countermand/countermand/Packed$Writer" → Fld Z h a "com/example/countermand/countermand/Packed$Writer" "out" "Ljava/io/ByteArrayOutputStream;" (.ref ob) → Wst Z h ob x (ws ++ enc f r) → Q none h L),
      Goes p e below s Q 3 96 (T.setTop (mkF m 2 #[.val (.ref a), .val (.long p0), .second, .val (.long r), .second] [])) := by
  induction f with
  | zero =>
    intro r ws bb kk sl T locs h0 Z0 X0 e0 N0 K0 hbb gb E0 Fo w hr hlen hkk hsl hQ
    have c9 := small0 hr
    show Goes _ _ _ _ _ _ _ (T.setTop (mkF m 2 #[.val (.ref a), .val (.long p0), .second, .val (.long r), .second] []))
    refine Goes.go (fun _ kk => XS.lloadN X0.here hx rfl (hb hby d6_2) rfl kk) ?_
    show Goes _ _ _ _ _ _ _ (T.setTop (mkF m 3 _ [(.long r)]))
    refine Goes.go (fun _ kk => X0.ldc2J hx (v := (-128 : Int64)) hown (mvT hZ (hw _ (List.mem_of_getElem? (i := 36) rfl))) rfl (hb hby d6_3) kk) ?_
    show Goes _ _ _ _ _ _ _ (T.setTop (mkF m 6 _ [(.long (-128 : Int64)), (.long r)]))
    refine Goes.go (fun _ kk => XS.land X0.here hx rfl (hb hby d6_6) rfl kk) ?_
    show Goes _ _ _ _ _ _ _ (T.setTop (mkF m 7 _ [(.long (r &&& (-128 : Int64)))]))
    refine Goes.go (fun _ kk => XS.lconst X0.here hx rfl (hb hby d6_7) kk) ?_
    show Goes _ _ _ _ _ _ _ (T.setTop (mkF m 8 _ [(.long (0 : Int64)), (.long (r &&& (-128 : Int64)))]))
    refine Goes.go (fun _ kk => XT.lcmp X0.here hx rfl (hb hby d6_8) rfl kk) ?_
    show Goes _ _ _ _ _ _ _ (T.setTop (mkF m 9 _ [(.int (XT.cmpL (r &&& (-128 : Int64)) (0 : Int64)))]))
    refine Goes.go (fun _ kk => XS.ifYes X0.here hx rfl (pc0 := 9) (pc' := 37) rfl (hb hby d6_9) rfl (XT.ll_eq_t c9) (by decide) (by decide) kk) ?_
    show Goes _ _ _ _ _ _ _ (T.setTop (mkF m 37 _ []))
    refine Goes.go (fun _ kk => XS.aloadN X0.here hx rfl (hb hby d6_37) rfl rfl kk) ?_
    show Goes _ _ _ _ _ _ _ (T.setTop (mkF m 38 _ [(.ref a)]))
    obtain ⟨T1, X1, e1, st1⟩ := getF X0 hx hZ hown (host := "") (Or.inl (hw _ (List.mem_of_getElem? (i := 25) rfl))) Via.refl e0 Fo (g := (mkF m 38 #[.val (.ref a), .val (.long p0), .second, .val (.long r), .second] [(.ref a)])) rfl rfl (hb hby d6_38)
    refine Goes.go (st1) ?_
    show Goes _ _ _ _ _ _ _ (T1.setTop (mkF m 41 _ [(.ref ob)]))
    refine Goes.go (fun _ kk => XS.lloadN X1.here hx rfl (hb hby d6_41) rfl kk) ?_
    show Goes _ _ _ _ _ _ _ (T1.setTop (mkF m 42 _ [(.long r), (.ref ob)]))
    refine Goes.go (fun _ kk => XS.l2i X1.here hx rfl (hb hby d6_42) rfl kk) ?_
    show Goes _ _ _ _ _ _ _ (T1.setTop (mkF m 43 _ [(.int (r).toInt32), (.ref ob)]))
    rcases cap_or (k := ws.length) (by omega) with hk | hk
    · skip
      have qg := gl_s hk
      show Goes _ _ _ _ _ _ _ (T1.setTop (mkF m 43 _ [(.int (r).toInt32), (.ref ob)]))
      obtain ⟨cq2, kq2, qa2, qb2, qc2⟩ := isOf hZ e1 w.1
      obtain ⟨_, _, ⟨T2, L2, k2, n2⟩, -, X2, ⟨Lc2, hQ2, l2, y2, z2⟩, st2⟩ := X1.virtualBack hx (y := (⟨"java/io/ByteArrayOutputStream", "write", "(I)V"⟩ : MethodName)) (z := (⟨"java/io/ByteArrayOutputStream", "write", "(I)V"⟩ : MethodName)) hown (mvT hZ (hw _ (List.mem_of_getElem? (i := 37) rfl))) (mvT hZ (hw _ (List.mem_of_getElem? (i := 38) rfl))) (notFace_of_selects (args := #[]) (mvT hZ (hw _ (List.mem_of_getElem? (i := 40) rfl)))) (mvT hZ (hw _ (List.mem_of_getElem? (i := 40) rfl))) (mvT hZ (hw _ (List.mem_of_getElem? (i := 39) rfl))) (by decide) (own_backS (W := 0) (rmW0 l Z a0 hw [] ob (r).toInt32 bb ws h0 n0 Z0 w go gb hk (by omega)) hZ (hw _ (List.mem_of_getElem? (i := 41) rfl)) (hw _ (List.mem_of_getElem? (i := 39) rfl)) (hw _ (List.mem_of_getElem? (i := 11) rfl)) w.2.2.2.2.2 (by decide) (by decide)) qa2 qc2 (g := (mkF m 43 #[.val (.ref a), .val (.long p0), .second, .val (.long r), .second] [(.int (r).toInt32), (.ref ob)])) rfl (by rw [hml]; rfl) (Steps.refl _) (argsL := [(.int (r).toInt32)]) (rest := []) (lenOf pd0 rfl) rfl (by show 2 * 0 + _ ≤ _; exact Nat.le_of_eq rfl) (hb hby d6_43) (fun _ _ => ⟨rfl, e1, (by show kk + 0 ≤ 3; omega), (by show sl + 0 ≤ 96; omega)⟩)
      dsimp only [Pt.U, Pt.locs, Pt.cells, Pt.slots] at X2 l2 y2 z2 st2 hQ2
      subst l2 y2 z2
      obtain ⟨rfl, Nq2, x2, Kq2, gq2, oq2, wq2⟩ := hQ2
      have N2 := Fr.app N0 Nq2
      have Z2 : n0 ≤ T2.heap.size := Nat.le_trans Z0 Kq2.1
      have E2 := Exa.keep E0 Kq2
      have F2 := Fld.keep Fo Kq2 (ninS (ne_exa E0 w.1 (by decide)) (ninS (ne_exa E0 w.2.2.2.2.1 (by decide)) nin0))
      have K2 := K0.trans Kq2 (allS (Or.inl (List.mem_of_getElem? (i := 0) rfl)) (allS hbb all0))
      have hbb2 : x2 ∈ [ob, bb0] ∨ hS.size ≤ x2 := oq2.elim (fun q => q ▸ hbb) (fun q => Or.inr (Nat.le_trans K0.1 q))
      refine Goes.go (fun _ kk => st2.trans kk) ?_
      show Goes _ _ _ _ _ _ _ (T2.setTop (mkF m 46 _ []))
      exact Goes.outV X2 hx hlk hret (hb hby d6_46) rfl (hQ _ _ _ N2 K2 gq2 E2 F2 wq2) (by omega) (by omega)
    · skip
      have qg := (capOf_g hk).2.2
      show Goes _ _ _ _ _ _ _ (T1.setTop (mkF m 43 _ [(.int (r).toInt32), (.ref ob)]))
      obtain ⟨cq2, kq2, qa2, qb2, qc2⟩ := isOf hZ e1 w.1
      obtain ⟨_, _, ⟨T2, L2, k2, n2⟩, -, X2, ⟨Lc2, hQ2, l2, y2, z2⟩, st2⟩ := X1.virtualBack hx (y := (⟨"java/io/ByteArrayOutputStream", "write", "(I)V"⟩ : MethodName)) (z := (⟨"java/io/ByteArrayOutputStream", "write", "(I)V"⟩ : MethodName)) hown (mvT hZ (hw _ (List.mem_of_getElem? (i := 37) rfl))) (mvT hZ (hw _ (List.mem_of_getElem? (i := 38) rfl))) (notFace_of_selects (args := #[]) (mvT hZ (hw _ (List.mem_of_getElem? (i := 40) rfl)))) (mvT hZ (hw _ (List.mem_of_getElem? (i := 40) rfl))) (mvT hZ (hw _ (List.mem_of_getElem? (i := 39) rfl))) (by decide) (own_backS (W := 0) (rmW1 l Z a0 hw [] ob (r).toInt32 bb ws h0 n0 Z0 w go gb hk (by omega)) hZ (hw _ (List.mem_of_getElem? (i := 41) rfl)) (hw _ (List.mem_of_getElem? (i := 39) rfl)) (hw _ (List.mem_of_getElem? (i := 11) rfl)) w.2.2.2.2.2 (by decide) (by decide)) qa2 qc2 (g := (mkF m 43 #[.val (.ref a), .val (.long p0), .second, .val (.long r), .second] [(.int (r).toInt32), (.ref ob)])) rfl (by rw [hml]; rfl) (Steps.refl _) (argsL := [(.int (r).toInt32)]) (rest := []) (lenOf pd0 rfl) rfl (by show 2 * 0 + _ ≤ _; exact Nat.le_of_eq rfl) (hb hby d6_43) (fun _ _ => ⟨rfl, e1, (by show kk + 1 ≤ 3; omega), (by show sl + 32 ≤ 96; omega)⟩)
      dsimp only [Pt.U, Pt.locs, Pt.cells, Pt.slots] at X2 l2 y2 z2 st2 hQ2
      subst l2 y2 z2
      obtain ⟨rfl, Nq2, x2, Kq2, gq2, oq2, wq2⟩ := hQ2
      have N2 := Fr.app N0 Nq2
      have Z2 : n0 ≤ T2.heap.size := Nat.le_trans Z0 Kq2.1
      have E2 := Exa.keep E0 Kq2
      have F2 := Fld.keep Fo Kq2 (ninS (ne_exa E0 w.1 (by decide)) (ninS (ne_exa E0 w.2.2.2.2.1 (by decide)) nin0))
      have K2 := K0.trans Kq2 (allS (Or.inl (List.mem_of_getElem? (i := 0) rfl)) (allS hbb all0))
      have hbb2 : x2 ∈ [ob, bb0] ∨ hS.size ≤ x2 := oq2.elim (fun q => q ▸ hbb) (fun q => Or.inr (Nat.le_trans K0.1 q))
      refine Goes.go (fun _ kk => st2.trans kk) ?_
      show Goes _ _ _ _ _ _ _ (T2.setTop (mkF m 46 _ []))
      exact Goes.outV X2 hx hlk hret (hb hby d6_46) rfl (hQ _ _ _ N2 K2 gq2 E2 F2 wq2) (by omega) (by omega)
  | succ f ih =>
    intro r ws bb kk sl T locs h0 Z0 X0 e0 N0 K0 hbb gb E0 Fo w hr hlen hkk hsl hQ
    show Goes _ _ _ _ _ _ _ (T.setTop (mkF m 2 #[.val (.ref a), .val (.long p0), .second, .val (.long r), .second] []))
    refine Goes.go (fun _ kk => XS.lloadN X0.here hx rfl (hb hby d6_2) rfl kk) ?_
    show Goes _ _ _ _ _ _ _ (T.setTop (mkF m 3 _ [(.long r)]))
    refine Goes.go (fun _ kk => X0.ldc2J hx (v := (-128 : Int64)) hown (mvT hZ (hw _ (List.mem_of_getElem? (i := 36) rfl))) rfl (hb hby d6_3) kk) ?_
    show Goes _ _ _ _ _ _ _ (T.setTop (mkF m 6 _ [(.long (-128 : Int64)), (.long r)]))
    refine Goes.go (fun _ kk => XS.land X0.here hx rfl (hb hby d6_6) rfl kk) ?_
    show Goes _ _ _ _ _ _ _ (T.setTop (mkF m 7 _ [(.long (r &&& (-128 : Int64)))]))
    refine Goes.go (fun _ kk => XS.lconst X0.here hx rfl (hb hby d6_7) kk) ?_
    show Goes _ _ _ _ _ _ _ (T.setTop (mkF m 8 _ [(.long (0 : Int64)), (.long (r &&& (-128 : Int64)))]))
    refine Goes.go (fun _ kk => XT.lcmp X0.here hx rfl (hb hby d6_8) rfl kk) ?_
    show Goes _ _ _ _ _ _ _ (T.setTop (mkF m 9 _ [(.int (XT.cmpL (r &&& (-128 : Int64)) (0 : Int64)))]))
    by_cases c9 : (r &&& (-128 : Int64)) = (0 : Int64)
    · skip
      refine Goes.go (fun _ kk => XS.ifYes X0.here hx rfl (pc0 := 9) (pc' := 37) rfl (hb hby d6_9) rfl (XT.ll_eq_t c9) (by decide) (by decide) kk) ?_
      show Goes _ _ _ _ _ _ _ (T.setTop (mkF m 37 _ []))
      refine Goes.go (fun _ kk => XS.aloadN X0.here hx rfl (hb hby d6_37) rfl rfl kk) ?_
      show Goes _ _ _ _ _ _ _ (T.setTop (mkF m 38 _ [(.ref a)]))
      obtain ⟨T1, X1, e1, st1⟩ := getF X0 hx hZ hown (host := "") (Or.inl (hw _ (List.mem_of_getElem? (i := 25) rfl))) Via.refl e0 Fo (g := (mkF m 38 #[.val (.ref a), .val (.long p0), .second, .val (.long r), .second] [(.ref a)])) rfl rfl (hb hby d6_38)
      refine Goes.go (st1) ?_
      show Goes _ _ _ _ _ _ _ (T1.setTop (mkF m 41 _ [(.ref ob)]))
      refine Goes.go (fun _ kk => XS.lloadN X1.here hx rfl (hb hby d6_41) rfl kk) ?_
      show Goes _ _ _ _ _ _ _ (T1.setTop (mkF m 42 _ [(.long r), (.ref ob)]))
      refine Goes.go (fun _ kk => XS.l2i X1.here hx rfl (hb hby d6_42) rfl kk) ?_
      show Goes _ _ _ _ _ _ _ (T1.setTop (mkF m 43 _ [(.int (r).toInt32), (.ref ob)]))
      rcases cap_or (k := ws.length) (by omega) with hk | hk
      · skip
        have qg := gl_s hk
        show Goes _ _ _ _ _ _ _ (T1.setTop (mkF m 43 _ [(.int (r).toInt32), (.ref ob)]))
        obtain ⟨cq2, kq2, qa2, qb2, qc2⟩ := isOf hZ e1 w.1
        obtain ⟨_, _, ⟨T2, L2, k2, n2⟩, -, X2, ⟨Lc2, hQ2, l2, y2, z2⟩, st2⟩ := X1.virtualBack hx (y := (⟨"java/io/ByteArrayOutputStream", "write", "(I)V"⟩ : MethodName)) (z := (⟨"java/io/ByteArrayOutputStream", "write", "(I)V"⟩ : MethodName)) hown (mvT hZ (hw _ (List.mem_of_getElem? (i := 37) rfl))) (mvT hZ (hw _ (List.mem_of_getElem? (i := 38) rfl))) (notFace_of_selects (args := #[]) (mvT hZ (hw _ (List.mem_of_getElem? (i := 40) rfl)))) (mvT hZ (hw _ (List.mem_of_getElem? (i := 40) rfl))) (mvT hZ (hw _ (List.mem_of_getElem? (i := 39) rfl))) (by decide) (own_backS (W := 0) (rmW0 l Z a0 hw [] ob (r).toInt32 bb ws h0 n0 Z0 w go gb hk (by omega)) hZ (hw _ (List.mem_of_getElem? (i := 41) rfl)) (hw _ (List.mem_of_getElem? (i := 39) rfl)) (hw _ (List.mem_of_getElem? (i := 11) rfl)) w.2.2.2.2.2 (by decide) (by decide)) qa2 qc2 (g := (mkF m 43 #[.val (.ref a), .val (.long p0), .second, .val (.long r), .second] [(.int (r).toInt32), (.ref ob)])) rfl (by rw [hml]; rfl) (Steps.refl _) (argsL := [(.int (r).toInt32)]) (rest := []) (lenOf pd0 rfl) rfl (by show 2 * 0 + _ ≤ _; exact Nat.le_of_eq rfl) (hb hby d6_43) (fun _ _ => ⟨rfl, e1, (by show kk + 0 ≤ 3; omega), (by show sl + 0 ≤ 96; omega)⟩)
        dsimp only [Pt.U, Pt.locs, Pt.cells, Pt.slots] at X2 l2 y2 z2 st2 hQ2
        subst l2 y2 z2
        obtain ⟨rfl, Nq2, x2, Kq2, gq2, oq2, wq2⟩ := hQ2
        have N2 := Fr.app N0 Nq2
        have Z2 : n0 ≤ T2.heap.size := Nat.le_trans Z0 Kq2.1
        have E2 := Exa.keep E0 Kq2
        have F2 := Fld.keep Fo Kq2 (ninS (ne_exa E0 w.1 (by decide)) (ninS (ne_exa E0 w.2.2.2.2.1 (by decide)) nin0))
        have K2 := K0.trans Kq2 (allS (Or.inl (List.mem_of_getElem? (i := 0) rfl)) (allS hbb all0))
        have hbb2 : x2 ∈ [ob, bb0] ∨ hS.size ≤ x2 := oq2.elim (fun q => q ▸ hbb) (fun q => Or.inr (Nat.le_trans K0.1 q))
        refine Goes.go (fun _ kk => st2.trans kk) ?_
        show Goes _ _ _ _ _ _ _ (T2.setTop (mkF m 46 _ []))
        exact Goes.outV X2 hx hlk hret (hb hby d6_46) rfl (hQ _ _ _ N2 K2 gq2 E2 F2 (enc_1 c9 ▸ wq2)) (by omega) (by omega)
      · skip
        have qg := (capOf_g hk).2.2
        show Goes _ _ _ _ _ _ _ (T1.setTop (mkF m 43 _ [(.int (r).toInt32), (.ref ob)]))
        obtain ⟨cq2, kq2, qa2, qb2, qc2⟩ := isOf hZ e1 w.1
        obtain ⟨_, _, ⟨T2, L2, k2, n2⟩, -, X2, ⟨Lc2, hQ2, l2, y2, z2⟩, st2⟩ := X1.virtualBack hx (y := (⟨"java/io/ByteArrayOutputStream", "write", "(I)V"⟩ : MethodName)) (z := (⟨"java/io/ByteArrayOutputStream", "write", "(I)V"⟩ : MethodName)) hown (mvT hZ (hw _ (List.mem_of_getElem? (i := 37) rfl))) (mvT hZ (hw _ (List.mem_of_getElem? (i := 38) rfl))) (notFace_of_selects (args := #[]) (mvT hZ (hw _ (List.mem_of_getElem? (i := 40) rfl)))) (mvT hZ (hw _ (List.mem_of_getElem? (i := 40) rfl))) (mvT hZ (hw _ (List.mem_of_getElem? (i := 39) rfl))) (by decide) (own_backS (W := 0) (rmW1 l Z a0 hw [] ob (r).toInt32 bb ws h0 n0 Z0 w go gb hk (by omega)) hZ (hw _ (List.mem_of_getElem? (i := 41) rfl)) (hw _ (List.mem_of_getElem? (i := 39) rfl)) (hw _ (List.mem_of_getElem? (i := 11) rfl)) w.2.2.2.2.2 (by decide) (by decide)) qa2 qc2 (g := (mkF m 43 #[.val (.ref a), .val (.long p0), .second, .val (.long r), .second] [(.int (r).toInt32), (.ref ob)])) rfl (by rw [hml]; rfl) (Steps.refl _) (argsL := [(.int (r).toInt32)]) (rest := []) (lenOf pd0 rfl) rfl (by show 2 * 0 + _ ≤ _; exact Nat.le_of_eq rfl) (hb hby d6_43) (fun _ _ => ⟨rfl, e1, (by show kk + 1 ≤ 3; omega), (by show sl + 32 ≤ 96; omega)⟩)
        dsimp only [Pt.U, Pt.locs, Pt.cells, Pt.slots] at X2 l2 y2 z2 st2 hQ2
        subst l2 y2 z2
        obtain ⟨rfl, Nq2, x2, Kq2, gq2, oq2, wq2⟩ := hQ2
        have N2 := Fr.app N0 Nq2
        have Z2 : n0 ≤ T2.heap.size := Nat.le_trans Z0 Kq2.1
        have E2 := Exa.keep E0 Kq2
        have F2 := Fld.keep Fo Kq2 (ninS (ne_exa E0 w.1 (by decide)) (ninS (ne_exa E0 w.2.2.2.2.1 (by decide)) nin0))
        have K2 := K0.trans Kq2 (allS (Or.inl (List.mem_of_getElem? (i := 0) rfl)) (allS hbb all0))
        have hbb2 : x2 ∈ [ob, bb0] ∨ hS.size ≤ x2 := oq2.elim (fun q => q ▸ hbb) (fun q => Or.inr (Nat.le_trans K0.1 q))
        refine Goes.go (fun _ kk => st2.trans kk) ?_
        show Goes _ _ _ _ _ _ _ (T2.setTop (mkF m 46 _ []))
        exact Goes.outV X2 hx hlk hret (hb hby d6_46) rfl (hQ _ _ _ N2 K2 gq2 E2 F2 (enc_1 c9 ▸ wq2)) (by omega) (by omega)
    · skip
      refine Goes.go (fun _ kk => XS.ifNo X0.here hx rfl (hb hby d6_9) rfl (XT.ll_eq_f c9) kk) ?_
      show Goes _ _ _ _ _ _ _ (T.setTop (mkF m 12 _ []))
      refine Goes.go (fun _ kk => XS.aloadN X0.here hx rfl (hb hby d6_12) rfl rfl kk) ?_
      show Goes _ _ _ _ _ _ _ (T.setTop (mkF m 13 _ [(.ref a)]))
      obtain ⟨T1, X1, e1, st1⟩ := getF X0 hx hZ hown (host := "") (Or.inl (hw _ (List.mem_of_getElem? (i := 25) rfl))) Via.refl e0 Fo (g := (mkF m 13 #[.val (.ref a), .val (.long p0), .second, .val (.long r), .second] [(.ref a)])) rfl rfl (hb hby d6_13)
      refine Goes.go (st1) ?_
      show Goes _ _ _ _ _ _ _ (T1.setTop (mkF m 16 _ [(.ref ob)]))
      refine Goes.go (fun _ kk => XS.lloadN X1.here hx rfl (hb hby d6_16) rfl kk) ?_
      show Goes _ _ _ _ _ _ _ (T1.setTop (mkF m 17 _ [(.long r), (.ref ob)]))
      refine Goes.go (fun _ kk => X1.ldc2J hx (v := (127 : Int64)) hown (mvT hZ (hw _ (List.mem_of_getElem? (i := 91) rfl))) rfl (hb hby d6_17) kk) ?_
      show Goes _ _ _ _ _ _ _ (T1.setTop (mkF m 20 _ [(.long (127 : Int64)), (.long r), (.ref ob)]))
      refine Goes.go (fun _ kk => XS.land X1.here hx rfl (hb hby d6_20) rfl kk) ?_
      show Goes _ _ _ _ _ _ _ (T1.setTop (mkF m 21 _ [(.long (r &&& (127 : Int64))), (.ref ob)]))
      refine Goes.go (fun _ kk => XS.l2i X1.here hx rfl (hb hby d6_21) rfl kk) ?_
      show Goes _ _ _ _ _ _ _ (T1.setTop (mkF m 22 _ [(.int ((r &&& (127 : Int64))).toInt32), (.ref ob)]))
      refine Goes.go (fun _ kk => XS.sipush X1.here hx rfl (hb hby d6_22) kk) ?_
      show Goes _ _ _ _ _ _ _ (T1.setTop (mkF m 25 _ [(.int (128 : Int32)), (.int ((r &&& (127 : Int64))).toInt32), (.ref ob)]))
      refine Goes.go (fun _ kk => XS.ior X1.here hx rfl (hb hby d6_25) rfl kk) ?_
      show Goes _ _ _ _ _ _ _ (T1.setTop (mkF m 26 _ [(.int (((r &&& (127 : Int64))).toInt32 ||| (128 : Int32))), (.ref ob)]))
      rcases cap_or (k := ws.length) (by omega) with hk | hk
      · skip
        have qg := gl_s hk
        show Goes _ _ _ _ _ _ _ (T1.setTop (mkF m 26 _ [(.int (((r &&& (127 : Int64))).toInt32 ||| (128 : Int32))), (.ref ob)]))
        obtain ⟨cq2, kq2, qa2, qb2, qc2⟩ := isOf hZ e1 w.1
        obtain ⟨_, _, ⟨T2, L2, k2, n2⟩, -, X2, ⟨Lc2, hQ2, l2, y2, z2⟩, st2⟩ := X1.virtualBack hx (y := (⟨"java/io/ByteArrayOutputStream", "write", "(I)V"⟩ : MethodName)) (z := (⟨"java/io/ByteArrayOutputStream", "write", "(I)V"⟩ : MethodName)) hown (mvT hZ (hw _ (List.mem_of_getElem? (i := 37) rfl))) (mvT hZ (hw _ (List.mem_of_getElem? (i := 38) rfl))) (notFace_of_selects (args := #[]) (mvT hZ (hw _ (List.mem_of_getElem? (i := 40) rfl)))) (mvT hZ (hw _ (List.mem_of_getElem? (i := 40) rfl))) (mvT hZ (hw _ (List.mem_of_getElem? (i := 39) rfl))) (by decide) (own_backS (W := 0) (rmW0 l Z a0 hw [] ob (((r &&& (127 : Int64))).toInt32 ||| (128 : Int32)) bb ws h0 n0 Z0 w go gb hk (by omega)) hZ (hw _ (List.mem_of_getElem? (i := 41) rfl)) (hw _ (List.mem_of_getElem? (i := 39) rfl)) (hw _ (List.mem_of_getElem? (i := 11) rfl)) w.2.2.2.2.2 (by decide) (by decide)) qa2 qc2 (g := (mkF m 26 #[.val (.ref a), .val (.long p0), .second, .val (.long r), .second] [(.int (((r &&& (127 : Int64))).toInt32 ||| (128 : Int32))), (.ref ob)])) rfl (by rw [hml]; rfl) (Steps.refl _) (argsL := [(.int (((r &&& (127 : Int64))).toInt32 ||| (128 : Int32)))]) (rest := []) (lenOf pd0 rfl) rfl (by show 2 * 0 + _ ≤ _; exact Nat.le_of_eq rfl) (hb hby d6_26) (fun _ _ => ⟨rfl, e1, (by show kk + 0 ≤ 3; omega), (by show sl + 0 ≤ 96; omega)⟩)
        dsimp only [Pt.U, Pt.locs, Pt.cells, Pt.slots] at X2 l2 y2 z2 st2 hQ2
        subst l2 y2 z2
        obtain ⟨rfl, Nq2, x2, Kq2, gq2, oq2, wq2⟩ := hQ2
        have N2 := Fr.app N0 Nq2
        have Z2 : n0 ≤ T2.heap.size := Nat.le_trans Z0 Kq2.1
        have E2 := Exa.keep E0 Kq2
        have F2 := Fld.keep Fo Kq2 (ninS (ne_exa E0 w.1 (by decide)) (ninS (ne_exa E0 w.2.2.2.2.1 (by decide)) nin0))
        have K2 := K0.trans Kq2 (allS (Or.inl (List.mem_of_getElem? (i := 0) rfl)) (allS hbb all0))
        have hbb2 : x2 ∈ [ob, bb0] ∨ hS.size ≤ x2 := oq2.elim (fun q => q ▸ hbb) (fun q => Or.inr (Nat.le_trans K0.1 q))
        refine Goes.go (fun _ kk => st2.trans kk) ?_
        show Goes _ _ _ _ _ _ _ (T2.setTop (mkF m 29 _ []))
        refine Goes.go (fun _ kk => XS.lloadN X2.here hx rfl (hb hby d6_29) rfl kk) ?_
        show Goes _ _ _ _ _ _ _ (T2.setTop (mkF m 30 _ [(.long r)]))
        refine Goes.go (fun _ kk => XS.bipush X2.here hx rfl (hb hby d6_30) kk) ?_
        show Goes _ _ _ _ _ _ _ (T2.setTop (mkF m 32 _ [(.int (7 : Int32)), (.long r)]))
        refine Goes.go (fun _ kk => XS.lushr X2.here hx rfl (hb hby d6_32) rfl kk) ?_
        show Goes _ _ _ _ _ _ _ (T2.setTop (mkF m 33 _ [(.long ((r).toUInt64 >>> ((7 : Int32) &&& 0x3f).toInt64.toUInt64).toInt64)]))
        refine Goes.go (fun _ kk => XS.lstoreN X2.here hx rfl (hb hby d6_33) rfl (l' := #[.val (.ref a), .val (.long p0), .second, .val (.long ((r).toUInt64 >>> ((7 : Int32) &&& 0x3f).toInt64.toUInt64).toInt64), .second]) rfl kk) ?_
        show Goes _ _ _ _ _ _ _ (T2.setTop (mkF m 34 #[.val (.ref a), .val (.long p0), .second, .val (.long ((r).toUInt64 >>> ((7 : Int32) &&& 0x3f).toInt64.toUInt64).toInt64), .second] []))
        refine Goes.go (fun _ kk => XS.goto X2.here hx rfl (pc0 := 34) (pc' := 2) rfl (hb hby d6_34) (by decide) (by decide) kk) ?_
        show Goes _ _ _ _ _ _ _ (T2.setTop (mkF m 2 _ []))
        exact ih _ _ _ _ _ Z2 X2 rfl N2 K2 hbb2 gq2 E2 F2 wq2 (small_s hr) (by rw [List.length_append, List.length_singleton]; omega) (by rw [List.length_append, List.length_singleton]; omega) (by rw [List.length_append, List.length_singleton]; omega) (fun h2 L2 x2 N2 K2 g2 E2 F2 w2 => hQ h2 L2 x2 N2 K2 g2 E2 F2 (enc_s c9 ▸ w2))
      · skip
        have qg := (capOf_g hk).2.2
        show Goes _ _ _ _ _ _ _ (T1.setTop (mkF m 26 _ [(.int (((r &&& (127 : Int64))).toInt32 ||| (128 : Int32))), (.ref ob)]))
        obtain ⟨cq2, kq2, qa2, qb2, qc2⟩ := isOf hZ e1 w.1
        obtain ⟨_, _, ⟨T2, L2, k2, n2⟩, -, X2, ⟨Lc2, hQ2, l2, y2, z2⟩, st2⟩ := X1.virtualBack hx (y := (⟨"java/io/ByteArrayOutputStream", "write", "(I)V"⟩ : MethodName)) (z := (⟨"java/io/ByteArrayOutputStream", "write", "(I)V"⟩ : MethodName)) hown (mvT hZ (hw _ (List.mem_of_getElem? (i := 37) rfl))) (mvT hZ (hw _ (List.mem_of_getElem? (i := 38) rfl))) (notFace_of_selects (args := #[]) (mvT hZ (hw _ (List.mem_of_getElem? (i := 40) rfl)))) (mvT hZ (hw _ (List.mem_of_getElem? (i := 40) rfl))) (mvT hZ (hw _ (List.mem_of_getElem? (i := 39) rfl))) (by decide) (own_backS (W := 0) (rmW1 l Z a0 hw [] ob (((r &&& (127 : Int64))).toInt32 ||| (128 : Int32)) bb ws h0 n0 Z0 w go gb hk (by omega)) hZ (hw _ (List.mem_of_getElem? (i := 41) rfl)) (hw _ (List.mem_of_getElem? (i := 39) rfl)) (hw _ (List.mem_of_getElem? (i := 11) rfl)) w.2.2.2.2.2 (by decide) (by decide)) qa2 qc2 (g := (mkF m 26 #[.val (.ref a), .val (.long p0), .second, .val (.long r), .second] [(.int (((r &&& (127 : Int64))).toInt32 ||| (128 : Int32))), (.ref ob)])) rfl (by rw [hml]; rfl) (Steps.refl _) (argsL := [(.int (((r &&& (127 : Int64))).toInt32 ||| (128 : Int32)))]) (rest := []) (lenOf pd0 rfl) rfl (by show 2 * 0 + _ ≤ _; exact Nat.le_of_eq rfl) (hb hby d6_26) (fun _ _ => ⟨rfl, e1, (by show kk + 1 ≤ 3; omega), (by show sl + 32 ≤ 96; omega)⟩)
        dsimp only [Pt.U, Pt.locs, Pt.cells, Pt.slots] at X2 l2 y2 z2 st2 hQ2
        subst l2 y2 z2
        obtain ⟨rfl, Nq2, x2, Kq2, gq2, oq2, wq2⟩ := hQ2
        have N2 := Fr.app N0 Nq2
        have Z2 : n0 ≤ T2.heap.size := Nat.le_trans Z0 Kq2.1
        have E2 := Exa.keep E0 Kq2
        have F2 := Fld.keep Fo Kq2 (ninS (ne_exa E0 w.1 (by decide)) (ninS (ne_exa E0 w.2.2.2.2.1 (by decide)) nin0))
        have K2 := K0.trans Kq2 (allS (Or.inl (List.mem_of_getElem? (i := 0) rfl)) (allS hbb all0))
        have hbb2 : x2 ∈ [ob, bb0] ∨ hS.size ≤ x2 := oq2.elim (fun q => q ▸ hbb) (fun q => Or.inr (Nat.le_trans K0.1 q))
        refine Goes.go (fun _ kk => st2.trans kk) ?_
        show Goes _ _ _ _ _ _ _ (T2.setTop (mkF m 29 _ []))
        refine Goes.go (fun _ kk => XS.lloadN X2.here hx rfl (hb hby d6_29) rfl kk) ?_
        show Goes _ _ _ _ _ _ _ (T2.setTop (mkF m 30 _ [(.long r)]))
        refine Goes.go (fun _ kk => XS.bipush X2.here hx rfl (hb hby d6_30) kk) ?_
        show Goes _ _ _ _ _ _ _ (T2.setTop (mkF m 32 _ [(.int (7 : Int32)), (.long r)]))
        refine Goes.go (fun _ kk => XS.lushr X2.here hx rfl (hb hby d6_32) rfl kk) ?_
        show Goes _ _ _ _ _ _ _ (T2.setTop (mkF m 33 _ [(.long ((r).toUInt64 >>> ((7 : Int32) &&& 0x3f).toInt64.toUInt64).toInt64)]))
        refine Goes.go (fun _ kk => XS.lstoreN X2.here hx rfl (hb hby d6_33) rfl (l' := #[.val (.ref a), .val (.long p0), .second, .val (.long ((r).toUInt64 >>> ((7 : Int32) &&& 0x3f).toInt64.toUInt64).toInt64), .second]) rfl kk) ?_
        show Goes _ _ _ _ _ _ _ (T2.setTop (mkF m 34 #[.val (.ref a), .val (.long p0), .second, .val (.long ((r).toUInt64 >>> ((7 : Int32) &&& 0x3f).toInt64.toUInt64).toInt64), .second] []))
        refine Goes.go (fun _ kk => XS.goto X2.here hx rfl (pc0 := 34) (pc' := 2) rfl (hb hby d6_34) (by decide) (by decide) kk) ?_
        show Goes _ _ _ _ _ _ _ (T2.setTop (mkF m 2 _ []))
        exact ih _ _ _ _ _ Z2 X2 rfl N2 K2 hbb2 gq2 E2 F2 wq2 (small_s hr) (by rw [List.length_append, List.length_singleton]; omega) (by rw [List.length_append, List.length_singleton]; omega) (by rw [List.length_append, List.length_singleton]; omega) (fun h2 L2 x2 N2 K2 g2 E2 F2 w2 => hQ h2 L2 x2 N2 K2 g2 E2 F2 (enc_s c9 ▸ w2))
theorem ef_rmS (m : MethodId) (a : Addr) (p0 : Int64) : entryFrame m #[(.ref a), (.long p0)] 5 = mkF m 0 #[.val (.ref a), .val (.long p0), .second, .unset, .unset] [] := by first | (simp [entryFrame, mkF, argsToLocals, Value.category]; done) | rfl
def Q_rmS (Z : State) (a : Addr) (p0 : Int64) (ob : Addr) (bb : Addr) (ws : List Int8) (h0 : Heap) (n0 : Nat) (v : Option Value) (h : Heap) (L : List Loc) : Prop := v = none ∧ Fr n0 L ∧ ∃ x, Keep h0 h [ob, bb] ∧ n0 ≤ x ∧ Exa Z h a "com/example/countermand/countermand/Packed$Writer" ∧ Fld Z h a "com/example/countermand/countermand/Packed$Writer" "out" "Ljava/io/ByteArrayOutputStream;" (.ref ob) ∧ Wst Z h ob x (ws ++ enc 9 p0)
set_option maxRecDepth 65536 in
set_option maxHeartbeats 40000000 in
theorem rmS (l : Launch) (Z : State) (a0 : Array Value) (hw : ∀ d ∈ tables_1, d.before a0 Z = true) (wsC : List Jvm.Cond) (a : Addr) (p0 : Int64) (ob : Addr) (bb : Addr) (ws : List Int8) (h0 : Heap) (n0 : Nat) (Z0 : n0 ≤ h0.size) (E0 : Exa Z h0 a "com/example/countermand/countermand/Packed$Writer") (Fo : Fld Z h0 a "com/example/countermand/countermand/Packed$Writer" "out" "Ljava/io/ByteArrayOutputStream;" (.ref ob)) (w : Wst Z h0 ob bb ws) (go : n0 ≤ ob) (gb : n0 ≤ bb) (hlen : ws.length ≤ 10) :
    MetFree l (⟨"com/example/countermand/countermand/Packed$Writer", "sevenBits", "(J)V"⟩ : MethodName) (head1 (Jvm.Cond.code (⟨"com/example/countermand/countermand/Packed$Writer", "sevenBits", "(J)V"⟩ : MethodName) prog_32_method_8_code 5 none :: wsC) ({ frames := 4, cells := 3, slots := 96, locals := 86 } : Room)) (fun aa U => aa = #[(.ref a), (.long p0)] ∧ Z.Warmed39 U.vm ∧ U.heap = h0) (fun _ _ _ _ _ => True) (fun _ U oo U' => ∃ v L, oo = .returned v ∧ Q_rmS Z a p0 ob bb ws h0 n0 v U'.heap L ∧ FrameEnd U oo U' L ({ frames := 4, cells := 3, slots := 96, locals := 86 } : Room).cells ({ frames := 4, cells := 3, slots := 96, locals := 86 } : Room).slots) := by
  refine MetFree.of_bodySF (plainFor_of_name pn4) hisR ?_
  intro p e s m args below meth c s₁ Bd hml0 hP hK
  obtain ⟨rfl, hZ, hh⟩ := hP
  have hx := Bd.exec
  have hby := Bd.bytes
  have hml : c.maxLocals = 5 := hml0
  have hown : s.vm.findClass "com/example/countermand/countermand/Packed$Writer" = some m.cls := findClass_of_methodNamed Bd.named
  have hnm := (name_of_methodNamed Bd.named Bd.method).1
  have hlk : meth.locks = false := Bd.notSynchronized
  have hret := Bd.returns
  have X0 : Stand p l e ({ frames := 4, cells := 3, slots := 96, locals := 86 } : Room) s m #[(.ref a), (.long p0)] below meth c s₁ [] 0 0 := Stand.of_body Bd
  have e0 : s₁.heap = h0 := by rw [← hh, Bd.state]; rfl
  have N0 := Fr.nil n0
  have K0 : Keep h0 h0 [ob, bb] := Keep.refl _ _
  show Goes p e below s (Q_rmS Z a p0 ob bb ws h0 n0) ({ frames := 4, cells := 3, slots := 96, locals := 86 } : Room).cells ({ frames := 4, cells := 3, slots := 96, locals := 86 } : Room).slots _
  refine Goes.go (fun _ kk => castTop (ef_rmS m a p0) kk) ?_
  show Goes _ _ _ _ _ _ _ (s₁.setTop (mkF m 0 #[.val (.ref a), .val (.long p0), .second, .unset, .unset] []))
  have hgl : gl ws.length ≤ 3 := gl_le _
  refine Goes.go (fun _ kk => XS.lloadN X0.here hx rfl (hb hby d6_0) rfl kk) ?_
  show Goes _ _ _ _ _ _ _ (s₁.setTop (mkF m 1 _ [(.long p0)]))
  refine Goes.go (fun _ kk => XS.lstoreN X0.here hx rfl (hb hby d6_1) rfl (l' := #[.val (.ref a), .val (.long p0), .second, .val (.long p0), .second]) rfl kk) ?_
  show Goes _ _ _ _ _ _ _ (s₁.setTop (mkF m 2 #[.val (.ref a), .val (.long p0), .second, .val (.long p0), .second] []))
  exact lpW hw hx hby hml hown hnm hlk hret hZ n0 a ob bb p0 go h0 9 p0 ws bb 0 0 Z0 X0 e0 N0 K0 (Or.inl (List.mem_of_getElem? (i := 1) rfl)) gb E0 Fo w (small9 p0) (by omega) (by omega) (by omega) (fun h2 L2 x2 N2 K2 g2 E2 F2 w2 => ⟨rfl, N2, x2, K2, g2, E2, F2, w2⟩)
theorem d5_0 : decode prog_32_method_3_code 0 = .ok (.aload_n 0, 1) := by decide +kernel
theorem d5_1 : decode prog_32_method_3_code 1 = .ok (.lload_n 1, 1) := by decide +kernel
theorem d5_2 : decode prog_32_method_3_code 2 = .ok (.iconst 1, 1) := by decide +kernel
theorem d5_3 : decode prog_32_method_3_code 3 = .ok (.lshl, 1) := by decide +kernel
theorem d5_4 : decode prog_32_method_3_code 4 = .ok (.lload_n 1, 1) := by decide +kernel
theorem d5_5 : decode prog_32_method_3_code 5 = .ok (.bipush 63, 2) := by decide +kernel
theorem d5_7 : decode prog_32_method_3_code 7 = .ok (.lshr, 1) := by decide +kernel
theorem d5_8 : decode prog_32_method_3_code 8 = .ok (.lxor, 1) := by decide +kernel
theorem d5_9 : decode prog_32_method_3_code 9 = .ok (.invokevirtual 18, 3) := by decide +kernel
theorem d5_12 : decode prog_32_method_3_code 12 = .ok (.aload_n 0, 1) := by decide +kernel
theorem d5_13 : decode prog_32_method_3_code 13 = .ok (.areturn, 1) := by decide +kernel
theorem ef_rmSN (m : MethodId) (a : Addr) (p0 : Int64) : entryFrame m #[(.ref a), (.long p0)] 3 = mkF m 0 #[.val (.ref a), .val (.long p0), .second] [] := by first | (simp [entryFrame, mkF, argsToLocals, Value.category]; done) | rfl
def Q_rmSN (Z : State) (a : Addr) (p0 : Int64) (ob : Addr) (bb : Addr) (ws : List Int8) (h0 : Heap) (n0 : Nat) (v : Option Value) (h : Heap) (L : List Loc) : Prop := v = some (.ref a) ∧ Fr n0 L ∧ ∃ x, Keep h0 h [ob, bb] ∧ n0 ≤ x ∧ Exa Z h a "com/example/countermand/countermand/Packed$Writer" ∧ Fld Z h a "com/example/countermand/countermand/Packed$Writer" "out" "Ljava/io/ByteArrayOutputStream;" (.ref ob) ∧ Wst Z h ob x (ws ++ enc 9 (zz p0))
set_option maxRecDepth 65536 in
set_option maxHeartbeats 40000000 in
theorem rmSN (l : Launch) (Z : State) (a0 : Array Value) (hw : ∀ d ∈ tables_1, d.before a0 Z = true) (wsC : List Jvm.Cond) (a : Addr) (p0 : Int64) (ob : Addr) (bb : Addr) (ws : List Int8) (h0 : Heap) (n0 : Nat) (Z0 : n0 ≤ h0.size) (E0 : Exa Z h0 a "com/example/countermand/countermand/Packed$Writer") (Fo : Fld Z h0 a "com/example/countermand/countermand/Packed$Writer" "out" "Ljava/io/ByteArrayOutputStream;" (.ref ob)) (w : Wst Z h0 ob bb ws) (go : n0 ≤ ob) (gb : n0 ≤ bb) (hlen : ws.length ≤ 10) :
    MetFree l (⟨"com/example/countermand/countermand/Packed$Writer", "signedNumber", "(J)Lcom/example/countermand/countermand/Packed$Writer;"⟩ : MethodName) (head1 (Jvm.Cond.code (⟨"com/example/countermand/countermand/Packed$Writer", "signedNumber", "(J)Lcom/example/countermand/countermand/Packed$Writer;"⟩ : MethodName) prog_32_method_3_code 3 (some (.object "com/example/countermand/countermand/Packed$Writer")) :: wsC) ({ frames := 5, cells := 3, slots := 96, locals := 102 } : Room)) (fun aa U => aa = #[(.ref a), (.long p0)] ∧ Z.Warmed39 U.vm ∧ U.heap = h0) (fun _ _ _ _ _ => True) (fun _ U oo U' => ∃ v L, oo = .returned v ∧ Q_rmSN Z a p0 ob bb ws h0 n0 v U'.heap L ∧ FrameEnd U oo U' L ({ frames := 5, cells := 3, slots := 96, locals := 102 } : Room).cells ({ frames := 5, cells := 3, slots := 96, locals := 102 } : Room).slots) := by
  refine MetFree.of_bodySF (plainFor_of_name pn4) hisR ?_
  intro p e s m args below meth c s₁ Bd hml0 hP hK
  obtain ⟨rfl, hZ, hh⟩ := hP
  have hx := Bd.exec
  have hby := Bd.bytes
  have hml : c.maxLocals = 3 := hml0
  have hown : s.vm.findClass "com/example/countermand/countermand/Packed$Writer" = some m.cls := findClass_of_methodNamed Bd.named
  have hnm := (name_of_methodNamed Bd.named Bd.method).1
  have hlk : meth.locks = false := Bd.notSynchronized
  have hret := Bd.returns
  have X0 : Stand p l e ({ frames := 5, cells := 3, slots := 96, locals := 102 } : Room) s m #[(.ref a), (.long p0)] below meth c s₁ [] 0 0 := Stand.of_body Bd
  have e0 : s₁.heap = h0 := by rw [← hh, Bd.state]; rfl
  have N0 := Fr.nil n0
  have K0 : Keep h0 h0 [] := Keep.refl _ _
  show Goes p e below s (Q_rmSN Z a p0 ob bb ws h0 n0) ({ frames := 5, cells := 3, slots := 96, locals := 102 } : Room).cells ({ frames := 5, cells := 3, slots := 96, locals := 102 } : Room).slots _
  refine Goes.go (fun _ kk => castTop (ef_rmSN m a p0) kk) ?_
  show Goes _ _ _ _ _ _ _ (s₁.setTop (mkF m 0 #[.val (.ref a), .val (.long p0), .second] []))
  refine Goes.go (fun _ kk => XS.aloadN X0.here hx rfl (hb hby d5_0) rfl rfl kk) ?_
  show Goes _ _ _ _ _ _ _ (s₁.setTop (mkF m 1 _ [(.ref a)]))
  refine Goes.go (fun _ kk => XS.lloadN X0.here hx rfl (hb hby d5_1) rfl kk) ?_
  show Goes _ _ _ _ _ _ _ (s₁.setTop (mkF m 2 _ [(.long p0), (.ref a)]))
  refine Goes.go (fun _ kk => XS.iconst X0.here hx rfl (hb hby d5_2) kk) ?_
  show Goes _ _ _ _ _ _ _ (s₁.setTop (mkF m 3 _ [(.int (1 : Int32)), (.long p0), (.ref a)]))
  refine Goes.go (fun _ kk => XS.lshl X0.here hx rfl (hb hby d5_3) rfl kk) ?_
  show Goes _ _ _ _ _ _ _ (s₁.setTop (mkF m 4 _ [(.long (p0 <<< ((1 : Int32) &&& 0x3f).toInt64)), (.ref a)]))
  refine Goes.go (fun _ kk => XS.lloadN X0.here hx rfl (hb hby d5_4) rfl kk) ?_
  show Goes _ _ _ _ _ _ _ (s₁.setTop (mkF m 5 _ [(.long p0), (.long (p0 <<< ((1 : Int32) &&& 0x3f).toInt64)), (.ref a)]))
  refine Goes.go (fun _ kk => XS.bipush X0.here hx rfl (hb hby d5_5) kk) ?_
  show Goes _ _ _ _ _ _ _ (s₁.setTop (mkF m 7 _ [(.int (63 : Int32)), (.long p0), (.long (p0 <<< ((1 : Int32) &&& 0x3f).toInt64)), (.ref a)]))
  refine Goes.go (fun _ kk => XS.lshr X0.here hx rfl (hb hby d5_7) rfl kk) ?_
  show Goes _ _ _ _ _ _ _ (s₁.setTop (mkF m 8 _ [(.long (p0 >>> ((63 : Int32) &&& 0x3f).toInt64)), (.long (p0 <<< ((1 : Int32) &&& 0x3f).toInt64)), (.ref a)]))
  refine Goes.go (fun _ kk => XS.lxor X0.here hx rfl (hb hby d5_8) rfl kk) ?_
  show Goes _ _ _ _ _ _ _ (s₁.setTop (mkF m 9 _ [(.long ((p0 <<< ((1 : Int32) &&& 0x3f).toInt64) ^^^ (p0 >>> ((63 : Int32) &&& 0x3f).toInt64))), (.ref a)]))
  obtain ⟨cq1, qa1, qb1⟩ := E0.cell
  obtain ⟨_, _, ⟨T1, L1, k1, n1⟩, -, X1, ⟨Lc1, hQ1, l1, y1, z1⟩, st1⟩ := X0.privateBack hx (y := (⟨"com/example/countermand/countermand/Packed$Writer", "sevenBits", "(J)V"⟩ : MethodName)) hown (mvT hZ (hw _ (List.mem_of_getElem? (i := 32) rfl))) (mvT hZ (hw _ (List.mem_of_getElem? (i := 33) rfl))) (own_selP (args := #[]) (mvT hZ (hw _ (List.mem_of_getElem? (i := 30) rfl))) rfl (Cond.privateMethod_at (mvP hZ (hw _ (List.mem_of_getElem? (i := 34) rfl)) (args := #[]))) (mvT hZ (hw _ (List.mem_of_getElem? (i := 33) rfl))) (by decide)) (Cond.privateMethod_at (mvP hZ (hw _ (List.mem_of_getElem? (i := 34) rfl)) (args := #[]))) (mvT hZ (hw _ (List.mem_of_getElem? (i := 35) rfl))) (by decide) (backOf (W := 0) (rmS l Z a0 hw [] a ((p0 <<< ((1 : Int32) &&& 0x3f).toInt64) ^^^ (p0 >>> ((63 : Int32) &&& 0x3f).toInt64)) ob bb ws h0 n0 Z0 E0 Fo w go gb hlen) hZ (hw _ (List.mem_of_getElem? (i := 35) rfl)) (hw _ (List.mem_of_getElem? (i := 2) rfl)) (by decide) (by decide)) (g := (mkF m 9 #[.val (.ref a), .val (.long p0), .second] [(.long ((p0 <<< ((1 : Int32) &&& 0x3f).toInt64) ^^^ (p0 >>> ((63 : Int32) &&& 0x3f).toInt64))), (.ref a)])) rfl (by rw [hml]; rfl) (Steps.refl _) (a := a) (by rw [e0]; exact qa1) qb1 (argsL := [(.long ((p0 <<< ((1 : Int32) &&& 0x3f).toInt64) ^^^ (p0 >>> ((63 : Int32) &&& 0x3f).toInt64)))]) (rest := []) (lenOf pd3 rfl) rfl (by show 2 * 0 + _ ≤ _; exact Nat.le_of_eq rfl) (hb hby d5_9) (fun _ _ => ⟨rfl, e0, (by decide : 0 + 3 ≤ _), (by decide : 0 + 96 ≤ _)⟩)
  dsimp only [Pt.U, Pt.locs, Pt.cells, Pt.slots] at X1 l1 y1 z1 st1 hQ1
  subst l1 y1 z1
  obtain ⟨rfl, Nq1, x1, Kq1, gq1, Eq1, Fq1, wq1⟩ := hQ1
  have N1 := Fr.app N0 Nq1
  refine Goes.go (fun _ kk => st1.trans kk) ?_
  show Goes _ _ _ _ _ _ _ (T1.setTop (mkF m 12 _ []))
  refine Goes.go (fun _ kk => XS.aloadN X1.here hx rfl (hb hby d5_12) rfl rfl kk) ?_
  show Goes _ _ _ _ _ _ _ (T1.setTop (mkF m 13 _ [(.ref a)]))
  exact Goes.outA X1 hx hlk hret rfl rfl (hb hby d5_13) rfl ⟨rfl, N1, x1, Kq1, gq1, Eq1, Fq1, wq1⟩ (by decide) (by decide)
theorem d8_0 : decode prog_32_method_6_code 0 = .ok (.aload_n 0, 1) := by decide +kernel
theorem d8_1 : decode prog_32_method_6_code 1 = .ok (.getfield 12, 3) := by decide +kernel
theorem d8_4 : decode prog_32_method_6_code 4 = .ok (.invokevirtual 26, 3) := by decide +kernel
theorem d8_7 : decode prog_32_method_6_code 7 = .ok (.areturn, 1) := by decide +kernel
theorem ef_rmB (m : MethodId) (a : Addr) : entryFrame m #[(.ref a)] 1 = mkF m 0 #[.val (.ref a)] [] := by first | (simp [entryFrame, mkF, argsToLocals, Value.category]; done) | rfl
def Q_rmB (Z : State) (a : Addr) (ob : Addr) (bb : Addr) (ws : List Int8) (h0 : Heap) (n0 : Nat) (v : Option Value) (h : Heap) (L : List Loc) : Prop := ∃ x, v = some (.ref x) ∧ Fr n0 L ∧ Keep h0 h [ob] ∧ n0 ≤ x ∧ h0.size ≤ x ∧ Arl Z h x .byte (vB ws)
set_option maxRecDepth 65536 in
set_option maxHeartbeats 40000000 in
theorem rmB (l : Launch) (Z : State) (a0 : Array Value) (hw : ∀ d ∈ tables_1, d.before a0 Z = true) (wsC : List Jvm.Cond) (a : Addr) (ob : Addr) (bb : Addr) (ws : List Int8) (h0 : Heap) (n0 : Nat) (Z0 : n0 ≤ h0.size) (Fo : Fld Z h0 a "com/example/countermand/countermand/Packed$Writer" "out" "Ljava/io/ByteArrayOutputStream;" (.ref ob)) (w : Wst Z h0 ob bb ws) (hlen : ws.length ≤ 20) :
    MetFree l (⟨"com/example/countermand/countermand/Packed$Writer", "bytes", "()[B"⟩ : MethodName) (head1 (Jvm.Cond.code (⟨"com/example/countermand/countermand/Packed$Writer", "bytes", "()[B"⟩ : MethodName) prog_32_method_6_code 1 (some (.array .byte)) :: wsC) ({ frames := 3, cells := 1, slots := 32, locals := 69 } : Room)) (fun aa U => aa = #[(.ref a)] ∧ Z.Warmed39 U.vm ∧ U.heap = h0) (fun _ _ _ _ _ => True) (fun _ U oo U' => ∃ v L, oo = .returned v ∧ Q_rmB Z a ob bb ws h0 n0 v U'.heap L ∧ FrameEnd U oo U' L ({ frames := 3, cells := 1, slots := 32, locals := 69 } : Room).cells ({ frames := 3, cells := 1, slots := 32, locals := 69 } : Room).slots) := by
  refine MetFree.of_bodySF (plainFor_of_name pn4) hisR ?_
  intro p e s m args below meth c s₁ Bd hml0 hP hK
  obtain ⟨rfl, hZ, hh⟩ := hP
  have hx := Bd.exec
  have hby := Bd.bytes
  have hml : c.maxLocals = 1 := hml0
  have hown : s.vm.findClass "com/example/countermand/countermand/Packed$Writer" = some m.cls := findClass_of_methodNamed Bd.named
  have hnm := (name_of_methodNamed Bd.named Bd.method).1
  have hlk : meth.locks = false := Bd.notSynchronized
  have hret := Bd.returns
  have X0 : Stand p l e ({ frames := 3, cells := 1, slots := 32, locals := 69 } : Room) s m #[(.ref a)] below meth c s₁ [] 0 0 := Stand.of_body Bd
  have e0 : s₁.heap = h0 := by rw [← hh, Bd.state]; rfl
  have N0 := Fr.nil n0
  have K0 : Keep h0 h0 [] := Keep.refl _ _
  show Goes p e below s (Q_rmB Z a ob bb ws h0 n0) ({ frames := 3, cells := 1, slots := 32, locals := 69 } : Room).cells ({ frames := 3, cells := 1, slots := 32, locals := 69 } : Room).slots _
  refine Goes.go (fun _ kk => castTop (ef_rmB m a) kk) ?_
  show Goes _ _ _ _ _ _ _ (s₁.setTop (mkF m 0 #[.val (.ref a)] []))
  refine Goes.go (fun _ kk => XS.aloadN X0.here hx rfl (hb hby d8_0) rfl rfl kk) ?_
  show Goes _ _ _ _ _ _ _ (s₁.setTop (mkF m 1 _ [(.ref a)]))
  obtain ⟨T1, X1, e1, st1⟩ := getF X0 hx hZ hown (host := "") (Or.inl (hw _ (List.mem_of_getElem? (i := 25) rfl))) Via.refl e0 Fo (g := (mkF m 1 #[.val (.ref a)] [(.ref a)])) rfl rfl (hb hby d8_1)
  refine Goes.go (st1) ?_
  show Goes _ _ _ _ _ _ _ (T1.setTop (mkF m 4 _ [(.ref ob)]))
  obtain ⟨cq2, kq2, qa2, qb2, qc2⟩ := isOf hZ e1 w.1
  obtain ⟨_, _, ⟨T2, L2, k2, n2⟩, -, X2, ⟨Lc2, hQ2, l2, y2, z2⟩, st2⟩ := X1.virtualBack hx (y := (⟨"java/io/ByteArrayOutputStream", "toByteArray", "()[B"⟩ : MethodName)) (z := (⟨"java/io/ByteArrayOutputStream", "toByteArray", "()[B"⟩ : MethodName)) hown (mvT hZ (hw _ (List.mem_of_getElem? (i := 54) rfl))) (mvT hZ (hw _ (List.mem_of_getElem? (i := 55) rfl))) (notFace_of_selects (args := #[]) (mvT hZ (hw _ (List.mem_of_getElem? (i := 57) rfl)))) (mvT hZ (hw _ (List.mem_of_getElem? (i := 57) rfl))) (mvT hZ (hw _ (List.mem_of_getElem? (i := 56) rfl))) (by decide) (own_backS (W := 0) (rmT l Z a0 hw [] ob bb ws h0 n0 Z0 w hlen) hZ (hw _ (List.mem_of_getElem? (i := 58) rfl)) (hw _ (List.mem_of_getElem? (i := 56) rfl)) (hw _ (List.mem_of_getElem? (i := 11) rfl)) w.2.2.2.2.2 (by decide) (by decide)) qa2 qc2 (g := (mkF m 4 #[.val (.ref a)] [(.ref ob)])) rfl (by rw [hml]; rfl) (Steps.refl _) (argsL := []) (rest := []) (lenOf pd4 rfl) rfl (by show 2 * 0 + _ ≤ _; exact Nat.le_of_eq rfl) (hb hby d8_4) (fun _ _ => ⟨rfl, e1, (by decide : 0 + 1 ≤ _), (by decide : 0 + 32 ≤ _)⟩)
  dsimp only [Pt.U, Pt.locs, Pt.cells, Pt.slots] at X2 l2 y2 z2 st2 hQ2
  subst l2 y2 z2
  obtain ⟨x2, rfl, Nq2, Kq2, gq2, kq2, Aq2⟩ := hQ2
  have N2 := Fr.app N0 Nq2
  refine Goes.go (fun _ kk => st2.trans kk) ?_
  show Goes _ _ _ _ _ _ _ (T2.setTop (mkF m 7 _ [(.ref x2)]))
  exact Goes.outA X2 hx hlk hret rfl rfl (hb hby d8_7) rfl ⟨x2, rfl, N2, Kq2, gq2, kq2, Aq2⟩ (by decide) (by decide)
theorem d11_0 : decode prog_31_method_1_code 0 = .ok (.aload_n 0, 1) := by decide +kernel
theorem d11_1 : decode prog_31_method_1_code 1 = .ok (.invokespecial 1, 3) := by decide +kernel
theorem d11_4 : decode prog_31_method_1_code 4 = .ok (.aload_n 0, 1) := by decide +kernel
theorem d11_5 : decode prog_31_method_1_code 5 = .ok (.aload_n 1, 1) := by decide +kernel
theorem d11_6 : decode prog_31_method_1_code 6 = .ok (.putfield 7, 3) := by decide +kernel
theorem d11_9 : decode prog_31_method_1_code 9 = .ok (.aload_n 0, 1) := by decide +kernel
theorem d11_10 : decode prog_31_method_1_code 10 = .ok (.iload_n 2, 1) := by decide +kernel
theorem d11_11 : decode prog_31_method_1_code 11 = .ok (.putfield 13, 3) := by decide +kernel
theorem d11_14 : decode prog_31_method_1_code 14 = .ok (.return_, 1) := by decide +kernel
theorem pn5 : plainName "com/example/countermand/countermand/Packed$Reader" = true := by first | (simp [plainName, overriddenIn]; done) | decide +kernel
theorem ef_rm1 (m : MethodId) (a : Addr) (p0 : Addr) (p1 : Int32) : entryFrame m #[(.ref a), (.ref p0), (.int p1)] 3 = mkF m 0 #[.val (.ref a), .val (.ref p0), .val (.int p1)] [] := by first | (simp [entryFrame, mkF, argsToLocals, Value.category]; done) | rfl
def Q_rm1 (Z : State) (a : Addr) (p0 : Addr) (p1 : Int32) (h0 : Heap) (n0 : Nat) (v : Option Value) (h : Heap) (L : List Loc) : Prop := v = none ∧ Fr n0 L ∧ Keep h0 h [a] ∧ Exa Z h a "com/example/countermand/countermand/Packed$Reader" ∧ Fld Z h a "com/example/countermand/countermand/Packed$Reader" "in" "[B" (.ref p0) ∧ Fld Z h a "com/example/countermand/countermand/Packed$Reader" "position" "I" (.int p1)
set_option maxRecDepth 65536 in
set_option maxHeartbeats 40000000 in
theorem rm1 (l : Launch) (Z : State) (a0 : Array Value) (hw : ∀ d ∈ tables_1, d.before a0 Z = true) (wsC : List Jvm.Cond) (a : Addr) (p0 : Addr) (p1 : Int32) (h0 : Heap) (n0 : Nat) (Z0 : n0 ≤ h0.size) (E0 : Exa Z h0 a "com/example/countermand/countermand/Packed$Reader") (F_in : Fld Z h0 a "com/example/countermand/countermand/Packed$Reader" "in" "[B" .null) (F_position : Fld Z h0 a "com/example/countermand/countermand/Packed$Reader" "position" "I" (.int (0 : Int32))) (ga : n0 ≤ a) :
    MetFree l (⟨"com/example/countermand/countermand/Packed$Reader", "<init>", "([BI)V"⟩ : MethodName) (head1 (Jvm.Cond.code (⟨"com/example/countermand/countermand/Packed$Reader", "<init>", "([BI)V"⟩ : MethodName) prog_31_method_1_code 3 none :: wsC) ({ frames := 1, cells := 0, slots := 0, locals := 12 } : Room)) (fun aa U => aa = #[(.ref a), (.ref p0), (.int p1)] ∧ Z.Warmed39 U.vm ∧ U.heap = h0) (fun _ _ _ _ _ => True) (fun _ U oo U' => ∃ v L, oo = .returned v ∧ Q_rm1 Z a p0 p1 h0 n0 v U'.heap L ∧ FrameEnd U oo U' L ({ frames := 1, cells := 0, slots := 0, locals := 12 } : Room).cells ({ frames := 1, cells := 0, slots := 0, locals := 12 } : Room).slots) := by
  refine MetFree.of_bodySF (plainFor_of_name pn5) hisR ?_
  intro p e s m args below meth c s₁ Bd hml0 hP hK
  obtain ⟨rfl, hZ, hh⟩ := hP
  have hx := Bd.exec
  have hby := Bd.bytes
  have hml : c.maxLocals = 3 := hml0
  have hown : s.vm.findClass "com/example/countermand/countermand/Packed$Reader" = some m.cls := findClass_of_methodNamed Bd.named
  have hnm := (name_of_methodNamed Bd.named Bd.method).1
  have hlk : meth.locks = false := Bd.notSynchronized
  have hret := Bd.returns
  have X0 : Stand p l e ({ frames := 1, cells := 0, slots := 0, locals := 12 } : Room) s m #[(.ref a), (.ref p0), (.int p1)] below meth c s₁ [] 0 0 := Stand.of_body Bd
  have e0 : s₁.heap = h0 := by rw [← hh, Bd.state]; rfl
  have N0 := Fr.nil n0
  have K0 : Keep h0 h0 [a] := Keep.refl _ _
  show Goes p e below s (Q_rm1 Z a p0 p1 h0 n0) ({ frames := 1, cells := 0, slots := 0, locals := 12 } : Room).cells ({ frames := 1, cells := 0, slots := 0, locals := 12 } : Room).slots _
  refine Goes.go (fun _ kk => castTop (ef_rm1 m a p0 p1) kk) ?_
  show Goes _ _ _ _ _ _ _ (s₁.setTop (mkF m 0 #[.val (.ref a), .val (.ref p0), .val (.int p1)] []))
  refine Goes.go (fun _ kk => XS.aloadN X0.here hx rfl (hb hby d11_0) rfl rfl kk) ?_
  show Goes _ _ _ _ _ _ _ (s₁.setTop (mkF m 1 _ [(.ref a)]))
  obtain ⟨T1, X1, e1, st1⟩ := initO X0 hx hZ hown (hw _ (List.mem_of_getElem? (i := 77) rfl)) (hw _ (List.mem_of_getElem? (i := 7) rfl)) (hw _ (List.mem_of_getElem? (i := 8) rfl)) e0 (g := (mkF m 1 #[.val (.ref a), .val (.ref p0), .val (.int p1)] [(.ref a)])) rfl (by rw [hml]; rfl) rfl (hb hby d11_1) (by decide) (W := 0) (by show 2 * 0 + _ ≤ _; exact Nat.le_of_eq rfl) (by decide)
  refine Goes.go (st1) ?_
  show Goes _ _ _ _ _ _ _ (T1.setTop (mkF m 4 _ []))
  refine Goes.go (fun _ kk => XS.aloadN X1.here hx rfl (hb hby d11_4) rfl rfl kk) ?_
  show Goes _ _ _ _ _ _ _ (T1.setTop (mkF m 5 _ [(.ref a)]))
  refine Goes.go (fun _ kk => XS.aloadN X1.here hx rfl (hb hby d11_5) rfl rfl kk) ?_
  show Goes _ _ _ _ _ _ _ (T1.setTop (mkF m 6 _ [(.ref p0), (.ref a)]))
  obtain ⟨T2, h2, X2, e2, W2, st2⟩ := putF X1 hx hZ hown (host := "") (Or.inl (hw _ (List.mem_of_getElem? (i := 78) rfl))) Via.refl e1 F_in E0 (Or.inr ⟨(hw _ (List.mem_of_getElem? (i := 79) rfl)), rfl, hnm⟩) (hw _ (List.mem_of_getElem? (i := 72) rfl)) (ty := (.array .byte)) (by decide) rfl rfl (g := (mkF m 6 #[.val (.ref a), .val (.ref p0), .val (.int p1)] [(.ref p0), (.ref a)])) rfl rfl (hb hby d11_6)
  have N2 := Fr.snoc X2 N0 ga
  have f := Exa.wr W2 E0
  have f_1 := Fld.other W2 F_position (Or.inr (slot_ne (Or.inl (hw _ (List.mem_of_getElem? (i := 81) rfl))) (Or.inr (hw _ (List.mem_of_getElem? (i := 79) rfl))) (by decide) (t := .int) (t' := (.array .byte)) (by decide) (by decide)))
  have f_2 := Fld.same W2 F_in
  have Z2 : n0 ≤ h2.size := by rw [W2.size]; exact Z0
  have K2 := K0.wr W2 (Or.inl (List.mem_of_getElem? (i := 0) rfl))
  refine Goes.go (st2) ?_
  show Goes _ _ _ _ _ _ _ (T2.setTop (mkF m 9 _ []))
  refine Goes.go (fun _ kk => XS.aloadN X2.here hx rfl (hb hby d11_9) rfl rfl kk) ?_
  show Goes _ _ _ _ _ _ _ (T2.setTop (mkF m 10 _ [(.ref a)]))
  refine Goes.go (fun _ kk => XS.iloadN X2.here hx rfl (hb hby d11_10) rfl kk) ?_
  show Goes _ _ _ _ _ _ _ (T2.setTop (mkF m 11 _ [(.int p1), (.ref a)]))
  obtain ⟨T3, h3, X3, e3, W3, st3⟩ := putF X2 hx hZ hown (host := "") (Or.inl (hw _ (List.mem_of_getElem? (i := 80) rfl))) Via.refl e2 f_1 f (Or.inl (hw _ (List.mem_of_getElem? (i := 81) rfl))) (hw _ (List.mem_of_getElem? (i := 72) rfl)) (ty := .int) (by decide) rfl rfl (g := (mkF m 11 #[.val (.ref a), .val (.ref p0), .val (.int p1)] [(.int p1), (.ref a)])) rfl rfl (hb hby d11_11)
  have N3 := Fr.snoc X3 N2 ga
  have f_3 := Exa.wr W3 f
  have f_4 := Fld.other W3 f_2 (Or.inr (slot_ne (Or.inr (hw _ (List.mem_of_getElem? (i := 79) rfl))) (Or.inl (hw _ (List.mem_of_getElem? (i := 81) rfl))) (by decide) (t := (.array .byte)) (t' := .int) (by decide) (by decide)))
  have f_5 := Fld.same W3 f_1
  have Z3 : n0 ≤ h3.size := by rw [W3.size]; exact Z2
  have K3 := K2.wr W3 (Or.inl (List.mem_of_getElem? (i := 0) rfl))
  refine Goes.go (st3) ?_
  show Goes _ _ _ _ _ _ _ (T3.setTop (mkF m 14 _ []))
  exact Goes.outV X3 hx hlk hret (hb hby d11_14) e3 ⟨rfl, N3, K3, f_3, f_4, f_5⟩ (by decide) (by decide)
theorem d13_0 : decode prog_31_method_8_code 0 = .ok (.lconst 0, 1) := by decide +kernel
theorem d13_1 : decode prog_31_method_8_code 1 = .ok (.lstore_n 1, 1) := by decide +kernel
theorem d13_2 : decode prog_31_method_8_code 2 = .ok (.iconst 0, 1) := by decide +kernel
theorem d13_3 : decode prog_31_method_8_code 3 = .ok (.istore_n 3, 1) := by decide +kernel
theorem d13_4 : decode prog_31_method_8_code 4 = .ok (.aload_n 0, 1) := by decide +kernel
theorem d13_5 : decode prog_31_method_8_code 5 = .ok (.getfield 7, 3) := by decide +kernel
theorem d13_8 : decode prog_31_method_8_code 8 = .ok (.aload_n 0, 1) := by decide +kernel
theorem d13_9 : decode prog_31_method_8_code 9 = .ok (.dup, 1) := by decide +kernel
theorem d13_10 : decode prog_31_method_8_code 10 = .ok (.getfield 13, 3) := by decide +kernel
theorem d13_13 : decode prog_31_method_8_code 13 = .ok (.dup_x1, 1) := by decide +kernel
theorem d13_14 : decode prog_31_method_8_code 14 = .ok (.iconst 1, 1) := by decide +kernel
theorem d13_15 : decode prog_31_method_8_code 15 = .ok (.iadd, 1) := by decide +kernel
theorem d13_16 : decode prog_31_method_8_code 16 = .ok (.putfield 13, 3) := by decide +kernel
theorem d13_19 : decode prog_31_method_8_code 19 = .ok (.baload, 1) := by decide +kernel
theorem d13_20 : decode prog_31_method_8_code 20 = .ok (.sipush 255, 3) := by decide +kernel
theorem d13_23 : decode prog_31_method_8_code 23 = .ok (.iand, 1) := by decide +kernel
theorem d13_24 : decode prog_31_method_8_code 24 = .ok (.istore 4, 2) := by decide +kernel
theorem d13_26 : decode prog_31_method_8_code 26 = .ok (.lload_n 1, 1) := by decide +kernel
theorem d13_27 : decode prog_31_method_8_code 27 = .ok (.iload 4, 2) := by decide +kernel
theorem d13_29 : decode prog_31_method_8_code 29 = .ok (.bipush 127, 2) := by decide +kernel
theorem d13_31 : decode prog_31_method_8_code 31 = .ok (.iand, 1) := by decide +kernel
theorem d13_32 : decode prog_31_method_8_code 32 = .ok (.i2l, 1) := by decide +kernel
theorem d13_33 : decode prog_31_method_8_code 33 = .ok (.iload_n 3, 1) := by decide +kernel
theorem d13_34 : decode prog_31_method_8_code 34 = .ok (.lshl, 1) := by decide +kernel
theorem d13_35 : decode prog_31_method_8_code 35 = .ok (.lor, 1) := by decide +kernel
theorem d13_36 : decode prog_31_method_8_code 36 = .ok (.lstore_n 1, 1) := by decide +kernel
theorem d13_37 : decode prog_31_method_8_code 37 = .ok (.iload 4, 2) := by decide +kernel
theorem d13_39 : decode prog_31_method_8_code 39 = .ok (.sipush 128, 3) := by decide +kernel
theorem d13_42 : decode prog_31_method_8_code 42 = .ok (.iand, 1) := by decide +kernel
theorem d13_43 : decode prog_31_method_8_code 43 = .ok (.ifCond .ne 5, 3) := by decide +kernel
theorem d13_46 : decode prog_31_method_8_code 46 = .ok (.lload_n 1, 1) := by decide +kernel
theorem d13_47 : decode prog_31_method_8_code 47 = .ok (.lreturn, 1) := by decide +kernel
theorem d13_48 : decode prog_31_method_8_code 48 = .ok (.iinc 3 7, 3) := by decide +kernel
theorem d13_51 : decode prog_31_method_8_code 51 = .ok (.goto (-47), 3) := by decide +kernel
set_option maxRecDepth 65536 in
set_option maxHeartbeats 40000000 in
theorem lp4 {p : Program} {l : Launch} {e : Env} {s : State} {m : MethodId} {args : Array Value} {below : List Frame} {meth : Method} {c : Code} {Q : Option Value → Heap → List Loc → Prop} {Z : State} {a0 : Array Value} (hw : ∀ d ∈ tables_1, d.before a0 Z = true) (hx : p.tables.exec = Jvm.exec) (hby : c.code = prog_31_method_8_code) (hml : c.maxLocals = 5) (hown : s.vm.findClass "com/example/countermand/countermand/Packed$Reader" = some m.cls) (hnm : meth.name = "sevenBits") (hlk : meth.locks = false) (hret : meth.sig.returnType = (some .long)) (hZ : Z.Warmed39 s.vm) (n0 : Nat) (a bb : Addr) (vs : List Value) (nab : a ≠ bb) (ga : n0 ≤ a) (hS : Heap) (bs : List Int32) :
    ∀ (pos sh : Int32) (acc : Int64) (o4 : Slot) (q4 : One o4) {T : State} {locs : List Loc} {h0 : Heap} (Z0 : n0 ≤ h0.size) (X0 : Stand p l e ({ frames := 0, cells := 0, slots := 0, locals := 0 } : Room) s m args below meth c T locs 0 0) (e0 : T.heap = h0) (N0 : Fr n0 locs) (K0 : Keep hS h0 [a]) (E0 : Exa Z h0 a "com/example/countermand/countermand/Packed$Reader") (F_in : Fld Z h0 a "com/example/countermand/countermand/Packed$Reader" "in" "[B" (.ref bb)) (F_po : Fld Z h0 a "com/example/countermand/countermand/Packed$Reader" "position" "I" (.int pos)) (A0 : Arl Z h0 bb .byte vs) (hc : chain bs pos vs)
      (hQ : ∀ h L, Fr n0 L → Keep hS h [a] → Exa Z h a "com/example/countermand/countermand/Packed$Reader" → Fld Z h a "com/example/countermand/countermand/Packed$Reader" "in" "[B" (.ref bb) → Fld Z h a "com/example/countermand/countermand/Packed$Reader" "position" "I" (.int (endp bs pos)) → Q (some (.long (svb bs sh acc))) h L),
      Goes p e below s Q 0 0 (T.setTop (mkF m 4 #[.val (.ref a), .val (.long acc), .second, .val (.int sh), o4] [])) := by
  induction bs with
  | nil => intro pos sh acc o4 q4 T locs h0 Z0 X0 e0 N0 K0 E0 F_in F_po A0 hc hQ; exact hc.elim
  | cons b bs ih =>
    intro pos sh acc o4 q4 T locs h0 Z0 X0 e0 N0 K0 E0 F_in F_po A0 hc hQ
    cases bs with
    | nil =>
      obtain ⟨q1, q2, q3⟩ := hc
      show Goes _ _ _ _ _ _ _ (T.setTop (mkF m 4 #[.val (.ref a), .val (.long acc), .second, .val (.int sh), o4] []))
      refine Goes.go (fun _ kk => XS.aloadN X0.here hx rfl (hb hby d13_4) rfl rfl kk) ?_
      show Goes _ _ _ _ _ _ _ (T.setTop (mkF m 5 _ [(.ref a)]))
      obtain ⟨T1, X1, e1, st1⟩ := getF X0 hx hZ hown (host := "") (Or.inl (hw _ (List.mem_of_getElem? (i := 78) rfl))) Via.refl e0 F_in (g := (mkF m 5 #[.val (.ref a), .val (.long acc), .second, .val (.int sh), o4] [(.ref a)])) rfl rfl (hb hby d13_5)
      refine Goes.go (st1) ?_
      show Goes _ _ _ _ _ _ _ (T1.setTop (mkF m 8 _ [(.ref bb)]))
      refine Goes.go (fun _ kk => XS.aloadN X1.here hx rfl (hb hby d13_8) rfl rfl kk) ?_
      show Goes _ _ _ _ _ _ _ (T1.setTop (mkF m 9 _ [(.ref a), (.ref bb)]))
      refine Goes.go (fun _ kk => XS.dup X1.here hx rfl (hb hby d13_9) rfl rfl kk) ?_
      show Goes _ _ _ _ _ _ _ (T1.setTop (mkF m 10 _ [(.ref a), (.ref a), (.ref bb)]))
      obtain ⟨T2, X2, e2, st2⟩ := getF X1 hx hZ hown (host := "") (Or.inl (hw _ (List.mem_of_getElem? (i := 80) rfl))) Via.refl e1 F_po (g := (mkF m 10 #[.val (.ref a), .val (.long acc), .second, .val (.int sh), o4] [(.ref a), (.ref a), (.ref bb)])) rfl rfl (hb hby d13_10)
      refine Goes.go (st2) ?_
      show Goes _ _ _ _ _ _ _ (T2.setTop (mkF m 13 _ [(.int pos), (.ref a), (.ref bb)]))
      refine Goes.go (fun _ kk => XS.dupX1 X2.here hx rfl (hb hby d13_13) rfl rfl rfl kk) ?_
      show Goes _ _ _ _ _ _ _ (T2.setTop (mkF m 14 _ [(.int pos), (.ref a), (.int pos), (.ref bb)]))
      refine Goes.go (fun _ kk => XS.iconst X2.here hx rfl (hb hby d13_14) kk) ?_
      show Goes _ _ _ _ _ _ _ (T2.setTop (mkF m 15 _ [(.int (1 : Int32)), (.int pos), (.ref a), (.int pos), (.ref bb)]))
      refine Goes.go (fun _ kk => XS.iadd X2.here hx rfl (hb hby d13_15) rfl kk) ?_
      show Goes _ _ _ _ _ _ _ (T2.setTop (mkF m 16 _ [(.int (pos + (1 : Int32))), (.ref a), (.int pos), (.ref bb)]))
      obtain ⟨T3, h3, X3, e3, W3, st3⟩ := putF X2 hx hZ hown (host := "") (Or.inl (hw _ (List.mem_of_getElem? (i := 80) rfl))) Via.refl e2 F_po E0 (Or.inl (hw _ (List.mem_of_getElem? (i := 81) rfl))) (hw _ (List.mem_of_getElem? (i := 72) rfl)) (ty := .int) (by decide) rfl rfl (g := (mkF m 16 #[.val (.ref a), .val (.long acc), .second, .val (.int sh), o4] [(.int (pos + (1 : Int32))), (.ref a), (.int pos), (.ref bb)])) rfl rfl (hb hby d13_16)
      have N3 := Fr.snoc X3 N0 ga
      have f := Exa.wr W3 E0
      have f_1 := Fld.other W3 F_in (Or.inr (slot_ne (Or.inr (hw _ (List.mem_of_getElem? (i := 79) rfl))) (Or.inl (hw _ (List.mem_of_getElem? (i := 81) rfl))) (by decide) (t := (.array .byte)) (t' := .int) (by decide) (by decide)))
      have f_2 := Arl.other A0 W3 nab.symm
      have f_3 := Fld.same W3 F_po
      have Z3 : n0 ≤ h3.size := by rw [W3.size]; exact Z0
      have K3 := K0.wr W3 (Or.inl (List.mem_of_getElem? (i := 0) rfl))
      refine Goes.go (st3) ?_
      show Goes _ _ _ _ _ _ _ (T3.setTop (mkF m 19 _ [(.int pos), (.ref bb)]))
      refine Goes.go (own_ldB X3 hx hZ e3 f_2 (j := pos) (v := (.int b)) q1 q2 rfl rfl (hb hby d13_19)) ?_
      show Goes _ _ _ _ _ _ _ (T3.setTop (mkF m 20 _ [(.int b)]))
      refine Goes.go (fun _ kk => XS.sipush X3.here hx rfl (hb hby d13_20) kk) ?_
      show Goes _ _ _ _ _ _ _ (T3.setTop (mkF m 23 _ [(.int (255 : Int32)), (.int b)]))
      refine Goes.go (fun _ kk => XS.iand X3.here hx rfl (hb hby d13_23) rfl kk) ?_
      show Goes _ _ _ _ _ _ _ (T3.setTop (mkF m 24 _ [(.int (b &&& (255 : Int32)))]))
      refine Goes.go (fun _ kk => XS.istoreS X3.here hx rfl (hb hby d13_24) rfl rfl q4 kk) ?_
      show Goes _ _ _ _ _ _ _ (T3.setTop (mkF m 26 #[.val (.ref a), .val (.long acc), .second, .val (.int sh), .val (.int (b &&& (255 : Int32)))] []))
      refine Goes.go (fun _ kk => XS.lloadN X3.here hx rfl (hb hby d13_26) rfl kk) ?_
      show Goes _ _ _ _ _ _ _ (T3.setTop (mkF m 27 _ [(.long acc)]))
      refine Goes.go (fun _ kk => XS.iload X3.here hx rfl (hb hby d13_27) rfl kk) ?_
      show Goes _ _ _ _ _ _ _ (T3.setTop (mkF m 29 _ [(.int (b &&& (255 : Int32))), (.long acc)]))
      refine Goes.go (fun _ kk => XS.bipush X3.here hx rfl (hb hby d13_29) kk) ?_
      show Goes _ _ _ _ _ _ _ (T3.setTop (mkF m 31 _ [(.int (127 : Int32)), (.int (b &&& (255 : Int32))), (.long acc)]))
      refine Goes.go (fun _ kk => XS.iand X3.here hx rfl (hb hby d13_31) rfl kk) ?_
      show Goes _ _ _ _ _ _ _ (T3.setTop (mkF m 32 _ [(.int ((b &&& (255 : Int32)) &&& (127 : Int32))), (.long acc)]))
      refine Goes.go (fun _ kk => XS.i2l X3.here hx rfl (hb hby d13_32) rfl kk) ?_
      show Goes _ _ _ _ _ _ _ (T3.setTop (mkF m 33 _ [(.long (((b &&& (255 : Int32)) &&& (127 : Int32))).toInt64), (.long acc)]))
      refine Goes.go (fun _ kk => XS.iloadN X3.here hx rfl (hb hby d13_33) rfl kk) ?_
      show Goes _ _ _ _ _ _ _ (T3.setTop (mkF m 34 _ [(.int sh), (.long (((b &&& (255 : Int32)) &&& (127 : Int32))).toInt64), (.long acc)]))
      refine Goes.go (fun _ kk => XS.lshl X3.here hx rfl (hb hby d13_34) rfl kk) ?_
      show Goes _ _ _ _ _ _ _ (T3.setTop (mkF m 35 _ [(.long ((((b &&& (255 : Int32)) &&& (127 : Int32))).toInt64 <<< (sh &&& 0x3f).toInt64)), (.long acc)]))
      refine Goes.go (fun _ kk => XS.lor X3.here hx rfl (hb hby d13_35) rfl kk) ?_
      show Goes _ _ _ _ _ _ _ (T3.setTop (mkF m 36 _ [(.long (acc ||| ((((b &&& (255 : Int32)) &&& (127 : Int32))).toInt64 <<< (sh &&& 0x3f).toInt64)))]))
      refine Goes.go (fun _ kk => XS.lstoreN X3.here hx rfl (hb hby d13_36) rfl (l' := #[.val (.ref a), .val (.long (acc ||| ((((b &&& (255 : Int32)) &&& (127 : Int32))).toInt64 <<< (sh &&& 0x3f).toInt64))), .second, .val (.int sh), .val (.int (b &&& (255 : Int32)))]) rfl kk) ?_
      show Goes _ _ _ _ _ _ _ (T3.setTop (mkF m 37 #[.val (.ref a), .val (.long (acc ||| ((((b &&& (255 : Int32)) &&& (127 : Int32))).toInt64 <<< (sh &&& 0x3f).toInt64))), .second, .val (.int sh), .val (.int (b &&& (255 : Int32)))] []))
      refine Goes.go (fun _ kk => XS.iload X3.here hx rfl (hb hby d13_37) rfl kk) ?_
      show Goes _ _ _ _ _ _ _ (T3.setTop (mkF m 39 _ [(.int (b &&& (255 : Int32)))]))
      refine Goes.go (fun _ kk => XS.sipush X3.here hx rfl (hb hby d13_39) kk) ?_
      show Goes _ _ _ _ _ _ _ (T3.setTop (mkF m 42 _ [(.int (128 : Int32)), (.int (b &&& (255 : Int32)))]))
      refine Goes.go (fun _ kk => XS.iand X3.here hx rfl (hb hby d13_42) rfl kk) ?_
      show Goes _ _ _ _ _ _ _ (T3.setTop (mkF m 43 _ [(.int ((b &&& (255 : Int32)) &&& (128 : Int32)))]))
      refine Goes.go (fun _ kk => XS.ifNo X3.here hx rfl (hb hby d13_43) rfl (XT.i0_ne_f q3) kk) ?_
      show Goes _ _ _ _ _ _ _ (T3.setTop (mkF m 46 _ []))
      refine Goes.go (fun _ kk => XS.lloadN X3.here hx rfl (hb hby d13_46) rfl kk) ?_
      show Goes _ _ _ _ _ _ _ (T3.setTop (mkF m 47 _ [(.long (acc ||| ((((b &&& (255 : Int32)) &&& (127 : Int32))).toInt64 <<< (sh &&& 0x3f).toInt64)))]))
      exact Goes.outJ X3 hx hlk hret (hb hby d13_47) e3 (hQ _ _ N3 K3 f f_1 f_3) (by decide) (by decide)
    | cons b2 bs =>
      obtain ⟨q1, q2, q3, q5⟩ := hc
      show Goes _ _ _ _ _ _ _ (T.setTop (mkF m 4 #[.val (.ref a), .val (.long acc), .second, .val (.int sh), o4] []))
      refine Goes.go (fun _ kk => XS.aloadN X0.here hx rfl (hb hby d13_4) rfl rfl kk) ?_
      show Goes _ _ _ _ _ _ _ (T.setTop (mkF m 5 _ [(.ref a)]))
      obtain ⟨T1, X1, e1, st1⟩ := getF X0 hx hZ hown (host := "") (Or.inl (hw _ (List.mem_of_getElem? (i := 78) rfl))) Via.refl e0 F_in (g := (mkF m 5 #[.val (.ref a), .val (.long acc), .second, .val (.int sh), o4] [(.ref a)])) rfl rfl (hb hby d13_5)
      refine Goes.go (st1) ?_
      show Goes _ _ _ _ _ _ _ (T1.setTop (mkF m 8 _ [(.ref bb)]))
      refine Goes.go (fun _ kk => XS.aloadN X1.here hx rfl (hb hby d13_8) rfl rfl kk) ?_
      show Goes _ _ _ _ _ _ _ (T1.setTop (mkF m 9 _ [(.ref a), (.ref bb)]))
      refine Goes.go (fun _ kk => XS.dup X1.here hx rfl (hb hby d13_9) rfl rfl kk) ?_
      show Goes _ _ _ _ _ _ _ (T1.setTop (mkF m 10 _ [(.ref a), (.ref a), (.ref bb)]))
      obtain ⟨T2, X2, e2, st2⟩ := getF X1 hx hZ hown (host := "") (Or.inl (hw _ (List.mem_of_getElem? (i := 80) rfl))) Via.refl e1 F_po (g := (mkF m 10 #[.val (.ref a), .val (.long acc), .second, .val (.int sh), o4] [(.ref a), (.ref a), (.ref bb)])) rfl rfl (hb hby d13_10)
      refine Goes.go (st2) ?_
      show Goes _ _ _ _ _ _ _ (T2.setTop (mkF m 13 _ [(.int pos), (.ref a), (.ref bb)]))
      refine Goes.go (fun _ kk => XS.dupX1 X2.here hx rfl (hb hby d13_13) rfl rfl rfl kk) ?_
      show Goes _ _ _ _ _ _ _ (T2.setTop (mkF m 14 _ [(.int pos), (.ref a), (.int pos), (.ref bb)]))
      refine Goes.go (fun _ kk => XS.iconst X2.here hx rfl (hb hby d13_14) kk) ?_
      show Goes _ _ _ _ _ _ _ (T2.setTop (mkF m 15 _ [(.int (1 : Int32)), (.int pos), (.ref a), (.int pos), (.ref bb)]))
      refine Goes.go (fun _ kk => XS.iadd X2.here hx rfl (hb hby d13_15) rfl kk) ?_
      show Goes _ _ _ _ _ _ _ (T2.setTop (mkF m 16 _ [(.int (pos + (1 : Int32))), (.ref a), (.int pos), (.ref bb)]))
      obtain ⟨T3, h3, X3, e3, W3, st3⟩ := putF X2 hx hZ hown (host := "") (Or.inl (hw _ (List.mem_of_getElem? (i := 80) rfl))) Via.refl e2 F_po E0 (Or.inl (hw _ (List.mem_of_getElem? (i := 81) rfl))) (hw _ (List.mem_of_getElem? (i := 72) rfl)) (ty := .int) (by decide) rfl rfl (g := (mkF m 16 #[.val (.ref a), .val (.long acc), .second, .val (.int sh), o4] [(.int (pos + (1 : Int32))), (.ref a), (.int pos), (.ref bb)])) rfl rfl (hb hby d13_16)
      have N3 := Fr.snoc X3 N0 ga
      have f := Exa.wr W3 E0
      have f_1 := Fld.other W3 F_in (Or.inr (slot_ne (Or.inr (hw _ (List.mem_of_getElem? (i := 79) rfl))) (Or.inl (hw _ (List.mem_of_getElem? (i := 81) rfl))) (by decide) (t := (.array .byte)) (t' := .int) (by decide) (by decide)))
      have f_2 := Arl.other A0 W3 nab.symm
      have f_3 := Fld.same W3 F_po
      have Z3 : n0 ≤ h3.size := by rw [W3.size]; exact Z0
      have K3 := K0.wr W3 (Or.inl (List.mem_of_getElem? (i := 0) rfl))
      refine Goes.go (st3) ?_
      show Goes _ _ _ _ _ _ _ (T3.setTop (mkF m 19 _ [(.int pos), (.ref bb)]))
      refine Goes.go (own_ldB X3 hx hZ e3 f_2 (j := pos) (v := (.int b)) q1 q2 rfl rfl (hb hby d13_19)) ?_
      show Goes _ _ _ _ _ _ _ (T3.setTop (mkF m 20 _ [(.int b)]))
      refine Goes.go (fun _ kk => XS.sipush X3.here hx rfl (hb hby d13_20) kk) ?_
      show Goes _ _ _ _ _ _ _ (T3.setTop (mkF m 23 _ [(.int (255 : Int32)), (.int b)]))
      refine Goes.go (fun _ kk => XS.iand X3.here hx rfl (hb hby d13_23) rfl kk) ?_
      show Goes _ _ _ _ _ _ _ (T3.setTop (mkF m 24 _ [(.int (b &&& (255 : Int32)))]))
      refine Goes.go (fun _ kk => XS.istoreS X3.here hx rfl (hb hby d13_24) rfl rfl q4 kk) ?_
      show Goes _ _ _ _ _ _ _ (T3.setTop (mkF m 26 #[.val (.ref a), .val (.long acc), .second, .val (.int sh), .val (.int (b &&& (255 : Int32)))] []))
      refine Goes.go (fun _ kk => XS.lloadN X3.here hx rfl (hb hby d13_26) rfl kk) ?_
      show Goes _ _ _ _ _ _ _ (T3.setTop (mkF m 27 _ [(.long acc)]))
      refine Goes.go (fun _ kk => XS.iload X3.here hx rfl (hb hby d13_27) rfl kk) ?_
      show Goes _ _ _ _ _ _ _ (T3.setTop (mkF m 29 _ [(.int (b &&& (255 : Int32))), (.long acc)]))
      refine Goes.go (fun _ kk => XS.bipush X3.here hx rfl (hb hby d13_29) kk) ?_
      show Goes _ _ _ _ _ _ _ (T3.setTop (mkF m 31 _ [(.int (127 : Int32)), (.int (b &&& (255 : Int32))), (.long acc)]))
      refine Goes.go (fun _ kk => XS.iand X3.here hx rfl (hb hby d13_31) rfl kk) ?_
      show Goes _ _ _ _ _ _ _ (T3.setTop (mkF m 32 _ [(.int ((b &&& (255 : Int32)) &&& (127 : Int32))), (.long acc)]))
      refine Goes.go (fun _ kk => XS.i2l X3.here hx rfl (hb hby d13_32) rfl kk) ?_
      show Goes _ _ _ _ _ _ _ (T3.setTop (mkF m 33 _ [(.long (((b &&& (255 : Int32)) &&& (127 : Int32))).toInt64), (.long acc)]))
      refine Goes.go (fun _ kk => XS.iloadN X3.here hx rfl (hb hby d13_33) rfl kk) ?_
      show Goes _ _ _ _ _ _ _ (T3.setTop (mkF m 34 _ [(.int sh), (.long (((b &&& (255 : Int32)) &&& (127 : Int32))).toInt64), (.long acc)]))
      refine Goes.go (fun _ kk => XS.lshl X3.here hx rfl (hb hby d13_34) rfl kk) ?_
      show Goes _ _ _ _ _ _ _ (T3.setTop (mkF m 35 _ [(.long ((((b &&& (255 : Int32)) &&& (127 : Int32))).toInt64 <<< (sh &&& 0x3f).toInt64)), (.long acc)]))
      refine Goes.go (fun _ kk => XS.lor X3.here hx rfl (hb hby d13_35) rfl kk) ?_
      show Goes _ _ _ _ _ _ _ (T3.setTop (mkF m 36 _ [(.long (acc ||| ((((b &&& (255 : Int32)) &&& (127 : Int32))).toInt64 <<< (sh &&& 0x3f).toInt64)))]))
      refine Goes.go (fun _ kk => XS.lstoreN X3.here hx rfl (hb hby d13_36) rfl (l' := #[.val (.ref a), .val (.long (acc ||| ((((b &&& (255 : Int32)) &&& (127 : Int32))).toInt64 <<< (sh &&& 0x3f).toInt64))), .second, .val (.int sh), .val (.int (b &&& (255 : Int32)))]) rfl kk) ?_
      show Goes _ _ _ _ _ _ _ (T3.setTop (mkF m 37 #[.val (.ref a), .val (.long (acc ||| ((((b &&& (255 : Int32)) &&& (127 : Int32))).toInt64 <<< (sh &&& 0x3f).toInt64))), .second, .val (.int sh), .val (.int (b &&& (255 : Int32)))] []))
      refine Goes.go (fun _ kk => XS.iload X3.here hx rfl (hb hby d13_37) rfl kk) ?_
      show Goes _ _ _ _ _ _ _ (T3.setTop (mkF m 39 _ [(.int (b &&& (255 : Int32)))]))
      refine Goes.go (fun _ kk => XS.sipush X3.here hx rfl (hb hby d13_39) kk) ?_
      show Goes _ _ _ _ _ _ _ (T3.setTop (mkF m 42 _ [(.int (128 : Int32)), (.int (b &&& (255 : Int32)))]))
      refine Goes.go (fun _ kk => XS.iand X3.here hx rfl (hb hby d13_42) rfl kk) ?_
      show Goes _ _ _ _ _ _ _ (T3.setTop (mkF m 43 _ [(.int ((b &&& (255 : Int32)) &&& (128 : Int32)))]))
      refine Goes.go (fun _ kk => XS.ifYes X3.here hx rfl (pc0 := 43) (pc' := 48) rfl (hb hby d13_43) rfl (XT.i0_ne_t q3) (by decide) (by decide) kk) ?_
      show Goes _ _ _ _ _ _ _ (T3.setTop (mkF m 48 _ []))
      refine Goes.go (fun _ kk => XT.iincV X3.here hx rfl (7 : Int32) (hb hby d13_48) rfl rfl (l' := #[.val (.ref a), .val (.long (acc ||| ((((b &&& (255 : Int32)) &&& (127 : Int32))).toInt64 <<< (sh &&& 0x3f).toInt64))), .second, .val (.int (sh + (7 : Int32))), .val (.int (b &&& (255 : Int32)))]) rfl kk) ?_
      show Goes _ _ _ _ _ _ _ (T3.setTop (mkF m 51 #[.val (.ref a), .val (.long (acc ||| ((((b &&& (255 : Int32)) &&& (127 : Int32))).toInt64 <<< (sh &&& 0x3f).toInt64))), .second, .val (.int (sh + (7 : Int32))), .val (.int (b &&& (255 : Int32)))] []))
      refine Goes.go (fun _ kk => XS.goto X3.here hx rfl (pc0 := 51) (pc' := 4) rfl (hb hby d13_51) (by decide) (by decide) kk) ?_
      show Goes _ _ _ _ _ _ _ (T3.setTop (mkF m 4 _ []))
      exact ih _ _ _ _ (One.val rfl) Z3 X3 e3 N3 K3 f f_1 f_3 f_2 q5 hQ
theorem ef_rm7b (m : MethodId) (a : Addr) : entryFrame m #[(.ref a)] 5 = mkF m 0 #[.val (.ref a), .unset, .unset, .unset, .unset] [] := by first | (simp [entryFrame, mkF, argsToLocals, Value.category]; done) | rfl
def Q_rm7b (Z : State) (a : Addr) (bb : Addr) (vs : List Value) (pos : Int32) (bs : List Int32) (h0 : Heap) (n0 : Nat) (v : Option Value) (h : Heap) (L : List Loc) : Prop := v = some (.long (svb bs 0 0)) ∧ Fr n0 L ∧ Keep h0 h [a] ∧ Exa Z h a "com/example/countermand/countermand/Packed$Reader" ∧ Fld Z h a "com/example/countermand/countermand/Packed$Reader" "in" "[B" (.ref bb) ∧ Fld Z h a "com/example/countermand/countermand/Packed$Reader" "position" "I" (.int (endp bs pos))
set_option maxRecDepth 65536 in
set_option maxHeartbeats 40000000 in
theorem rm7b (l : Launch) (Z : State) (a0 : Array Value) (hw : ∀ d ∈ tables_1, d.before a0 Z = true) (wsC : List Jvm.Cond) (a : Addr) (bb : Addr) (vs : List Value) (pos : Int32) (bs : List Int32) (h0 : Heap) (n0 : Nat) (Z0 : n0 ≤ h0.size) (E0 : Exa Z h0 a "com/example/countermand/countermand/Packed$Reader") (F_in : Fld Z h0 a "com/example/countermand/countermand/Packed$Reader" "in" "[B" (.ref bb)) (F_po : Fld Z h0 a "com/example/countermand/countermand/Packed$Reader" "position" "I" (.int pos)) (ga : n0 ≤ a) (A0 : Arl Z h0 bb .byte vs) (hc : chain bs pos vs) :
    MetFree l (⟨"com/example/countermand/countermand/Packed$Reader", "sevenBits", "()J"⟩ : MethodName) (head1 (Jvm.Cond.code (⟨"com/example/countermand/countermand/Packed$Reader", "sevenBits", "()J"⟩ : MethodName) prog_31_method_8_code 5 (some .long) :: wsC) ({ frames := 0, cells := 0, slots := 0, locals := 0 } : Room)) (fun aa U => aa = #[(.ref a)] ∧ Z.Warmed39 U.vm ∧ U.heap = h0) (fun _ _ _ _ _ => True) (fun _ U oo U' => ∃ v L, oo = .returned v ∧ Q_rm7b Z a bb vs pos bs h0 n0 v U'.heap L ∧ FrameEnd U oo U' L ({ frames := 0, cells := 0, slots := 0, locals := 0 } : Room).cells ({ frames := 0, cells := 0, slots := 0, locals := 0 } : Room).slots) := by
  refine MetFree.of_bodySF (plainFor_of_name pn5) hisR ?_
  intro p e s m args below meth c s₁ Bd hml0 hP hK
  obtain ⟨rfl, hZ, hh⟩ := hP
  have hx := Bd.exec
  have hby := Bd.bytes
  have hml : c.maxLocals = 5 := hml0
  have hown : s.vm.findClass "com/example/countermand/countermand/Packed$Reader" = some m.cls := findClass_of_methodNamed Bd.named
  have hnm := (name_of_methodNamed Bd.named Bd.method).1
  have hlk : meth.locks = false := Bd.notSynchronized
  have hret := Bd.returns
  have X0 : Stand p l e ({ frames := 0, cells := 0, slots := 0, locals := 0 } : Room) s m #[(.ref a)] below meth c s₁ [] 0 0 := Stand.of_body Bd
  have e0 : s₁.heap = h0 := by rw [← hh, Bd.state]; rfl
  have N0 := Fr.nil n0
  have K0 : Keep h0 h0 [a] := Keep.refl _ _
  show Goes p e below s (Q_rm7b Z a bb vs pos bs h0 n0) ({ frames := 0, cells := 0, slots := 0, locals := 0 } : Room).cells ({ frames := 0, cells := 0, slots := 0, locals := 0 } : Room).slots _
  refine Goes.go (fun _ kk => castTop (ef_rm7b m a) kk) ?_
  have nab := own_neA E0 (hw _ (List.mem_of_getElem? (i := 72) rfl)) A0
  show Goes _ _ _ _ _ _ _ (s₁.setTop (mkF m 0 #[.val (.ref a), .unset, .unset, .unset, .unset] []))
  refine Goes.go (fun _ kk => XS.lconst X0.here hx rfl (hb hby d13_0) kk) ?_
  show Goes _ _ _ _ _ _ _ (s₁.setTop (mkF m 1 _ [(.long (0 : Int64))]))
  refine Goes.go (fun _ kk => XS.lstoreN X0.here hx rfl (hb hby d13_1) rfl (l' := #[.val (.ref a), .val (.long (0 : Int64)), .second, .unset, .unset]) rfl kk) ?_
  show Goes _ _ _ _ _ _ _ (s₁.setTop (mkF m 2 #[.val (.ref a), .val (.long (0 : Int64)), .second, .unset, .unset] []))
  refine Goes.go (fun _ kk => XS.iconst X0.here hx rfl (hb hby d13_2) kk) ?_
  show Goes _ _ _ _ _ _ _ (s₁.setTop (mkF m 3 _ [(.int (0 : Int32))]))
  refine Goes.go (fun _ kk => XS.istoreN X0.here hx rfl (hb hby d13_3) rfl (l' := #[.val (.ref a), .val (.long (0 : Int64)), .second, .val (.int (0 : Int32)), .unset]) rfl kk) ?_
  show Goes _ _ _ _ _ _ _ (s₁.setTop (mkF m 4 #[.val (.ref a), .val (.long (0 : Int64)), .second, .val (.int (0 : Int32)), .unset] []))
  exact lp4 hw hx hby hml hown hnm hlk hret hZ n0 a bb vs nab ga h0 bs pos 0 0 _ One.u Z0 X0 e0 N0 K0 E0 F_in F_po A0 hc (fun _ _ N K E F G => ⟨rfl, N, K, E, F, G⟩)
theorem d12_0 : decode prog_31_method_2_code 0 = .ok (.aload_n 0, 1) := by decide +kernel
theorem d12_1 : decode prog_31_method_2_code 1 = .ok (.invokevirtual 17, 3) := by decide +kernel
theorem d12_4 : decode prog_31_method_2_code 4 = .ok (.lstore_n 1, 1) := by decide +kernel
theorem d12_5 : decode prog_31_method_2_code 5 = .ok (.lload_n 1, 1) := by decide +kernel
theorem d12_6 : decode prog_31_method_2_code 6 = .ok (.iconst 1, 1) := by decide +kernel
theorem d12_7 : decode prog_31_method_2_code 7 = .ok (.lushr, 1) := by decide +kernel
theorem d12_8 : decode prog_31_method_2_code 8 = .ok (.lload_n 1, 1) := by decide +kernel
theorem d12_9 : decode prog_31_method_2_code 9 = .ok (.lconst 1, 1) := by decide +kernel
theorem d12_10 : decode prog_31_method_2_code 10 = .ok (.land, 1) := by decide +kernel
theorem d12_11 : decode prog_31_method_2_code 11 = .ok (.lneg, 1) := by decide +kernel
theorem d12_12 : decode prog_31_method_2_code 12 = .ok (.lxor, 1) := by decide +kernel
theorem d12_13 : decode prog_31_method_2_code 13 = .ok (.lreturn, 1) := by decide +kernel
theorem ef_rmRS (m : MethodId) (a : Addr) : entryFrame m #[(.ref a)] 3 = mkF m 0 #[.val (.ref a), .unset, .unset] [] := by first | (simp [entryFrame, mkF, argsToLocals, Value.category]; done) | rfl
def Q_rmRS (Z : State) (a : Addr) (bb : Addr) (vs : List Value) (pos : Int32) (bs : List Int32) (h0 : Heap) (n0 : Nat) (v : Option Value) (h : Heap) (L : List Loc) : Prop := v = some (.long (uz (svb bs 0 0))) ∧ Fr n0 L ∧ Keep h0 h [a] ∧ Exa Z h a "com/example/countermand/countermand/Packed$Reader" ∧ Fld Z h a "com/example/countermand/countermand/Packed$Reader" "in" "[B" (.ref bb) ∧ Fld Z h a "com/example/countermand/countermand/Packed$Reader" "position" "I" (.int (endp bs pos))
set_option maxRecDepth 65536 in
set_option maxHeartbeats 40000000 in
theorem rmRS (l : Launch) (Z : State) (a0 : Array Value) (hw : ∀ d ∈ tables_1, d.before a0 Z = true) (wsC : List Jvm.Cond) (a : Addr) (bb : Addr) (vs : List Value) (pos : Int32) (bs : List Int32) (h0 : Heap) (n0 : Nat) (Z0 : n0 ≤ h0.size) (E0 : Exa Z h0 a "com/example/countermand/countermand/Packed$Reader") (F_in : Fld Z h0 a "com/example/countermand/countermand/Packed$Reader" "in" "[B" (.ref bb)) (F_po : Fld Z h0 a "com/example/countermand/countermand/Packed$Reader" "position" "I" (.int pos)) (ga : n0 ≤ a) (A0 : Arl Z h0 bb .byte vs) (hc : chain bs pos vs) :
    MetFree l (⟨"com/example/countermand/countermand/Packed$Reader", "signedNumber", "()J"⟩ : MethodName) (head1 (Jvm.Cond.code (⟨"com/example/countermand/countermand/Packed$Reader", "signedNumber", "()J"⟩ : MethodName) prog_31_method_2_code 3 (some .long) :: wsC) ({ frames := 1, cells := 0, slots := 0, locals := 16 } : Room)) (fun aa U => aa = #[(.ref a)] ∧ Z.Warmed39 U.vm ∧ U.heap = h0) (fun _ _ _ _ _ => True) (fun _ U oo U' => ∃ v L, oo = .returned v ∧ Q_rmRS Z a bb vs pos bs h0 n0 v U'.heap L ∧ FrameEnd U oo U' L ({ frames := 1, cells := 0, slots := 0, locals := 16 } : Room).cells ({ frames := 1, cells := 0, slots := 0, locals := 16 } : Room).slots) := by
  refine MetFree.of_bodySF (plainFor_of_name pn5) hisR ?_
  intro p e s m args below meth c s₁ Bd hml0 hP hK
  obtain ⟨rfl, hZ, hh⟩ := hP
  have hx := Bd.exec
  have hby := Bd.bytes
  have hml : c.maxLocals = 3 := hml0
  have hown : s.vm.findClass "com/example/countermand/countermand/Packed$Reader" = some m.cls := findClass_of_methodNamed Bd.named
  have hnm := (name_of_methodNamed Bd.named Bd.method).1
  have hlk : meth.locks = false := Bd.notSynchronized
  have hret := Bd.returns
  have X0 : Stand p l e ({ frames := 1, cells := 0, slots := 0, locals := 16 } : Room) s m #[(.ref a)] below meth c s₁ [] 0 0 := Stand.of_body Bd
  have e0 : s₁.heap = h0 := by rw [← hh, Bd.state]; rfl
  have N0 := Fr.nil n0
  have K0 : Keep h0 h0 [a] := Keep.refl _ _
  show Goes p e below s (Q_rmRS Z a bb vs pos bs h0 n0) ({ frames := 1, cells := 0, slots := 0, locals := 16 } : Room).cells ({ frames := 1, cells := 0, slots := 0, locals := 16 } : Room).slots _
  refine Goes.go (fun _ kk => castTop (ef_rmRS m a) kk) ?_
  have nab := own_neA E0 (hw _ (List.mem_of_getElem? (i := 72) rfl)) A0
  show Goes _ _ _ _ _ _ _ (s₁.setTop (mkF m 0 #[.val (.ref a), .unset, .unset] []))
  refine Goes.go (fun _ kk => XS.aloadN X0.here hx rfl (hb hby d12_0) rfl rfl kk) ?_
  show Goes _ _ _ _ _ _ _ (s₁.setTop (mkF m 1 _ [(.ref a)]))
  obtain ⟨cq1, qa1, qb1⟩ := E0.cell
  obtain ⟨_, _, ⟨T1, L1, k1, n1⟩, -, X1, ⟨Lc1, hQ1, l1, y1, z1⟩, st1⟩ := X0.privateBack hx (y := (⟨"com/example/countermand/countermand/Packed$Reader", "sevenBits", "()J"⟩ : MethodName)) hown (mvT hZ (hw _ (List.mem_of_getElem? (i := 87) rfl))) (mvT hZ (hw _ (List.mem_of_getElem? (i := 88) rfl))) (own_selP (args := #[]) (mvT hZ (hw _ (List.mem_of_getElem? (i := 85) rfl))) rfl (Cond.privateMethod_at (mvP hZ (hw _ (List.mem_of_getElem? (i := 89) rfl)) (args := #[]))) (mvT hZ (hw _ (List.mem_of_getElem? (i := 88) rfl))) (by decide)) (Cond.privateMethod_at (mvP hZ (hw _ (List.mem_of_getElem? (i := 89) rfl)) (args := #[]))) (mvT hZ (hw _ (List.mem_of_getElem? (i := 90) rfl))) (by decide) (backOf (W := 0) (rm7b l Z a0 hw [] a bb _ pos bs h0 n0 Z0 E0 F_in F_po ga A0 hc) hZ (hw _ (List.mem_of_getElem? (i := 90) rfl)) (hw _ (List.mem_of_getElem? (i := 73) rfl)) (by decide) (by decide)) (g := (mkF m 1 #[.val (.ref a), .unset, .unset] [(.ref a)])) rfl (by rw [hml]; rfl) (Steps.refl _) (a := a) (by rw [e0]; exact qa1) qb1 (argsL := []) (rest := []) (lenOf pd8 rfl) rfl (by show 2 * 0 + _ ≤ _; exact Nat.le_of_eq rfl) (hb hby d12_1) (fun _ _ => ⟨rfl, e0, (by decide : 0 + 0 ≤ _), (by decide : 0 + 0 ≤ _)⟩)
  dsimp only [Pt.U, Pt.locs, Pt.cells, Pt.slots] at X1 l1 y1 z1 st1 hQ1
  subst l1 y1 z1
  obtain ⟨rfl, Nq1, Kq1, Eq1, Fq1_0, Fq1_1⟩ := hQ1
  have N1 := Fr.app N0 Nq1
  have Z1 : n0 ≤ T1.heap.size := Nat.le_trans Z0 Kq1.1
  have f := Arl.keep A0 Kq1 (ninS nab.symm nin0)
  have K1 := K0.trans Kq1 (allS (Or.inl (List.mem_of_getElem? (i := 0) rfl)) all0)
  refine Goes.go (fun _ kk => st1.trans kk) ?_
  show Goes _ _ _ _ _ _ _ (T1.setTop (mkF m 4 _ [(.long (svb bs 0 0))]))
  refine Goes.go (fun _ kk => XS.lstoreN X1.here hx rfl (hb hby d12_4) rfl (l' := #[.val (.ref a), .val (.long (svb bs 0 0)), .second]) rfl kk) ?_
  show Goes _ _ _ _ _ _ _ (T1.setTop (mkF m 5 #[.val (.ref a), .val (.long (svb bs 0 0)), .second] []))
  refine Goes.go (fun _ kk => XS.lloadN X1.here hx rfl (hb hby d12_5) rfl kk) ?_
  show Goes _ _ _ _ _ _ _ (T1.setTop (mkF m 6 _ [(.long (svb bs 0 0))]))
  refine Goes.go (fun _ kk => XS.iconst X1.here hx rfl (hb hby d12_6) kk) ?_
  show Goes _ _ _ _ _ _ _ (T1.setTop (mkF m 7 _ [(.int (1 : Int32)), (.long (svb bs 0 0))]))
  refine Goes.go (fun _ kk => XS.lushr X1.here hx rfl (hb hby d12_7) rfl kk) ?_
  show Goes _ _ _ _ _ _ _ (T1.setTop (mkF m 8 _ [(.long (((svb bs 0 0)).toUInt64 >>> ((1 : Int32) &&& 0x3f).toInt64.toUInt64).toInt64)]))
  refine Goes.go (fun _ kk => XS.lloadN X1.here hx rfl (hb hby d12_8) rfl kk) ?_
  show Goes _ _ _ _ _ _ _ (T1.setTop (mkF m 9 _ [(.long (svb bs 0 0)), (.long (((svb bs 0 0)).toUInt64 >>> ((1 : Int32) &&& 0x3f).toInt64.toUInt64).toInt64)]))
  refine Goes.go (fun _ kk => XS.lconst X1.here hx rfl (hb hby d12_9) kk) ?_
  show Goes _ _ _ _ _ _ _ (T1.setTop (mkF m 10 _ [(.long (1 : Int64)), (.long (svb bs 0 0)), (.long (((svb bs 0 0)).toUInt64 >>> ((1 : Int32) &&& 0x3f).toInt64.toUInt64).toInt64)]))
  refine Goes.go (fun _ kk => XS.land X1.here hx rfl (hb hby d12_10) rfl kk) ?_
  show Goes _ _ _ _ _ _ _ (T1.setTop (mkF m 11 _ [(.long ((svb bs 0 0) &&& (1 : Int64))), (.long (((svb bs 0 0)).toUInt64 >>> ((1 : Int32) &&& 0x3f).toInt64.toUInt64).toInt64)]))
  refine Goes.go (fun _ kk => XS.lneg X1.here hx rfl (hb hby d12_11) rfl kk) ?_
  show Goes _ _ _ _ _ _ _ (T1.setTop (mkF m 12 _ [(.long (-((svb bs 0 0) &&& (1 : Int64)))), (.long (((svb bs 0 0)).toUInt64 >>> ((1 : Int32) &&& 0x3f).toInt64.toUInt64).toInt64)]))
  refine Goes.go (fun _ kk => XS.lxor X1.here hx rfl (hb hby d12_12) rfl kk) ?_
  show Goes _ _ _ _ _ _ _ (T1.setTop (mkF m 13 _ [(.long ((((svb bs 0 0)).toUInt64 >>> ((1 : Int32) &&& 0x3f).toInt64.toUInt64).toInt64 ^^^ (-((svb bs 0 0) &&& (1 : Int64)))))]))
  exact Goes.outJ X1 hx hlk hret (hb hby d12_13) rfl ⟨rfl, N1, K1, Eq1, Fq1_0, Fq1_1⟩ (by decide) (by decide)
theorem pn6 : plainName "com/example/countermand/countermand/ReaderSignedNumberPinLaw" = true := by first | (simp [plainName, overriddenIn]; done) | decide +kernel
theorem ef_rm0 (m : MethodId) (p0 : Int64) (p1 : Int64) (p2 : Int32) : entryFrame m #[(.long p0), (.long p1), (.int p2)] maxLocals = mkF m 0 #[.val (.long p0), .second, .val (.long p1), .second, .val (.int p2), .unset, .unset, .unset, .unset, .unset, .unset, .unset, .unset, .unset, .unset, .unset, .unset] [] := by first | (simp [entryFrame, mkF, argsToLocals, Value.category, maxLocals]; done) | rfl
def Q_rm0 (Z : State) (p0 : Int64) (p1 : Int64) (p2 : Int32) (h0 : Heap) (n0 : Nat) (v : Option Value) (h : Heap) (L : List Loc) : Prop := v = some (.int 1) ∧ Fr n0 L
set_option maxRecDepth 65536 in
set_option maxHeartbeats 40000000 in
theorem rm0 (l : Launch) (Z : State) (a0 : Array Value) (hw : ∀ d ∈ tables_1, d.before a0 Z = true) (wsC : List Jvm.Cond) (p0 : Int64) (p1 : Int64) (p2 : Int32) (h0 : Heap) (n0 : Nat) (Z0 : n0 ≤ h0.size)  :
    MetFree l x (head1 (Jvm.Cond.code x code maxLocals ret :: wsC) room_1) (fun aa U => aa = #[(.long p0), (.long p1), (.int p2)] ∧ Z.Warmed39 U.vm ∧ U.heap = h0) (fun _ _ _ _ _ => True) (fun _ U oo U' => ∃ v L, oo = .returned v ∧ Q_rm0 Z p0 p1 p2 h0 n0 v U'.heap L ∧ FrameEnd U oo U' L room_1.cells room_1.slots) := by
  refine MetFree.of_bodySF (plainFor_of_name pn6) hisR ?_
  intro p e s m args below meth c s₁ Bd hml0 hP hK
  obtain ⟨rfl, hZ, hh⟩ := hP
  have hx := Bd.exec
  have hby := Bd.bytes
  have hml : c.maxLocals = 17 := hml0
  have hown : s.vm.findClass "com/example/countermand/countermand/ReaderSignedNumberPinLaw" = some m.cls := findClass_of_methodNamed Bd.named
  have hnm := (name_of_methodNamed Bd.named Bd.method).1
  have hlk : meth.locks = false := Bd.notSynchronized
  have hret := Bd.returns
  have X0 : Stand p l e room_1 s m #[(.long p0), (.long p1), (.int p2)] below meth c s₁ [] 0 0 := Stand.of_body Bd
  have e0 : s₁.heap = h0 := by rw [← hh, Bd.state]; rfl
  have N0 := Fr.nil n0
  have K0 : Keep h0 h0 [] := Keep.refl _ _
  show Goes p e below s (Q_rm0 Z p0 p1 p2 h0 n0) room_1.cells room_1.slots _
  refine Goes.go (fun _ kk => castTop (ef_rm0 m p0 p1 p2) kk) ?_
  obtain ⟨ea, eb, bs1, bs2, he1, he2, hl1, hl2, hc1, hc2, hr1, hr2⟩ := own_law p0 p1
  show Goes _ _ _ _ _ _ _ (s₁.setTop (mkF m 0 #[.val (.long p0), .second, .val (.long p1), .second, .val (.int p2), .unset, .unset, .unset, .unset, .unset, .unset, .unset, .unset, .unset, .unset, .unset, .unset] []))
  obtain ⟨T1, h1, X1, e1, E1, A1, D1, U1, st1⟩ := newO X0 hx hZ hown (hw _ (List.mem_of_getElem? (i := 0) rfl)) (hw _ (List.mem_of_getElem? (i := 1) rfl)) (hw _ (List.mem_of_getElem? (i := 2) rfl)) e0 (g := (mkF m 0 #[.val (.long p0), .second, .val (.long p1), .second, .val (.int p2), .unset, .unset, .unset, .unset, .unset, .unset, .unset, .unset, .unset, .unset, .unset, .unset] [])) rfl (hb hby at_0) (by decide) (by decide)
  obtain ⟨ob0, gob0⟩ : ∃ z, z = h0.size := ⟨_, rfl⟩
  rw [← gob0] at A1 D1 U1 st1
  have Z1 : n0 ≤ h1.size := Nat.le_trans Z0 E1.1
  have ge_ob0 : n0 ≤ ob0 := Nat.le_trans Z0 (Nat.le_of_eq gob0.symm)
  have f : Fld Z h1 ob0 "com/example/countermand/countermand/Packed$Writer" "out" "Ljava/io/ByteArrayOutputStream;" .null := D1 (Or.inr (hw _ (List.mem_of_getElem? (i := 26) rfl))) (ty := (.object "java/io/ByteArrayOutputStream")) (by decide)
  refine Goes.go (st1) ?_
  show Goes _ _ _ _ _ _ _ (T1.setTop (mkF m 3 _ [(.ref ob0)]))
  refine Goes.go (fun _ kk => XS.dup X1.here hx rfl (hb hby at_3) rfl rfl kk) ?_
  show Goes _ _ _ _ _ _ _ (T1.setTop (mkF m 4 _ [(.ref ob0), (.ref ob0)]))
  refine Goes.go (fun _ kk => XS.iconst X1.here hx rfl (hb hby at_4) kk) ?_
  show Goes _ _ _ _ _ _ _ (T1.setTop (mkF m 5 _ [(.int (4 : Int32)), (.ref ob0), (.ref ob0)]))
  obtain ⟨_, _, ⟨T2, L2, k2, n2⟩, -, X2, ⟨Lc2, hQ2, l2, y2, z2⟩, st2⟩ := X1.specialBack hx (y := (⟨"com/example/countermand/countermand/Packed$Writer", "<init>", "(I)V"⟩ : MethodName)) rfl hown (mvT hZ (hw _ (List.mem_of_getElem? (i := 3) rfl))) (mvT hZ (hw _ (List.mem_of_getElem? (i := 4) rfl))) (mvT hZ (hw _ (List.mem_of_getElem? (i := 5) rfl))) (by decide) (backOf (W := 1) (rmWI l Z a0 hw [] ob0 (4 : Int32) h1 n0 Z1 A1 f ge_ob0 rfl) hZ (hw _ (List.mem_of_getElem? (i := 5) rfl)) (hw _ (List.mem_of_getElem? (i := 2) rfl)) (by decide) (by decide)) (g := (mkF m 5 #[.val (.long p0), .second, .val (.long p1), .second, .val (.int p2), .unset, .unset, .unset, .unset, .unset, .unset, .unset, .unset, .unset, .unset, .unset, .unset] [(.int (4 : Int32)), (.ref ob0), (.ref ob0)])) rfl (by rw [hml]; rfl) (Steps.refl _) (a := ob0) (argsL := [(.int (4 : Int32))]) (rest := [(.ref ob0)]) (lenOf pd0 rfl) rfl (by show 2 * 0 + _ ≤ _; exact Nat.le_of_eq rfl) (hb hby at_5) (fun _ _ => ⟨rfl, e1, (by decide : 1 + 2 ≤ _), (by decide : 1 + 6 ≤ _)⟩)
  dsimp only [Pt.U, Pt.locs, Pt.cells, Pt.slots] at X2 l2 y2 z2 st2 hQ2
  subst l2 y2 z2
  obtain ⟨rfl, Nq2, ob2, x2, Kq2, go2, gx2, Eq2, Fq2, wq2⟩ := hQ2
  have N2 := Fr.app N0 Nq2
  have Z2 : n0 ≤ T2.heap.size := Nat.le_trans Z1 Kq2.1
  refine Goes.go (fun _ kk => st2.trans kk) ?_
  show Goes _ _ _ _ _ _ _ (T2.setTop (mkF m 8 _ [(.ref ob0)]))
  refine Goes.go (fun _ kk => XS.lloadN X2.here hx rfl (hb hby at_8) rfl kk) ?_
  show Goes _ _ _ _ _ _ _ (T2.setTop (mkF m 9 _ [(.long p0), (.ref ob0)]))
  obtain ⟨cq3, kq3, qa3, qb3, qc3⟩ := isOf hZ rfl Eq2
  obtain ⟨_, _, ⟨T3, L3, k3, n3⟩, -, X3, ⟨Lc3, hQ3, l3, y3, z3⟩, st3⟩ := X2.virtualBack hx (y := (⟨"com/example/countermand/countermand/Packed$Writer", "signedNumber", "(J)Lcom/example/countermand/countermand/Packed$Writer;"⟩ : MethodName)) (z := (⟨"com/example/countermand/countermand/Packed$Writer", "signedNumber", "(J)Lcom/example/countermand/countermand/Packed$Writer;"⟩ : MethodName)) hown (mvT hZ (hw _ (List.mem_of_getElem? (i := 27) rfl))) (mvT hZ (hw _ (List.mem_of_getElem? (i := 28) rfl))) (notFace_of_selects (args := #[]) (mvT hZ (hw _ (List.mem_of_getElem? (i := 30) rfl)))) (mvT hZ (hw _ (List.mem_of_getElem? (i := 30) rfl))) (mvT hZ (hw _ (List.mem_of_getElem? (i := 29) rfl))) (by decide) (backOf (W := 0) (rmSN l Z a0 hw [] ob0 p0 ob2 x2 [] T2.heap n0 Z2 Eq2 Fq2 wq2 go2 gx2 (by decide)) hZ (hw _ (List.mem_of_getElem? (i := 31) rfl)) (hw _ (List.mem_of_getElem? (i := 2) rfl)) (by decide) (by decide)) qa3 qc3 (g := (mkF m 9 #[.val (.long p0), .second, .val (.long p1), .second, .val (.int p2), .unset, .unset, .unset, .unset, .unset, .unset, .unset, .unset, .unset, .unset, .unset, .unset] [(.long p0), (.ref ob0)])) rfl (by rw [hml]; rfl) (Steps.refl _) (argsL := [(.long p0)]) (rest := []) (lenOf pd2 rfl) rfl (by show 2 * 0 + _ ≤ _; exact Nat.le_of_eq rfl) (hb hby at_9) (fun _ _ => ⟨rfl, rfl, (by decide : 3 + 3 ≤ _), (by decide : 7 + 96 ≤ _)⟩)
  dsimp only [Pt.U, Pt.locs, Pt.cells, Pt.slots] at X3 l3 y3 z3 st3 hQ3
  subst l3 y3 z3
  obtain ⟨rfl, Nq3, x3, Kq3, gq3, Eq3, Fq3, wq3⟩ := hQ3
  have N3 := Fr.app N2 Nq3
  rw [← he1, List.nil_append] at wq3
  have Z3 : n0 ≤ T3.heap.size := Nat.le_trans Z2 Kq3.1
  refine Goes.go (fun _ kk => st3.trans kk) ?_
  show Goes _ _ _ _ _ _ _ (T3.setTop (mkF m 12 _ [(.ref ob0)]))
  refine Goes.go (fun _ kk => XS.lloadN X3.here hx rfl (hb hby at_12) rfl kk) ?_
  show Goes _ _ _ _ _ _ _ (T3.setTop (mkF m 13 _ [(.long p1), (.ref ob0)]))
  obtain ⟨cq4, kq4, qa4, qb4, qc4⟩ := isOf hZ rfl Eq3
  obtain ⟨_, _, ⟨T4, L4, k4, n4⟩, -, X4, ⟨Lc4, hQ4, l4, y4, z4⟩, st4⟩ := X3.virtualBack hx (y := (⟨"com/example/countermand/countermand/Packed$Writer", "signedNumber", "(J)Lcom/example/countermand/countermand/Packed$Writer;"⟩ : MethodName)) (z := (⟨"com/example/countermand/countermand/Packed$Writer", "signedNumber", "(J)Lcom/example/countermand/countermand/Packed$Writer;"⟩ : MethodName)) hown (mvT hZ (hw _ (List.mem_of_getElem? (i := 27) rfl))) (mvT hZ (hw _ (List.mem_of_getElem? (i := 28) rfl))) (notFace_of_selects (args := #[]) (mvT hZ (hw _ (List.mem_of_getElem? (i := 30) rfl)))) (mvT hZ (hw _ (List.mem_of_getElem? (i := 30) rfl))) (mvT hZ (hw _ (List.mem_of_getElem? (i := 29) rfl))) (by decide) (backOf (W := 0) (rmSN l Z a0 hw [] ob0 p1 ob2 x3 ea T3.heap n0 Z3 Eq3 Fq3 wq3 go2 gq3 hl1) hZ (hw _ (List.mem_of_getElem? (i := 31) rfl)) (hw _ (List.mem_of_getElem? (i := 2) rfl)) (by decide) (by decide)) qa4 qc4 (g := (mkF m 13 #[.val (.long p0), .second, .val (.long p1), .second, .val (.int p2), .unset, .unset, .unset, .unset, .unset, .unset, .unset, .unset, .unset, .unset, .unset, .unset] [(.long p1), (.ref ob0)])) rfl (by rw [hml]; rfl) (Steps.refl _) (argsL := [(.long p1)]) (rest := []) (lenOf pd2 rfl) rfl (by show 2 * 0 + _ ≤ _; exact Nat.le_of_eq rfl) (hb hby at_13) (fun _ _ => ⟨rfl, rfl, (by decide : 6 + 3 ≤ _), (by decide : 103 + 96 ≤ _)⟩)
  dsimp only [Pt.U, Pt.locs, Pt.cells, Pt.slots] at X4 l4 y4 z4 st4 hQ4
  subst l4 y4 z4
  obtain ⟨rfl, Nq4, x4, Kq4, gq4, Eq4, Fq4, wq4⟩ := hQ4
  have N4 := Fr.app N3 Nq4
  rw [← he2] at wq4
  have Z4 : n0 ≤ T4.heap.size := Nat.le_trans Z3 Kq4.1
  refine Goes.go (fun _ kk => st4.trans kk) ?_
  show Goes _ _ _ _ _ _ _ (T4.setTop (mkF m 16 _ [(.ref ob0)]))
  obtain ⟨cq5, kq5, qa5, qb5, qc5⟩ := isOf hZ rfl Eq4
  obtain ⟨_, _, ⟨T5, L5, k5, n5⟩, -, X5, ⟨Lc5, hQ5, l5, y5, z5⟩, st5⟩ := X4.virtualBack hx (y := (⟨"com/example/countermand/countermand/Packed$Writer", "bytes", "()[B"⟩ : MethodName)) (z := (⟨"com/example/countermand/countermand/Packed$Writer", "bytes", "()[B"⟩ : MethodName)) hown (mvT hZ (hw _ (List.mem_of_getElem? (i := 49) rfl))) (mvT hZ (hw _ (List.mem_of_getElem? (i := 50) rfl))) (notFace_of_selects (args := #[]) (mvT hZ (hw _ (List.mem_of_getElem? (i := 52) rfl)))) (mvT hZ (hw _ (List.mem_of_getElem? (i := 52) rfl))) (mvT hZ (hw _ (List.mem_of_getElem? (i := 51) rfl))) (by decide) (backOf (W := 0) (rmB l Z a0 hw [] ob0 ob2 x4 (ea ++ eb) T4.heap n0 Z4 Fq4 wq4 hl2) hZ (hw _ (List.mem_of_getElem? (i := 53) rfl)) (hw _ (List.mem_of_getElem? (i := 2) rfl)) (by decide) (by decide)) qa5 qc5 (g := (mkF m 16 #[.val (.long p0), .second, .val (.long p1), .second, .val (.int p2), .unset, .unset, .unset, .unset, .unset, .unset, .unset, .unset, .unset, .unset, .unset, .unset] [(.ref ob0)])) rfl (by rw [hml]; rfl) (Steps.refl _) (argsL := []) (rest := []) (lenOf pd4 rfl) rfl (by show 2 * 0 + _ ≤ _; exact Nat.le_of_eq rfl) (hb hby at_16) (fun _ _ => ⟨rfl, rfl, (by decide : 9 + 1 ≤ _), (by decide : 199 + 32 ≤ _)⟩)
  dsimp only [Pt.U, Pt.locs, Pt.cells, Pt.slots] at X5 l5 y5 z5 st5 hQ5
  subst l5 y5 z5
  obtain ⟨x5, rfl, Nq5, Kq5, gq5, kq5, Aq5⟩ := hQ5
  have N5 := Fr.app N4 Nq5
  have Z5 : n0 ≤ T5.heap.size := Nat.le_trans Z4 Kq5.1
  refine Goes.go (fun _ kk => st5.trans kk) ?_
  show Goes _ _ _ _ _ _ _ (T5.setTop (mkF m 19 _ [(.ref x5)]))
  refine Goes.go (fun _ kk => XS.astore X5.here hx rfl (hb hby at_19) rfl rfl (l' := #[.val (.long p0), .second, .val (.long p1), .second, .val (.int p2), .val (.ref x5), .unset, .unset, .unset, .unset, .unset, .unset, .unset, .unset, .unset, .unset, .unset]) rfl kk) ?_
  show Goes _ _ _ _ _ _ _ (T5.setTop (mkF m 21 #[.val (.long p0), .second, .val (.long p1), .second, .val (.int p2), .val (.ref x5), .unset, .unset, .unset, .unset, .unset, .unset, .unset, .unset, .unset, .unset, .unset] []))
  obtain ⟨T6, h6, X6, e6, E6, A6, D6, U6, st6⟩ := newO X5 hx hZ hown (hw _ (List.mem_of_getElem? (i := 71) rfl)) (hw _ (List.mem_of_getElem? (i := 72) rfl)) (hw _ (List.mem_of_getElem? (i := 73) rfl)) rfl (g := (mkF m 21 #[.val (.long p0), .second, .val (.long p1), .second, .val (.int p2), .val (.ref x5), .unset, .unset, .unset, .unset, .unset, .unset, .unset, .unset, .unset, .unset, .unset] [])) rfl (hb hby at_21) (by decide) (by decide)
  obtain ⟨ob21, gob21⟩ : ∃ z, z = T5.heap.size := ⟨_, rfl⟩
  rw [← gob21] at A6 D6 U6 st6
  have ne_x5_ob21 : x5 ≠ ob21 := by rw [gob21]; exact Nat.ne_of_lt Aq5.lt
  have f_1 := Aq5.ext E6
  have Z6 : n0 ≤ h6.size := Nat.le_trans Z5 E6.1
  have ge_ob21 : n0 ≤ ob21 := Nat.le_trans Z5 (Nat.le_of_eq gob21.symm)
  have f_2 : Fld Z h6 ob21 "com/example/countermand/countermand/Packed$Reader" "in" "[B" .null := D6 (Or.inr (hw _ (List.mem_of_getElem? (i := 79) rfl))) (ty := (.array .byte)) (by decide)
  have f_3 : Fld Z h6 ob21 "com/example/countermand/countermand/Packed$Reader" "position" "I" (.int (0 : Int32)) := D6 (Or.inl (hw _ (List.mem_of_getElem? (i := 81) rfl))) (ty := .int) (by decide)
  refine Goes.go (st6) ?_
  show Goes _ _ _ _ _ _ _ (T6.setTop (mkF m 24 _ [(.ref ob21)]))
  refine Goes.go (fun _ kk => XS.dup X6.here hx rfl (hb hby at_24) rfl rfl kk) ?_
  show Goes _ _ _ _ _ _ _ (T6.setTop (mkF m 25 _ [(.ref ob21), (.ref ob21)]))
  refine Goes.go (fun _ kk => XS.aload X6.here hx rfl (hb hby at_25) rfl rfl kk) ?_
  show Goes _ _ _ _ _ _ _ (T6.setTop (mkF m 27 _ [(.ref x5), (.ref ob21), (.ref ob21)]))
  refine Goes.go (fun _ kk => XS.iconst X6.here hx rfl (hb hby at_27) kk) ?_
  show Goes _ _ _ _ _ _ _ (T6.setTop (mkF m 28 _ [(.int (0 : Int32)), (.ref x5), (.ref ob21), (.ref ob21)]))
  obtain ⟨_, _, ⟨T7, L7, k7, n7⟩, -, X7, ⟨Lc7, hQ7, l7, y7, z7⟩, st7⟩ := X6.specialBack hx (y := (⟨"com/example/countermand/countermand/Packed$Reader", "<init>", "([BI)V"⟩ : MethodName)) rfl hown (mvT hZ (hw _ (List.mem_of_getElem? (i := 74) rfl))) (mvT hZ (hw _ (List.mem_of_getElem? (i := 75) rfl))) (mvT hZ (hw _ (List.mem_of_getElem? (i := 76) rfl))) (by decide) (backOf (W := 1) (rm1 l Z a0 hw [] ob21 x5 (0 : Int32) h6 n0 Z6 A6 f_2 f_3 ge_ob21) hZ (hw _ (List.mem_of_getElem? (i := 76) rfl)) (hw _ (List.mem_of_getElem? (i := 73) rfl)) (by decide) (by decide)) (g := (mkF m 28 #[.val (.long p0), .second, .val (.long p1), .second, .val (.int p2), .val (.ref x5), .unset, .unset, .unset, .unset, .unset, .unset, .unset, .unset, .unset, .unset, .unset] [(.int (0 : Int32)), (.ref x5), (.ref ob21), (.ref ob21)])) rfl (by rw [hml]; rfl) (Steps.refl _) (a := ob21) (argsL := [(.ref x5), (.int (0 : Int32))]) (rest := [(.ref ob21)]) (lenOf pd7 rfl) rfl (by show 2 * 0 + _ ≤ _; exact Nat.le_of_eq rfl) (hb hby at_28) (fun _ _ => ⟨rfl, e6, (by decide : 11 + 0 ≤ _), (by decide : 233 + 0 ≤ _)⟩)
  dsimp only [Pt.U, Pt.locs, Pt.cells, Pt.slots] at X7 l7 y7 z7 st7 hQ7
  subst l7 y7 z7
  obtain ⟨rfl, Nq7, Kq7, Eq7, Fq7_0, Fq7_1⟩ := hQ7
  have N7 := Fr.app N5 Nq7
  have Z7 : n0 ≤ T7.heap.size := Nat.le_trans Z6 Kq7.1
  have f_4 := Arl.keep f_1 Kq7 (ninS ne_x5_ob21 nin0)
  refine Goes.go (fun _ kk => st7.trans kk) ?_
  show Goes _ _ _ _ _ _ _ (T7.setTop (mkF m 31 _ [(.ref ob21)]))
  refine Goes.go (fun _ kk => XS.astore X7.here hx rfl (hb hby at_31) rfl rfl (l' := #[.val (.long p0), .second, .val (.long p1), .second, .val (.int p2), .val (.ref x5), .val (.ref ob21), .unset, .unset, .unset, .unset, .unset, .unset, .unset, .unset, .unset, .unset]) rfl kk) ?_
  show Goes _ _ _ _ _ _ _ (T7.setTop (mkF m 33 #[.val (.long p0), .second, .val (.long p1), .second, .val (.int p2), .val (.ref x5), .val (.ref ob21), .unset, .unset, .unset, .unset, .unset, .unset, .unset, .unset, .unset, .unset] []))
  refine Goes.go (fun _ kk => XS.aload X7.here hx rfl (hb hby at_33) rfl rfl kk) ?_
  show Goes _ _ _ _ _ _ _ (T7.setTop (mkF m 35 _ [(.ref ob21)]))
  obtain ⟨cq8, kq8, qa8, qb8, qc8⟩ := isOf hZ rfl Eq7
  obtain ⟨_, _, ⟨T8, L8, k8, n8⟩, -, X8, ⟨Lc8, hQ8, l8, y8, z8⟩, st8⟩ := X7.virtualBack hx (y := (⟨"com/example/countermand/countermand/Packed$Reader", "signedNumber", "()J"⟩ : MethodName)) (z := (⟨"com/example/countermand/countermand/Packed$Reader", "signedNumber", "()J"⟩ : MethodName)) hown (mvT hZ (hw _ (List.mem_of_getElem? (i := 82) rfl))) (mvT hZ (hw _ (List.mem_of_getElem? (i := 83) rfl))) (notFace_of_selects (args := #[]) (mvT hZ (hw _ (List.mem_of_getElem? (i := 85) rfl)))) (mvT hZ (hw _ (List.mem_of_getElem? (i := 85) rfl))) (mvT hZ (hw _ (List.mem_of_getElem? (i := 84) rfl))) (by decide) (backOf (W := 0) (rmRS l Z a0 hw [] ob21 x5 _ (0 : Int32) bs1 T7.heap n0 Z7 Eq7 Fq7_0 Fq7_1 ge_ob21 f_4 hc1) hZ (hw _ (List.mem_of_getElem? (i := 86) rfl)) (hw _ (List.mem_of_getElem? (i := 73) rfl)) (by decide) (by decide)) qa8 qc8 (g := (mkF m 35 #[.val (.long p0), .second, .val (.long p1), .second, .val (.int p2), .val (.ref x5), .val (.ref ob21), .unset, .unset, .unset, .unset, .unset, .unset, .unset, .unset, .unset, .unset] [(.ref ob21)])) rfl (by rw [hml]; rfl) (Steps.refl _) (argsL := []) (rest := []) (lenOf pd8 rfl) rfl (by show 2 * 0 + _ ≤ _; exact Nat.le_of_eq rfl) (hb hby at_35) (fun _ _ => ⟨rfl, rfl, (by decide : 11 + 0 ≤ _), (by decide : 233 + 0 ≤ _)⟩)
  dsimp only [Pt.U, Pt.locs, Pt.cells, Pt.slots] at X8 l8 y8 z8 st8 hQ8
  subst l8 y8 z8
  obtain ⟨rfl, Nq8, Kq8, Eq8, Fq8_0, Fq8_1⟩ := hQ8
  have N8 := Fr.app N7 Nq8
  have Z8 : n0 ≤ T8.heap.size := Nat.le_trans Z7 Kq8.1
  have f_5 := Arl.keep f_4 Kq8 (ninS ne_x5_ob21 nin0)
  refine Goes.go (fun _ kk => st8.trans kk) ?_
  show Goes _ _ _ _ _ _ _ (T8.setTop (mkF m 38 _ [(.long (uz (svb bs1 0 0)))]))
  refine Goes.go (fun _ kk => XS.lstore X8.here hx rfl (hb hby at_38) rfl (l' := #[.val (.long p0), .second, .val (.long p1), .second, .val (.int p2), .val (.ref x5), .val (.ref ob21), .val (.long (uz (svb bs1 0 0))), .second, .unset, .unset, .unset, .unset, .unset, .unset, .unset, .unset]) rfl kk) ?_
  show Goes _ _ _ _ _ _ _ (T8.setTop (mkF m 40 #[.val (.long p0), .second, .val (.long p1), .second, .val (.int p2), .val (.ref x5), .val (.ref ob21), .val (.long (uz (svb bs1 0 0))), .second, .unset, .unset, .unset, .unset, .unset, .unset, .unset, .unset] []))
  refine Goes.go (fun _ kk => XS.aload X8.here hx rfl (hb hby at_40) rfl rfl kk) ?_
  show Goes _ _ _ _ _ _ _ (T8.setTop (mkF m 42 _ [(.ref ob21)]))
  obtain ⟨cq9, kq9, qa9, qb9, qc9⟩ := isOf hZ rfl Eq8
  obtain ⟨_, _, ⟨T9, L9, k9, n9⟩, -, X9, ⟨Lc9, hQ9, l9, y9, z9⟩, st9⟩ := X8.virtualBack hx (y := (⟨"com/example/countermand/countermand/Packed$Reader", "signedNumber", "()J"⟩ : MethodName)) (z := (⟨"com/example/countermand/countermand/Packed$Reader", "signedNumber", "()J"⟩ : MethodName)) hown (mvT hZ (hw _ (List.mem_of_getElem? (i := 82) rfl))) (mvT hZ (hw _ (List.mem_of_getElem? (i := 83) rfl))) (notFace_of_selects (args := #[]) (mvT hZ (hw _ (List.mem_of_getElem? (i := 85) rfl)))) (mvT hZ (hw _ (List.mem_of_getElem? (i := 85) rfl))) (mvT hZ (hw _ (List.mem_of_getElem? (i := 84) rfl))) (by decide) (backOf (W := 0) (rmRS l Z a0 hw [] ob21 x5 _ (endp bs1 (0 : Int32)) bs2 T8.heap n0 Z8 Eq8 Fq8_0 Fq8_1 ge_ob21 f_5 hc2) hZ (hw _ (List.mem_of_getElem? (i := 86) rfl)) (hw _ (List.mem_of_getElem? (i := 73) rfl)) (by decide) (by decide)) qa9 qc9 (g := (mkF m 42 #[.val (.long p0), .second, .val (.long p1), .second, .val (.int p2), .val (.ref x5), .val (.ref ob21), .val (.long (uz (svb bs1 0 0))), .second, .unset, .unset, .unset, .unset, .unset, .unset, .unset, .unset] [(.ref ob21)])) rfl (by rw [hml]; rfl) (Steps.refl _) (argsL := []) (rest := []) (lenOf pd8 rfl) rfl (by show 2 * 0 + _ ≤ _; exact Nat.le_of_eq rfl) (hb hby at_42) (fun _ _ => ⟨rfl, rfl, (by decide : 11 + 0 ≤ _), (by decide : 233 + 0 ≤ _)⟩)
  dsimp only [Pt.U, Pt.locs, Pt.cells, Pt.slots] at X9 l9 y9 z9 st9 hQ9
  subst l9 y9 z9
  obtain ⟨rfl, Nq9, Kq9, Eq9, Fq9_0, Fq9_1⟩ := hQ9
  have N9 := Fr.app N8 Nq9
  have Z9 : n0 ≤ T9.heap.size := Nat.le_trans Z8 Kq9.1
  have f_6 := Arl.keep f_5 Kq9 (ninS ne_x5_ob21 nin0)
  refine Goes.go (fun _ kk => st9.trans kk) ?_
  show Goes _ _ _ _ _ _ _ (T9.setTop (mkF m 45 _ [(.long (uz (svb bs2 0 0)))]))
  refine Goes.go (fun _ kk => XS.lstore X9.here hx rfl (hb hby at_45) rfl (l' := #[.val (.long p0), .second, .val (.long p1), .second, .val (.int p2), .val (.ref x5), .val (.ref ob21), .val (.long (uz (svb bs1 0 0))), .second, .val (.long (uz (svb bs2 0 0))), .second, .unset, .unset, .unset, .unset, .unset, .unset]) rfl kk) ?_
  show Goes _ _ _ _ _ _ _ (T9.setTop (mkF m 47 #[.val (.long p0), .second, .val (.long p1), .second, .val (.int p2), .val (.ref x5), .val (.ref ob21), .val (.long (uz (svb bs1 0 0))), .second, .val (.long (uz (svb bs2 0 0))), .second, .unset, .unset, .unset, .unset, .unset, .unset] []))
  refine Goes.go (fun _ kk => XS.iload X9.here hx rfl (hb hby at_47) rfl kk) ?_
  show Goes _ _ _ _ _ _ _ (T9.setTop (mkF m 49 _ [(.int p2)]))
  refine Goes.go (fun _ kk => XS.bipush X9.here hx rfl (hb hby at_49) kk) ?_
  show Goes _ _ _ _ _ _ _ (T9.setTop (mkF m 51 _ [(.int (127 : Int32)), (.int p2)]))
  refine Goes.go (fun _ kk => XS.iand X9.here hx rfl (hb hby at_51) rfl kk) ?_
  show Goes _ _ _ _ _ _ _ (T9.setTop (mkF m 52 _ [(.int (p2 &&& (127 : Int32)))]))
  refine Goes.go (fun _ kk => XS.istore X9.here hx rfl (hb hby at_52) rfl (l' := #[.val (.long p0), .second, .val (.long p1), .second, .val (.int p2), .val (.ref x5), .val (.ref ob21), .val (.long (uz (svb bs1 0 0))), .second, .val (.long (uz (svb bs2 0 0))), .second, .val (.int (p2 &&& (127 : Int32))), .unset, .unset, .unset, .unset, .unset]) rfl kk) ?_
  show Goes _ _ _ _ _ _ _ (T9.setTop (mkF m 54 #[.val (.long p0), .second, .val (.long p1), .second, .val (.int p2), .val (.ref x5), .val (.ref ob21), .val (.long (uz (svb bs1 0 0))), .second, .val (.long (uz (svb bs2 0 0))), .second, .val (.int (p2 &&& (127 : Int32))), .unset, .unset, .unset, .unset, .unset] []))
  refine Goes.go (fun _ kk => XS.iconst X9.here hx rfl (hb hby at_54) kk) ?_
  show Goes _ _ _ _ _ _ _ (T9.setTop (mkF m 55 _ [(.int (2 : Int32))]))
  obtain ⟨T10, h10, X10, e10, E10, A10, st10⟩ := own_newP X9 hx hZ (aty := .byte) (hw _ (List.mem_of_getElem? (i := 22) rfl)) rfl (g := (mkF m 55 #[.val (.long p0), .second, .val (.long p1), .second, .val (.int p2), .val (.ref x5), .val (.ref ob21), .val (.long (uz (svb bs1 0 0))), .second, .val (.long (uz (svb bs2 0 0))), .second, .val (.int (p2 &&& (127 : Int32))), .unset, .unset, .unset, .unset, .unset] [(.int (2 : Int32))])) rfl (hb hby at_55) rfl (n := (2 : Int32)) (by decide) (cap := 2) (by decide) (by decide) (by decide) (by decide)
  obtain ⟨ar55, gar55⟩ : ∃ z, z = T9.heap.size := ⟨_, rfl⟩
  rw [← gar55] at A10 st10
  have Z10 : n0 ≤ h10.size := Nat.le_trans Z9 E10.1
  have ge_ar55 : n0 ≤ ar55 := Nat.le_trans Z9 (Nat.le_of_eq gar55.symm)
  have f_7 : Arl Z h10 ar55 .byte [(.int (0 : Int32)), (.int (0 : Int32))] := A10
  refine Goes.go (st10) ?_
  show Goes _ _ _ _ _ _ _ (T10.setTop (mkF m 57 _ [(.ref ar55)]))
  refine Goes.go (fun _ kk => XS.dup X10.here hx rfl (hb hby at_57) rfl rfl kk) ?_
  show Goes _ _ _ _ _ _ _ (T10.setTop (mkF m 58 _ [(.ref ar55), (.ref ar55)]))
  refine Goes.go (fun _ kk => XS.iconst X10.here hx rfl (hb hby at_58) kk) ?_
  show Goes _ _ _ _ _ _ _ (T10.setTop (mkF m 59 _ [(.int (0 : Int32)), (.ref ar55), (.ref ar55)]))
  refine Goes.go (fun _ kk => XS.iload X10.here hx rfl (hb hby at_59) rfl kk) ?_
  show Goes _ _ _ _ _ _ _ (T10.setTop (mkF m 61 _ [(.int p2), (.int (0 : Int32)), (.ref ar55), (.ref ar55)]))
  refine Goes.go (fun _ kk => XS.bipush X10.here hx rfl (hb hby at_61) kk) ?_
  show Goes _ _ _ _ _ _ _ (T10.setTop (mkF m 63 _ [(.int (8 : Int32)), (.int p2), (.int (0 : Int32)), (.ref ar55), (.ref ar55)]))
  refine Goes.go (fun _ kk => XS.iushr X10.here hx rfl (hb hby at_63) rfl kk) ?_
  show Goes _ _ _ _ _ _ _ (T10.setTop (mkF m 64 _ [(.int ((p2).toUInt32 >>> ((8 : Int32) &&& 31).toUInt32).toInt32), (.int (0 : Int32)), (.ref ar55), (.ref ar55)]))
  refine Goes.go (fun _ kk => XS.i2b X10.here hx rfl (hb hby at_64) rfl kk) ?_
  show Goes _ _ _ _ _ _ _ (T10.setTop (mkF m 65 _ [(.int (((p2).toUInt32 >>> ((8 : Int32) &&& 31).toUInt32).toInt32).toInt8.toInt32), (.int (0 : Int32)), (.ref ar55), (.ref ar55)]))
  obtain ⟨T11, h11, X11, e11, W11, A11, st11⟩ := own_stB X10 hx hZ e10 f_7 (j := (0 : Int32)) (x := (((p2).toUInt32 >>> ((8 : Int32) &&& 31).toUInt32).toInt32).toInt8.toInt32) (by decide) (show (0 : Nat) < 2 by decide) (g := (mkF m 65 #[.val (.long p0), .second, .val (.long p1), .second, .val (.int p2), .val (.ref x5), .val (.ref ob21), .val (.long (uz (svb bs1 0 0))), .second, .val (.long (uz (svb bs2 0 0))), .second, .val (.int (p2 &&& (127 : Int32))), .unset, .unset, .unset, .unset, .unset] [(.int (((p2).toUInt32 >>> ((8 : Int32) &&& 31).toUInt32).toInt32).toInt8.toInt32), (.int (0 : Int32)), (.ref ar55), (.ref ar55)])) rfl rfl (hb hby at_65)
  rw [own_nar8] at A11
  have N11 := Fr.snoc X11 N9 ge_ar55
  have Z11 : n0 ≤ h11.size := by rw [W11.size]; exact Z10
  have f_8 : Arl Z h11 ar55 .byte [(.int (((p2).toUInt32 >>> ((8 : Int32) &&& 31).toUInt32).toInt32).toInt8.toInt32), (.int (0 : Int32))] := A11
  refine Goes.go (st11) ?_
  show Goes _ _ _ _ _ _ _ (T11.setTop (mkF m 66 _ [(.ref ar55)]))
  refine Goes.go (fun _ kk => XS.dup X11.here hx rfl (hb hby at_66) rfl rfl kk) ?_
  show Goes _ _ _ _ _ _ _ (T11.setTop (mkF m 67 _ [(.ref ar55), (.ref ar55)]))
  refine Goes.go (fun _ kk => XS.iconst X11.here hx rfl (hb hby at_67) kk) ?_
  show Goes _ _ _ _ _ _ _ (T11.setTop (mkF m 68 _ [(.int (1 : Int32)), (.ref ar55), (.ref ar55)]))
  refine Goes.go (fun _ kk => XS.iload X11.here hx rfl (hb hby at_68) rfl kk) ?_
  show Goes _ _ _ _ _ _ _ (T11.setTop (mkF m 70 _ [(.int (p2 &&& (127 : Int32))), (.int (1 : Int32)), (.ref ar55), (.ref ar55)]))
  refine Goes.go (fun _ kk => XS.i2b X11.here hx rfl (hb hby at_70) rfl kk) ?_
  show Goes _ _ _ _ _ _ _ (T11.setTop (mkF m 71 _ [(.int ((p2 &&& (127 : Int32))).toInt8.toInt32), (.int (1 : Int32)), (.ref ar55), (.ref ar55)]))
  obtain ⟨T12, h12, X12, e12, W12, A12, st12⟩ := own_stB X11 hx hZ e11 f_8 (j := (1 : Int32)) (x := ((p2 &&& (127 : Int32))).toInt8.toInt32) (by decide) (show (1 : Nat) < 2 by decide) (g := (mkF m 71 #[.val (.long p0), .second, .val (.long p1), .second, .val (.int p2), .val (.ref x5), .val (.ref ob21), .val (.long (uz (svb bs1 0 0))), .second, .val (.long (uz (svb bs2 0 0))), .second, .val (.int (p2 &&& (127 : Int32))), .unset, .unset, .unset, .unset, .unset] [(.int ((p2 &&& (127 : Int32))).toInt8.toInt32), (.int (1 : Int32)), (.ref ar55), (.ref ar55)])) rfl rfl (hb hby at_71)
  rw [own_nar8] at A12
  have N12 := Fr.snoc X12 N11 ge_ar55
  have Z12 : n0 ≤ h12.size := by rw [W12.size]; exact Z11
  have f_9 : Arl Z h12 ar55 .byte [(.int (((p2).toUInt32 >>> ((8 : Int32) &&& 31).toUInt32).toInt32).toInt8.toInt32), (.int ((p2 &&& (127 : Int32))).toInt8.toInt32)] := A12
  refine Goes.go (st12) ?_
  show Goes _ _ _ _ _ _ _ (T12.setTop (mkF m 72 _ [(.ref ar55)]))
  refine Goes.go (fun _ kk => XS.astore X12.here hx rfl (hb hby at_72) rfl rfl (l' := #[.val (.long p0), .second, .val (.long p1), .second, .val (.int p2), .val (.ref x5), .val (.ref ob21), .val (.long (uz (svb bs1 0 0))), .second, .val (.long (uz (svb bs2 0 0))), .second, .val (.int (p2 &&& (127 : Int32))), .val (.ref ar55), .unset, .unset, .unset, .unset]) rfl kk) ?_
  show Goes _ _ _ _ _ _ _ (T12.setTop (mkF m 74 #[.val (.long p0), .second, .val (.long p1), .second, .val (.int p2), .val (.ref x5), .val (.ref ob21), .val (.long (uz (svb bs1 0 0))), .second, .val (.long (uz (svb bs2 0 0))), .second, .val (.int (p2 &&& (127 : Int32))), .val (.ref ar55), .unset, .unset, .unset, .unset] []))
  obtain ⟨T13, h13, X13, e13, E13, A13, D13, U13, st13⟩ := newO X12 hx hZ hown (hw _ (List.mem_of_getElem? (i := 71) rfl)) (hw _ (List.mem_of_getElem? (i := 72) rfl)) (hw _ (List.mem_of_getElem? (i := 73) rfl)) e12 (g := (mkF m 74 #[.val (.long p0), .second, .val (.long p1), .second, .val (.int p2), .val (.ref x5), .val (.ref ob21), .val (.long (uz (svb bs1 0 0))), .second, .val (.long (uz (svb bs2 0 0))), .second, .val (.int (p2 &&& (127 : Int32))), .val (.ref ar55), .unset, .unset, .unset, .unset] [])) rfl (hb hby at_74) (by decide) (by decide)
  obtain ⟨ob74, gob74⟩ : ∃ z, z = h12.size := ⟨_, rfl⟩
  rw [← gob74] at A13 D13 U13 st13
  have ne_ar55_ob74 : ar55 ≠ ob74 := by rw [gob74]; exact Nat.ne_of_lt f_9.lt
  have f_10 := f_9.ext E13
  have Z13 : n0 ≤ h13.size := Nat.le_trans Z12 E13.1
  have ge_ob74 : n0 ≤ ob74 := Nat.le_trans Z12 (Nat.le_of_eq gob74.symm)
  have f_11 : Fld Z h13 ob74 "com/example/countermand/countermand/Packed$Reader" "in" "[B" .null := D13 (Or.inr (hw _ (List.mem_of_getElem? (i := 79) rfl))) (ty := (.array .byte)) (by decide)
  have f_12 : Fld Z h13 ob74 "com/example/countermand/countermand/Packed$Reader" "position" "I" (.int (0 : Int32)) := D13 (Or.inl (hw _ (List.mem_of_getElem? (i := 81) rfl))) (ty := .int) (by decide)
  refine Goes.go (st13) ?_
  show Goes _ _ _ _ _ _ _ (T13.setTop (mkF m 77 _ [(.ref ob74)]))
  refine Goes.go (fun _ kk => XS.dup X13.here hx rfl (hb hby at_77) rfl rfl kk) ?_
  show Goes _ _ _ _ _ _ _ (T13.setTop (mkF m 78 _ [(.ref ob74), (.ref ob74)]))
  refine Goes.go (fun _ kk => XS.aload X13.here hx rfl (hb hby at_78) rfl rfl kk) ?_
  show Goes _ _ _ _ _ _ _ (T13.setTop (mkF m 80 _ [(.ref ar55), (.ref ob74), (.ref ob74)]))
  refine Goes.go (fun _ kk => XS.iconst X13.here hx rfl (hb hby at_80) kk) ?_
  show Goes _ _ _ _ _ _ _ (T13.setTop (mkF m 81 _ [(.int (1 : Int32)), (.ref ar55), (.ref ob74), (.ref ob74)]))
  obtain ⟨_, _, ⟨T14, L14, k14, n14⟩, -, X14, ⟨Lc14, hQ14, l14, y14, z14⟩, st14⟩ := X13.specialBack hx (y := (⟨"com/example/countermand/countermand/Packed$Reader", "<init>", "([BI)V"⟩ : MethodName)) rfl hown (mvT hZ (hw _ (List.mem_of_getElem? (i := 74) rfl))) (mvT hZ (hw _ (List.mem_of_getElem? (i := 75) rfl))) (mvT hZ (hw _ (List.mem_of_getElem? (i := 76) rfl))) (by decide) (backOf (W := 1) (rm1 l Z a0 hw [] ob74 ar55 (1 : Int32) h13 n0 Z13 A13 f_11 f_12 ge_ob74) hZ (hw _ (List.mem_of_getElem? (i := 76) rfl)) (hw _ (List.mem_of_getElem? (i := 73) rfl)) (by decide) (by decide)) (g := (mkF m 81 #[.val (.long p0), .second, .val (.long p1), .second, .val (.int p2), .val (.ref x5), .val (.ref ob21), .val (.long (uz (svb bs1 0 0))), .second, .val (.long (uz (svb bs2 0 0))), .second, .val (.int (p2 &&& (127 : Int32))), .val (.ref ar55), .unset, .unset, .unset, .unset] [(.int (1 : Int32)), (.ref ar55), (.ref ob74), (.ref ob74)])) rfl (by rw [hml]; rfl) (Steps.refl _) (a := ob74) (argsL := [(.ref ar55), (.int (1 : Int32))]) (rest := [(.ref ob74)]) (lenOf pd7 rfl) rfl (by show 2 * 0 + _ ≤ _; exact Nat.le_of_eq rfl) (hb hby at_81) (fun _ _ => ⟨rfl, e13, (by decide : 13 + 0 ≤ _), (by decide : 237 + 0 ≤ _)⟩)
  dsimp only [Pt.U, Pt.locs, Pt.cells, Pt.slots] at X14 l14 y14 z14 st14 hQ14
  subst l14 y14 z14
  obtain ⟨rfl, Nq14, Kq14, Eq14, Fq14_0, Fq14_1⟩ := hQ14
  have N14 := Fr.app N12 Nq14
  have Z14 : n0 ≤ T14.heap.size := Nat.le_trans Z13 Kq14.1
  have f_13 := Arl.keep f_10 Kq14 (ninS ne_ar55_ob74 nin0)
  refine Goes.go (fun _ kk => st14.trans kk) ?_
  show Goes _ _ _ _ _ _ _ (T14.setTop (mkF m 84 _ [(.ref ob74)]))
  obtain ⟨cq15, kq15, qa15, qb15, qc15⟩ := isOf hZ rfl Eq14
  obtain ⟨_, _, ⟨T15, L15, k15, n15⟩, -, X15, ⟨Lc15, hQ15, l15, y15, z15⟩, st15⟩ := X14.virtualBack hx (y := (⟨"com/example/countermand/countermand/Packed$Reader", "signedNumber", "()J"⟩ : MethodName)) (z := (⟨"com/example/countermand/countermand/Packed$Reader", "signedNumber", "()J"⟩ : MethodName)) hown (mvT hZ (hw _ (List.mem_of_getElem? (i := 82) rfl))) (mvT hZ (hw _ (List.mem_of_getElem? (i := 83) rfl))) (notFace_of_selects (args := #[]) (mvT hZ (hw _ (List.mem_of_getElem? (i := 85) rfl)))) (mvT hZ (hw _ (List.mem_of_getElem? (i := 85) rfl))) (mvT hZ (hw _ (List.mem_of_getElem? (i := 84) rfl))) (by decide) (backOf (W := 0) (rmRS l Z a0 hw [] ob74 ar55 _ (1 : Int32) [((p2 &&& (127 : Int32))).toInt8.toInt32] T14.heap n0 Z14 Eq14 Fq14_0 Fq14_1 ge_ob74 f_13 (own_chain1 (by decide) rfl (one_2 (x := p2) rfl).1)) hZ (hw _ (List.mem_of_getElem? (i := 86) rfl)) (hw _ (List.mem_of_getElem? (i := 73) rfl)) (by decide) (by decide)) qa15 qc15 (g := (mkF m 84 #[.val (.long p0), .second, .val (.long p1), .second, .val (.int p2), .val (.ref x5), .val (.ref ob21), .val (.long (uz (svb bs1 0 0))), .second, .val (.long (uz (svb bs2 0 0))), .second, .val (.int (p2 &&& (127 : Int32))), .val (.ref ar55), .unset, .unset, .unset, .unset] [(.ref ob74)])) rfl (by rw [hml]; rfl) (Steps.refl _) (argsL := []) (rest := []) (lenOf pd8 rfl) rfl (by show 2 * 0 + _ ≤ _; exact Nat.le_of_eq rfl) (hb hby at_84) (fun _ _ => ⟨rfl, rfl, (by decide : 13 + 0 ≤ _), (by decide : 237 + 0 ≤ _)⟩)
  dsimp only [Pt.U, Pt.locs, Pt.cells, Pt.slots] at X15 l15 y15 z15 st15 hQ15
  subst l15 y15 z15
  obtain ⟨rfl, Nq15, Kq15, Eq15, Fq15_0, Fq15_1⟩ := hQ15
  have N15 := Fr.app N14 Nq15
  have Z15 : n0 ≤ T15.heap.size := Nat.le_trans Z14 Kq15.1
  have f_14 := Arl.keep f_13 Kq15 (ninS ne_ar55_ob74 nin0)
  refine Goes.go (fun _ kk => st15.trans kk) ?_
  show Goes _ _ _ _ _ _ _ (T15.setTop (mkF m 87 _ [(.long (uz (svb [((p2 &&& (127 : Int32))).toInt8.toInt32] 0 0)))]))
  refine Goes.go (fun _ kk => XS.lstore X15.here hx rfl (hb hby at_87) rfl (l' := #[.val (.long p0), .second, .val (.long p1), .second, .val (.int p2), .val (.ref x5), .val (.ref ob21), .val (.long (uz (svb bs1 0 0))), .second, .val (.long (uz (svb bs2 0 0))), .second, .val (.int (p2 &&& (127 : Int32))), .val (.ref ar55), .val (.long (uz (svb [((p2 &&& (127 : Int32))).toInt8.toInt32] 0 0))), .second, .unset, .unset]) rfl kk) ?_
  show Goes _ _ _ _ _ _ _ (T15.setTop (mkF m 89 #[.val (.long p0), .second, .val (.long p1), .second, .val (.int p2), .val (.ref x5), .val (.ref ob21), .val (.long (uz (svb bs1 0 0))), .second, .val (.long (uz (svb bs2 0 0))), .second, .val (.int (p2 &&& (127 : Int32))), .val (.ref ar55), .val (.long (uz (svb [((p2 &&& (127 : Int32))).toInt8.toInt32] 0 0))), .second, .unset, .unset] []))
  refine Goes.go (fun _ kk => XS.iload X15.here hx rfl (hb hby at_89) rfl kk) ?_
  show Goes _ _ _ _ _ _ _ (T15.setTop (mkF m 91 _ [(.int (p2 &&& (127 : Int32)))]))
  refine Goes.go (fun _ kk => XS.iconst X15.here hx rfl (hb hby at_91) kk) ?_
  show Goes _ _ _ _ _ _ _ (T15.setTop (mkF m 92 _ [(.int (1 : Int32)), (.int (p2 &&& (127 : Int32)))]))
  refine Goes.go (fun _ kk => XS.iand X15.here hx rfl (hb hby at_92) rfl kk) ?_
  show Goes _ _ _ _ _ _ _ (T15.setTop (mkF m 93 _ [(.int ((p2 &&& (127 : Int32)) &&& (1 : Int32)))]))
  by_cases c93 : ((p2 &&& (127 : Int32)) &&& (1 : Int32)) = 0
  · skip
    refine Goes.go (fun _ kk => XS.ifNo X15.here hx rfl (hb hby at_93) rfl (XT.i0_ne_f c93) kk) ?_
    show Goes _ _ _ _ _ _ _ (T15.setTop (mkF m 96 _ []))
    refine Goes.go (fun _ kk => XS.iload X15.here hx rfl (hb hby at_96) rfl kk) ?_
    show Goes _ _ _ _ _ _ _ (T15.setTop (mkF m 98 _ [(.int (p2 &&& (127 : Int32)))]))
    refine Goes.go (fun _ kk => XS.iconst X15.here hx rfl (hb hby at_98) kk) ?_
    show Goes _ _ _ _ _ _ _ (T15.setTop (mkF m 99 _ [(.int (1 : Int32)), (.int (p2 &&& (127 : Int32)))]))
    refine Goes.go (fun _ kk => XS.ishr X15.here hx rfl (hb hby at_99) rfl kk) ?_
    show Goes _ _ _ _ _ _ _ (T15.setTop (mkF m 100 _ [(.int ((p2 &&& (127 : Int32)) >>> ((1 : Int32) &&& 31)))]))
    refine Goes.go (fun _ kk => XS.i2l X15.here hx rfl (hb hby at_100) rfl kk) ?_
    show Goes _ _ _ _ _ _ _ (T15.setTop (mkF m 101 _ [(.long (((p2 &&& (127 : Int32)) >>> ((1 : Int32) &&& 31))).toInt64)]))
    refine Goes.go (fun _ kk => XS.goto X15.here hx rfl (pc0 := 101) (pc' := 112) rfl (hb hby at_101) (by decide) (by decide) kk) ?_
    show Goes _ _ _ _ _ _ _ (T15.setTop (mkF m 112 _ [(.long (((p2 &&& (127 : Int32)) >>> ((1 : Int32) &&& 31))).toInt64)]))
    refine Goes.go (fun _ kk => XS.lstore X15.here hx rfl (hb hby at_112) rfl (l' := #[.val (.long p0), .second, .val (.long p1), .second, .val (.int p2), .val (.ref x5), .val (.ref ob21), .val (.long (uz (svb bs1 0 0))), .second, .val (.long (uz (svb bs2 0 0))), .second, .val (.int (p2 &&& (127 : Int32))), .val (.ref ar55), .val (.long (uz (svb [((p2 &&& (127 : Int32))).toInt8.toInt32] 0 0))), .second, .val (.long (((p2 &&& (127 : Int32)) >>> ((1 : Int32) &&& 31))).toInt64), .second]) rfl kk) ?_
    show Goes _ _ _ _ _ _ _ (T15.setTop (mkF m 114 #[.val (.long p0), .second, .val (.long p1), .second, .val (.int p2), .val (.ref x5), .val (.ref ob21), .val (.long (uz (svb bs1 0 0))), .second, .val (.long (uz (svb bs2 0 0))), .second, .val (.int (p2 &&& (127 : Int32))), .val (.ref ar55), .val (.long (uz (svb [((p2 &&& (127 : Int32))).toInt8.toInt32] 0 0))), .second, .val (.long (((p2 &&& (127 : Int32)) >>> ((1 : Int32) &&& 31))).toInt64), .second] []))
    refine Goes.go (fun _ kk => XS.lload X15.here hx rfl (hb hby at_114) rfl kk) ?_
    show Goes _ _ _ _ _ _ _ (T15.setTop (mkF m 116 _ [(.long (uz (svb bs1 0 0)))]))
    refine Goes.go (fun _ kk => XS.lloadN X15.here hx rfl (hb hby at_116) rfl kk) ?_
    show Goes _ _ _ _ _ _ _ (T15.setTop (mkF m 117 _ [(.long p0), (.long (uz (svb bs1 0 0)))]))
    refine Goes.go (fun _ kk => XT.lcmp X15.here hx rfl (hb hby at_117) rfl kk) ?_
    show Goes _ _ _ _ _ _ _ (T15.setTop (mkF m 118 _ [(.int (XT.cmpL (uz (svb bs1 0 0)) p0))]))
    refine Goes.go (fun _ kk => XS.ifNo X15.here hx rfl (hb hby at_118) rfl (XT.ll_ne_f hr1) kk) ?_
    show Goes _ _ _ _ _ _ _ (T15.setTop (mkF m 121 _ []))
    refine Goes.go (fun _ kk => XS.lload X15.here hx rfl (hb hby at_121) rfl kk) ?_
    show Goes _ _ _ _ _ _ _ (T15.setTop (mkF m 123 _ [(.long (uz (svb bs2 0 0)))]))
    refine Goes.go (fun _ kk => XS.lloadN X15.here hx rfl (hb hby at_123) rfl kk) ?_
    show Goes _ _ _ _ _ _ _ (T15.setTop (mkF m 124 _ [(.long p1), (.long (uz (svb bs2 0 0)))]))
    refine Goes.go (fun _ kk => XT.lcmp X15.here hx rfl (hb hby at_124) rfl kk) ?_
    show Goes _ _ _ _ _ _ _ (T15.setTop (mkF m 125 _ [(.int (XT.cmpL (uz (svb bs2 0 0)) p1))]))
    refine Goes.go (fun _ kk => XS.ifNo X15.here hx rfl (hb hby at_125) rfl (XT.ll_ne_f hr2) kk) ?_
    show Goes _ _ _ _ _ _ _ (T15.setTop (mkF m 128 _ []))
    refine Goes.go (fun _ kk => XS.lload X15.here hx rfl (hb hby at_128) rfl kk) ?_
    show Goes _ _ _ _ _ _ _ (T15.setTop (mkF m 130 _ [(.long (uz (svb [((p2 &&& (127 : Int32))).toInt8.toInt32] 0 0)))]))
    refine Goes.go (fun _ kk => XS.lload X15.here hx rfl (hb hby at_130) rfl kk) ?_
    show Goes _ _ _ _ _ _ _ (T15.setTop (mkF m 132 _ [(.long (((p2 &&& (127 : Int32)) >>> ((1 : Int32) &&& 31))).toInt64), (.long (uz (svb [((p2 &&& (127 : Int32))).toInt8.toInt32] 0 0)))]))
    refine Goes.go (fun _ kk => XT.lcmp X15.here hx rfl (hb hby at_132) rfl kk) ?_
    show Goes _ _ _ _ _ _ _ (T15.setTop (mkF m 133 _ [(.int (XT.cmpL (uz (svb [((p2 &&& (127 : Int32))).toInt8.toInt32] 0 0)) (((p2 &&& (127 : Int32)) >>> ((1 : Int32) &&& 31))).toInt64))]))
    refine Goes.go (fun _ kk => XS.ifNo X15.here hx rfl (hb hby at_133) rfl (XT.ll_ne_f ((one_2 (x := p2) rfl).2.1 c93)) kk) ?_
    show Goes _ _ _ _ _ _ _ (T15.setTop (mkF m 136 _ []))
    refine Goes.go (fun _ kk => XS.iconst X15.here hx rfl (hb hby at_136) kk) ?_
    show Goes _ _ _ _ _ _ _ (T15.setTop (mkF m 137 _ [(.int (1 : Int32))]))
    refine Goes.go (fun _ kk => XS.goto X15.here hx rfl (pc0 := 137) (pc' := 141) rfl (hb hby at_137) (by decide) (by decide) kk) ?_
    show Goes _ _ _ _ _ _ _ (T15.setTop (mkF m 141 _ [(.int (1 : Int32))]))
    exact Goes.outZ X15 hx hlk hret rfl (hb hby at_141) rfl ⟨rfl, N15⟩ (by decide) (by decide)
  · skip
    refine Goes.go (fun _ kk => XS.ifYes X15.here hx rfl (pc0 := 93) (pc' := 104) rfl (hb hby at_93) rfl (XT.i0_ne_t c93) (by decide) (by decide) kk) ?_
    show Goes _ _ _ _ _ _ _ (T15.setTop (mkF m 104 _ []))
    refine Goes.go (fun _ kk => XS.iload X15.here hx rfl (hb hby at_104) rfl kk) ?_
    show Goes _ _ _ _ _ _ _ (T15.setTop (mkF m 106 _ [(.int (p2 &&& (127 : Int32)))]))
    refine Goes.go (fun _ kk => XS.iconst X15.here hx rfl (hb hby at_106) kk) ?_
    show Goes _ _ _ _ _ _ _ (T15.setTop (mkF m 107 _ [(.int (1 : Int32)), (.int (p2 &&& (127 : Int32)))]))
    refine Goes.go (fun _ kk => XS.ishr X15.here hx rfl (hb hby at_107) rfl kk) ?_
    show Goes _ _ _ _ _ _ _ (T15.setTop (mkF m 108 _ [(.int ((p2 &&& (127 : Int32)) >>> ((1 : Int32) &&& 31)))]))
    refine Goes.go (fun _ kk => XS.i2l X15.here hx rfl (hb hby at_108) rfl kk) ?_
    show Goes _ _ _ _ _ _ _ (T15.setTop (mkF m 109 _ [(.long (((p2 &&& (127 : Int32)) >>> ((1 : Int32) &&& 31))).toInt64)]))
    refine Goes.go (fun _ kk => XS.lconst X15.here hx rfl (hb hby at_109) kk) ?_
    show Goes _ _ _ _ _ _ _ (T15.setTop (mkF m 110 _ [(.long (1 : Int64)), (.long (((p2 &&& (127 : Int32)) >>> ((1 : Int32) &&& 31))).toInt64)]))
    refine Goes.go (fun _ kk => XS.ladd X15.here hx rfl (hb hby at_110) rfl kk) ?_
    show Goes _ _ _ _ _ _ _ (T15.setTop (mkF m 111 _ [(.long ((((p2 &&& (127 : Int32)) >>> ((1 : Int32) &&& 31))).toInt64 + (1 : Int64)))]))
    refine Goes.go (fun _ kk => XS.lneg X15.here hx rfl (hb hby at_111) rfl kk) ?_
    show Goes _ _ _ _ _ _ _ (T15.setTop (mkF m 112 _ [(.long (-((((p2 &&& (127 : Int32)) >>> ((1 : Int32) &&& 31))).toInt64 + (1 : Int64))))]))
    refine Goes.go (fun _ kk => XS.lstore X15.here hx rfl (hb hby at_112) rfl (l' := #[.val (.long p0), .second, .val (.long p1), .second, .val (.int p2), .val (.ref x5), .val (.ref ob21), .val (.long (uz (svb bs1 0 0))), .second, .val (.long (uz (svb bs2 0 0))), .second, .val (.int (p2 &&& (127 : Int32))), .val (.ref ar55), .val (.long (uz (svb [((p2 &&& (127 : Int32))).toInt8.toInt32] 0 0))), .second, .val (.long (-((((p2 &&& (127 : Int32)) >>> ((1 : Int32) &&& 31))).toInt64 + (1 : Int64)))), .second]) rfl kk) ?_
    show Goes _ _ _ _ _ _ _ (T15.setTop (mkF m 114 #[.val (.long p0), .second, .val (.long p1), .second, .val (.int p2), .val (.ref x5), .val (.ref ob21), .val (.long (uz (svb bs1 0 0))), .second, .val (.long (uz (svb bs2 0 0))), .second, .val (.int (p2 &&& (127 : Int32))), .val (.ref ar55), .val (.long (uz (svb [((p2 &&& (127 : Int32))).toInt8.toInt32] 0 0))), .second, .val (.long (-((((p2 &&& (127 : Int32)) >>> ((1 : Int32) &&& 31))).toInt64 + (1 : Int64)))), .second] []))
    refine Goes.go (fun _ kk => XS.lload X15.here hx rfl (hb hby at_114) rfl kk) ?_
    show Goes _ _ _ _ _ _ _ (T15.setTop (mkF m 116 _ [(.long (uz (svb bs1 0 0)))]))
    refine Goes.go (fun _ kk => XS.lloadN X15.here hx rfl (hb hby at_116) rfl kk) ?_
    show Goes _ _ _ _ _ _ _ (T15.setTop (mkF m 117 _ [(.long p0), (.long (uz (svb bs1 0 0)))]))
    refine Goes.go (fun _ kk => XT.lcmp X15.here hx rfl (hb hby at_117) rfl kk) ?_
    show Goes _ _ _ _ _ _ _ (T15.setTop (mkF m 118 _ [(.int (XT.cmpL (uz (svb bs1 0 0)) p0))]))
    refine Goes.go (fun _ kk => XS.ifNo X15.here hx rfl (hb hby at_118) rfl (XT.ll_ne_f hr1) kk) ?_
    show Goes _ _ _ _ _ _ _ (T15.setTop (mkF m 121 _ []))
    refine Goes.go (fun _ kk => XS.lload X15.here hx rfl (hb hby at_121) rfl kk) ?_
    show Goes _ _ _ _ _ _ _ (T15.setTop (mkF m 123 _ [(.long (uz (svb bs2 0 0)))]))
    refine Goes.go (fun _ kk => XS.lloadN X15.here hx rfl (hb hby at_123) rfl kk) ?_
    show Goes _ _ _ _ _ _ _ (T15.setTop (mkF m 124 _ [(.long p1), (.long (uz (svb bs2 0 0)))]))
    refine Goes.go (fun _ kk => XT.lcmp X15.here hx rfl (hb hby at_124) rfl kk) ?_
    show Goes _ _ _ _ _ _ _ (T15.setTop (mkF m 125 _ [(.int (XT.cmpL (uz (svb bs2 0 0)) p1))]))
    refine Goes.go (fun _ kk => XS.ifNo X15.here hx rfl (hb hby at_125) rfl (XT.ll_ne_f hr2) kk) ?_
    show Goes _ _ _ _ _ _ _ (T15.setTop (mkF m 128 _ []))
    refine Goes.go (fun _ kk => XS.lload X15.here hx rfl (hb hby at_128) rfl kk) ?_
    show Goes _ _ _ _ _ _ _ (T15.setTop (mkF m 130 _ [(.long (uz (svb [((p2 &&& (127 : Int32))).toInt8.toInt32] 0 0)))]))
    refine Goes.go (fun _ kk => XS.lload X15.here hx rfl (hb hby at_130) rfl kk) ?_
    show Goes _ _ _ _ _ _ _ (T15.setTop (mkF m 132 _ [(.long (-((((p2 &&& (127 : Int32)) >>> ((1 : Int32) &&& 31))).toInt64 + (1 : Int64)))), (.long (uz (svb [((p2 &&& (127 : Int32))).toInt8.toInt32] 0 0)))]))
    refine Goes.go (fun _ kk => XT.lcmp X15.here hx rfl (hb hby at_132) rfl kk) ?_
    show Goes _ _ _ _ _ _ _ (T15.setTop (mkF m 133 _ [(.int (XT.cmpL (uz (svb [((p2 &&& (127 : Int32))).toInt8.toInt32] 0 0)) (-((((p2 &&& (127 : Int32)) >>> ((1 : Int32) &&& 31))).toInt64 + (1 : Int64)))))]))
    refine Goes.go (fun _ kk => XS.ifNo X15.here hx rfl (hb hby at_133) rfl (XT.ll_ne_f ((one_2 (x := p2) rfl).2.2 c93)) kk) ?_
    show Goes _ _ _ _ _ _ _ (T15.setTop (mkF m 136 _ []))
    refine Goes.go (fun _ kk => XS.iconst X15.here hx rfl (hb hby at_136) kk) ?_
    show Goes _ _ _ _ _ _ _ (T15.setTop (mkF m 137 _ [(.int (1 : Int32))]))
    refine Goes.go (fun _ kk => XS.goto X15.here hx rfl (pc0 := 137) (pc' := 141) rfl (hb hby at_137) (by decide) (by decide) kk) ?_
    show Goes _ _ _ _ _ _ _ (T15.setTop (mkF m 141 _ [(.int (1 : Int32))]))
    exact Goes.outZ X15 hx hlk hret rfl (hb hby at_141) rfl ⟨rfl, N15⟩ (by decide) (by decide)
set_option maxRecDepth 65536 in
set_option maxHeartbeats 40000000 in
theorem comes_1 {Post : Tables → Env → Array Value → State → Outcome → State → Prop} (hpost : ∀ tb e args s v u, (limb_1_1.after args s (.returned v) u = true ∧ limb_1_2.after args s (.returned v) u = true ∧ True) → FrameEnd s (.returned v) u (Jvm.fieldLocs frame_1_writes args s ++ Jvm.arrayLocs frame_1_arrays args s ++ Jvm.staticLocs frame_1_statics s) 32 256 → Post tb e args s (.returned v) u) :
    ArmFor flags0 classFile x code maxLocals ret World_1 tables_1 room_1 Calls_1 rest_1 Pre_1 Post := by
  intro l hfl _ _ p e ha hc hk s m args below hf hA hF happ hP
  obtain ⟨hcalls, hrest, hpre⟩ := hP
  obtain ⟨-, -, -, hnamed, -, -, -, hat⟩ := (Spec.applies_iff hf).mp happ
  obtain ⟨hg, hn⟩ := and_e (Cond.before_iff.mp (show (Jvm.Cond.and given_1 narrow_1).before args s = true from hpre))
  obtain ⟨gc, gr0⟩ := and_e hg
  obtain ⟨g0, gr1⟩ := and_e gr0
  obtain ⟨g1, gr2⟩ := and_e gr1
  obtain ⟨w0, w1, w2, rfl⟩ : ∃ w0 w1 w2 : Value, args = #[w0, w1, w2] := by
    have hs : args.size = 3 := by simpa [Cond.value, given_1] using gc
    obtain ⟨L⟩ := args
    match L, hs with
    | [w0, w1, w2], _ => exact ⟨w0, w1, w2, rfl⟩
  have hw := fun d (hd : d ∈ tables_1) => atoms_spec (ws := Jvm.Cond.code x code maxLocals ret :: tables_1) hat d (List.mem_cons_of_mem _ hd)
  obtain ⟨i0, ei0⟩ := isL_v g0
  obtain rfl : w0 = (.long i0) := Option.some.inj ei0
  obtain ⟨i1, ei1⟩ := isL_v g1
  obtain rfl : w1 = (.long i1) := Option.some.inj ei1
  obtain ⟨i2, ei2⟩ := is_v gr2
  obtain rfl : w2 = (.int i2) := Option.some.inj ei2
  obtain ⟨n, o, h1, h2, h3, _, L, rfl, ⟨rfl, N⟩, hq⟩ := rm0 l s _ hw tables_1 i0 i1 i2 s.heap s.heap.size (Nat.le_refl _)  p e ha hc hk s m _ below hf ((Spec.applies_iff_loose hf).mp happ).1 ⟨rfl, State.Warmed39.refl s, rfl⟩ trivial
  refine ⟨n, _, h1, h2, h3, hpost _ _ _ _ _ _ ⟨Cond.after_iff.mpr rfl, Cond.after_iff.mpr (eq_i res_at (Term.int_eval (1)) rfl), trivial⟩ ⟨hq.1, hq.2.1, (hq.2.2.sift fun y hy => Or.inr (N y hy)).mono (by decide) (by decide)⟩⟩
theorem main_1_1 : Claimed_1_1 := comes_1 fun _ _ _ _ _ _ h hF => ⟨h.1, hF⟩
theorem main_1_2 : Claimed_1_2 := comes_1 fun _ _ _ _ _ _ h hF => ⟨h.2.1, hF⟩
end Jvm.Pilot.@@N@@
namespace Jvm.Pilot.@@N@@
open Jvm Jvm.ClassFile Sem Op Lib Jvm.Free Jvm.Stand Jvm.Pilot.@@N@@.Jvm.D
/-! MADE BY PROGRAM (witnessworld.py) out of the Statement's table words and the real class files: 19 classes; the members and pool entries that the words name. The judged class is class 1, her method 1. -/
namespace start1
open Jvm.ClassFile
def u (s : String) : CpInfo := .utf8 (stringToUtf16 s)
/-- a pool by its gaps: so many unusable entries, then the entry; so many at the end -/
def gap : Nat → List CpInfo → List CpInfo
  | 0, r => r
  | n + 1, r => .unusable :: gap n r
def poolList (es : List (Nat × CpInfo)) (last : Nat) : List CpInfo := es.foldr (fun e r => gap e.1 (e.2 :: r)) (gap last [])
def pool (es : List (Nat × CpInfo)) (last : Nat) : Array CpInfo := ⟨poolList es last⟩
def fileOf (pool : Array CpInfo) (this : Nat) (attrs : Array Attribute := #[]) (ms : Array MethodInfo := #[]) (fl : Nat := 33) (sup : Nat := 0) (ifs : Array Nat := #[]) (fds : Array FieldInfo := #[]) : ClassFile where
  minorVersion := 0
  majorVersion := 65
  constantPool := pool
  accessFlags := fl
  thisClass := this
  superClass := sup
  interfaces := ifs
  fields := fds
  methods := ms
  attributes := attrs
def plain (name : String) (sup : Option ClassId) : Class where
  name := name
  kind := .ordinary
  loader := none
  accessFlags := 33
  super := sup
  interfaces := #[]
  cf := none
  fields := #[]
  methods := #[]
  instanceTypes := #[]
  staticTypes := #[]
  resolved := #[]
  callSites := []
  init := .initialized
  statics := none
  mirror := none

def pool0 : Array CpInfo := pool [(5, u "<init>"), (0, u "()V"), (1, .class_ 10), (1, u "java/lang/Object"), (85, u "clone"), (0, u "()Ljava/lang/Object;")] 26

def k0c0 : Code := { maxStack := 0, maxLocals := 1, code := object_method_1_code, exceptionTable := #[], attributes := #[] }
def k0m0 : Method := { name := "<init>", desc := "()V", sig := { parameters := [], returnType := none }, accessFlags := 1, code := some k0c0 }
def k0m1 : Method := { name := "clone", desc := "()Ljava/lang/Object;", sig := { parameters := [], returnType := some (.object "java/lang/Object") }, accessFlags := 260, code := none }
/-- java/lang/Object -/
def k0 : Class := { plain "java/lang/Object" none with
  accessFlags := 33
  interfaces := #[]
  cf := some (fileOf pool0 8 #[] #[{ accessFlags := 1, nameIndex := 5, descriptorIndex := 6, attributes := #[] }, { accessFlags := 260, nameIndex := 96, descriptorIndex := 97, attributes := #[] }] 33 0 #[] #[])
  fields := #[]
  methods := #[k0m0, k0m1]
  instanceTypes := #[]
  staticTypes := #[]
  resolved := Array.replicate 124 none
  statics := none }

def pool1 : Array CpInfo := pool [(2, .class_ 4), (1, u "java/lang/Object"), (0, u "<init>"), (0, u "()V"), (0, .class_ 8), (0, u "com/example/countermand/countermand/Packed$Writer"), (0, .methodref 7 10), (0, .nameAndType 5 11), (0, u "(I)V"), (0, .methodref 7 13), (0, .nameAndType 14 15), (0, u "signedNumber"), (0, u "(J)Lcom/example/countermand/countermand/Packed$Writer;"), (0, .methodref 7 17), (0, .nameAndType 18 19), (0, u "bytes"), (0, u "()[B"), (0, .class_ 21), (0, u "com/example/countermand/countermand/Packed$Reader"), (0, .methodref 20 23), (0, .nameAndType 5 24), (0, u "([BI)V"), (0, .methodref 20 26), (0, .nameAndType 14 27), (0, u "()J"), (0, .class_ 29), (0, u "com/example/countermand/countermand/ReaderSignedNumberPinLaw"), (2, u "law"), (0, u "(JJI)Z")] 10

def k1m0 : Method := { name := "<init>", desc := "()V", sig := { parameters := [], returnType := none }, accessFlags := 1, code := none }
def k1c1 : Code := { maxStack := 5, maxLocals := 17, code := code, exceptionTable := #[], attributes := #[] }
def k1m1 : Method := { name := "law", desc := "(JJI)Z", sig := { parameters := [.long, .long, .int], returnType := some .boolean }, accessFlags := 9, code := some k1c1 }
/-- com/example/countermand/countermand/ReaderSignedNumberPinLaw -/
def k1 : Class := { plain "com/example/countermand/countermand/ReaderSignedNumberPinLaw" (some 0) with
  accessFlags := 49
  interfaces := #[]
  cf := some (fileOf pool1 28 #[] #[{ accessFlags := 1, nameIndex := 5, descriptorIndex := 6, attributes := #[] }, { accessFlags := 9, nameIndex := 32, descriptorIndex := 33, attributes := #[] }] 49 2 #[] #[])
  fields := #[]
  methods := #[k1m0, k1m1]
  instanceTypes := #[]
  staticTypes := #[]
  resolved := Array.replicate 44 none
  statics := none }

def pool2 : Array CpInfo := pool [(1, .methodref 2 3), (0, .class_ 4), (0, .nameAndType 5 6), (0, u "java/lang/Object"), (0, u "<init>"), (0, u "()V"), (0, .class_ 8), (0, u "java/io/ByteArrayOutputStream"), (0, .methodref 7 10), (0, .nameAndType 5 11), (0, u "(I)V"), (0, .fieldref 13 14), (0, .class_ 15), (0, .nameAndType 16 17), (0, u "com/example/countermand/countermand/Packed$Writer"), (0, u "out"), (0, u "Ljava/io/ByteArrayOutputStream;"), (0, .methodref 13 19), (0, .nameAndType 20 21), (0, u "sevenBits"), (0, u "(J)V"), (4, .methodref 7 27), (0, .nameAndType 28 29), (0, u "toByteArray"), (0, u "()[B"), (24, u "write"), (1, .methodref 7 57), (0, .nameAndType 54 11), (0, .long 18446744073709551488), (1, .long 127), (4, u "(J)Lcom/example/countermand/countermand/Packed$Writer;"), (0, u "signedNumber"), (4, u "bytes"), (3, .class_ 76), (0, u "com/example/countermand/countermand/Packed")] 2

def k2c0 : Code := { maxStack := 4, maxLocals := 2, code := prog_32_method_1_code, exceptionTable := #[], attributes := #[] }
def k2m0 : Method := { name := "<init>", desc := "(I)V", sig := { parameters := [.int], returnType := none }, accessFlags := 0, code := some k2c0 }
def k2c1 : Code := { maxStack := 6, maxLocals := 3, code := prog_32_method_3_code, exceptionTable := #[], attributes := #[] }
def k2m1 : Method := { name := "signedNumber", desc := "(J)Lcom/example/countermand/countermand/Packed$Writer;", sig := { parameters := [.long], returnType := some (.object "com/example/countermand/countermand/Packed$Writer") }, accessFlags := 0, code := some k2c1 }
def k2c2 : Code := { maxStack := 1, maxLocals := 1, code := prog_32_method_6_code, exceptionTable := #[], attributes := #[] }
def k2m2 : Method := { name := "bytes", desc := "()[B", sig := { parameters := [], returnType := some (.array .byte) }, accessFlags := 0, code := some k2c2 }
def k2c3 : Code := { maxStack := 5, maxLocals := 5, code := prog_32_method_8_code, exceptionTable := #[], attributes := #[] }
def k2m3 : Method := { name := "sevenBits", desc := "(J)V", sig := { parameters := [.long], returnType := none }, accessFlags := 2, code := some k2c3 }
/-- com/example/countermand/countermand/Packed$Writer -/
def k2 : Class := { plain "com/example/countermand/countermand/Packed$Writer" (some 0) with
  accessFlags := 32
  interfaces := #[]
  cf := some (fileOf pool2 13 #[.nestHost 75] #[{ accessFlags := 0, nameIndex := 5, descriptorIndex := 11, attributes := #[] }, { accessFlags := 0, nameIndex := 66, descriptorIndex := 65, attributes := #[] }, { accessFlags := 0, nameIndex := 71, descriptorIndex := 29, attributes := #[] }, { accessFlags := 2, nameIndex := 20, descriptorIndex := 21, attributes := #[] }] 32 2 #[] #[{ accessFlags := 18, nameIndex := 16, descriptorIndex := 17, attributes := #[] }])
  fields := #[{ name := "out", type := (.object "java/io/ByteArrayOutputStream"), accessFlags := 18, slot := 0, constantValue := 0 }]
  methods := #[k2m0, k2m1, k2m2, k2m3]
  instanceTypes := #[(.object "java/io/ByteArrayOutputStream")]
  staticTypes := #[]
  resolved := Array.replicate 79 none
  statics := none }

def pool3 : Array CpInfo := pool [(1, .class_ 2), (0, u "java/lang/AutoCloseable"), (0, .class_ 4), (0, u "java/lang/Object")] 7

/-- java/lang/AutoCloseable -/
def k3 : Class := { plain "java/lang/AutoCloseable" (some 0) with
  accessFlags := 1537
  interfaces := #[]
  cf := some (fileOf pool3 1 #[] #[] 1537 3 #[] #[])
  fields := #[]
  methods := #[]
  instanceTypes := #[]
  staticTypes := #[]
  resolved := Array.replicate 12 none
  statics := none }

def pool4 : Array CpInfo := pool [(1, .class_ 2), (0, u "java/io/Closeable"), (0, .class_ 4), (0, u "java/lang/Object"), (0, .class_ 6), (0, u "java/lang/AutoCloseable")] 7

/-- java/io/Closeable -/
def k4 : Class := { plain "java/io/Closeable" (some 0) with
  accessFlags := 1537
  interfaces := #[3]
  cf := some (fileOf pool4 1 #[] #[] 1537 3 #[5] #[])
  fields := #[]
  methods := #[]
  instanceTypes := #[]
  staticTypes := #[]
  resolved := Array.replicate 14 none
  statics := none }

def pool5 : Array CpInfo := pool [(1, .class_ 2), (0, u "java/io/Flushable"), (0, .class_ 4), (0, u "java/lang/Object")] 7

/-- java/io/Flushable -/
def k5 : Class := { plain "java/io/Flushable" (some 0) with
  accessFlags := 1537
  interfaces := #[]
  cf := some (fileOf pool5 1 #[] #[] 1537 3 #[] #[])
  fields := #[]
  methods := #[]
  instanceTypes := #[]
  staticTypes := #[]
  resolved := Array.replicate 12 none
  statics := none }

def pool6 : Array CpInfo := pool [(1, .methodref 2 3), (0, .class_ 4), (0, .nameAndType 5 6), (0, u "java/lang/Object"), (0, u "<init>"), (0, u "()V"), (0, .class_ 8), (0, u "java/io/OutputStream$1"), (2, .class_ 13), (1, u "java/io/OutputStream"), (11, .class_ 26), (0, u "java/io/Closeable"), (0, .class_ 28), (0, u "java/io/Flushable")] 24

def k6c0 : Code := { maxStack := 1, maxLocals := 1, code := jdk_2038_method_1_code, exceptionTable := #[], attributes := #[] }
def k6m0 : Method := { name := "<init>", desc := "()V", sig := { parameters := [], returnType := none }, accessFlags := 1, code := some k6c0 }
/-- java/io/OutputStream -/
def k6 : Class := { plain "java/io/OutputStream" (some 0) with
  accessFlags := 1057
  interfaces := #[4, 5]
  cf := some (fileOf pool6 11 #[.nestMembers #[7]] #[{ accessFlags := 1, nameIndex := 5, descriptorIndex := 6, attributes := #[] }] 1057 2 #[25, 27] #[])
  fields := #[]
  methods := #[k6m0]
  instanceTypes := #[]
  staticTypes := #[]
  resolved := Array.replicate 53 none
  statics := none }

def pool7 : Array CpInfo := pool [(2, .class_ 4), (1, u "java/io/ByteArrayOutputStream"), (0, u "<init>"), (0, u "(I)V"), (0, .methodref 8 9), (0, .class_ 10), (0, .nameAndType 5 11), (0, u "java/io/OutputStream"), (0, u "()V"), (21, .fieldref 2 34), (0, .nameAndType 35 36), (0, u "buf"), (0, u "[B"), (0, .methodref 38 39), (0, .class_ 40), (0, .nameAndType 41 42), (0, u "jdk/internal/util/ArraysSupport"), (0, u "newLength"), (0, u "(III)I"), (0, .methodref 44 45), (0, .class_ 46), (0, .nameAndType 47 48), (0, u "java/util/Arrays"), (0, u "copyOf"), (0, u "([BI)[B"), (0, .fieldref 2 50), (0, .nameAndType 51 52), (0, u "count"), (0, u "I"), (0, .methodref 2 54), (0, .nameAndType 55 6), (0, u "ensureCapacity"), (13, u "write"), (56, u "toByteArray"), (0, u "()[B")] 17

def k7m0 : Method := { name := "<init>", desc := "()V", sig := { parameters := [], returnType := none }, accessFlags := 1, code := none }
def k7c1 : Code := { maxStack := 4, maxLocals := 2, code := jdk_2005_method_2_code, exceptionTable := #[], attributes := #[] }
def k7m1 : Method := { name := "<init>", desc := "(I)V", sig := { parameters := [.int], returnType := none }, accessFlags := 1, code := some k7c1 }
def k7c2 : Code := { maxStack := 5, maxLocals := 4, code := jdk_2005_method_3_code, exceptionTable := #[], attributes := #[] }
def k7m2 : Method := { name := "ensureCapacity", desc := "(I)V", sig := { parameters := [.int], returnType := none }, accessFlags := 2, code := some k7c2 }
def k7c3 : Code := { maxStack := 3, maxLocals := 2, code := ⟨#[0x2a, 0x2a, 0xb4, 0x00, 0x31, 0x04, 0x60, 0xb6, 0x00, 0x35, 0x2a, 0xb4, 0x00, 0x21, 0x2a, 0xb4, 0x00, 0x31, 0x1b, 0x91, 0x54, 0x2a, 0x59, 0xb4, 0x00, 0x31, 0x04, 0x60, 0xb5, 0x00, 0x31, 0xb1]⟩, exceptionTable := #[], attributes := #[] }
def k7m3 : Method := { name := "write", desc := "(I)V", sig := { parameters := [.int], returnType := none }, accessFlags := 33, code := some k7c3 }
def k7c4 : Code := { maxStack := 2, maxLocals := 1, code := ⟨#[0x2a, 0xb4, 0x00, 0x21, 0x2a, 0xb4, 0x00, 0x31, 0xb8, 0x00, 0x2b, 0xb0]⟩, exceptionTable := #[], attributes := #[] }
def k7m4 : Method := { name := "toByteArray", desc := "()[B", sig := { parameters := [], returnType := some (.array .byte) }, accessFlags := 33, code := some k7c4 }
/-- java/io/ByteArrayOutputStream -/
def k7 : Class := { plain "java/io/ByteArrayOutputStream" (some 6) with
  accessFlags := 33
  interfaces := #[]
  cf := some (fileOf pool7 2 #[] #[{ accessFlags := 1, nameIndex := 5, descriptorIndex := 11, attributes := #[] }, { accessFlags := 1, nameIndex := 5, descriptorIndex := 6, attributes := #[] }, { accessFlags := 2, nameIndex := 55, descriptorIndex := 6, attributes := #[] }, { accessFlags := 33, nameIndex := 69, descriptorIndex := 6, attributes := #[] }, { accessFlags := 33, nameIndex := 126, descriptorIndex := 127, attributes := #[] }] 33 8 #[] #[{ accessFlags := 4, nameIndex := 35, descriptorIndex := 36, attributes := #[] }, { accessFlags := 4, nameIndex := 51, descriptorIndex := 52, attributes := #[] }])
  fields := #[{ name := "buf", type := (.array .byte), accessFlags := 4, slot := 0, constantValue := 0 }, { name := "count", type := .int, accessFlags := 4, slot := 1, constantValue := 0 }]
  methods := #[k7m0, k7m1, k7m2, k7m3, k7m4]
  instanceTypes := #[(.array .byte), .int]
  staticTypes := #[]
  resolved := Array.replicate 145 none
  statics := none }

def pool8 : Array CpInfo := pool [(2, .class_ 4), (1, u "java/lang/Object"), (0, u "<init>"), (0, u "()V"), (7, .class_ 16), (1, u "java/util/Arrays"), (57, .class_ 76), (1, u "java/util/Arrays$NaturalOrder"), (32, u "()Ljava/lang/Object;"), (3, .class_ 115), (1, u "java/util/Arrays$LegacyMergeSort"), (1, u "Z"), (10, .nameAndType 129 109), (0, u "clone"), (20, .methodref 151 152), (0, .class_ 153), (0, .nameAndType 154 155), (0, u "java/lang/System"), (0, u "arraycopy"), (0, u "(Ljava/lang/Object;ILjava/lang/Object;II)V"), (146, u "copyOf"), (1, .methodref 305 306), (0, .class_ 307), (0, .nameAndType 308 309), (0, u "java/lang/Math"), (0, u "min"), (0, u "(II)I"), (0, .methodref 311 128), (0, .class_ 312), (0, u "[B"), (62, .class_ 376), (0, u "java/util/Arrays$ArrayList"), (68, u "$assertionsDisabled"), (269, u "MIN_ARRAY_SORT_GRAN"), (0, u "I"), (2, u "INSERTIONSORT_THRESHOLD"), (149, u "([BI)[B"), (105, .class_ 976), (0, u "java/util/Arrays$ArrayItr")] 52

def k8m0 : Method := { name := "<init>", desc := "()V", sig := { parameters := [], returnType := none }, accessFlags := 2, code := none }
def k8c1 : Code := { maxStack := 6, maxLocals := 3, code := jdk_65_method_121_code, exceptionTable := #[], attributes := #[] }
def k8m1 : Method := { name := "copyOf", desc := "([BI)[B", sig := { parameters := [(.array .byte), .int], returnType := some (.array .byte) }, accessFlags := 9, code := some k8c1 }
/-- java/util/Arrays -/
def k8 : Class := { plain "java/util/Arrays" (some 0) with
  accessFlags := 49
  interfaces := #[]
  cf := some (fileOf pool8 14 #[.nestMembers #[975, 375, 113, 74]] #[{ accessFlags := 2, nameIndex := 5, descriptorIndex := 6, attributes := #[] }, { accessFlags := 9, nameIndex := 302, descriptorIndex := 869, attributes := #[] }] 49 2 #[] #[{ accessFlags := 26, nameIndex := 715, descriptorIndex := 716, attributes := #[] }, { accessFlags := 26, nameIndex := 719, descriptorIndex := 716, attributes := #[] }, { accessFlags := 4120, nameIndex := 445, descriptorIndex := 117, attributes := #[] }])
  fields := #[{ name := "MIN_ARRAY_SORT_GRAN", type := .int, accessFlags := 26, slot := 0, constantValue := 0 }, { name := "INSERTIONSORT_THRESHOLD", type := .int, accessFlags := 26, slot := 1, constantValue := 0 }, { name := "$assertionsDisabled", type := .boolean, accessFlags := 4120, slot := 2, constantValue := 0 }]
  methods := #[k8m0, k8m1]
  instanceTypes := #[]
  staticTypes := #[.int, .int, .boolean]
  resolved := Array.replicate 1029 none
  statics := none }

def pool9 : Array CpInfo := pool [(1, .class_ 2), (0, u "java/lang/Math"), (1, .class_ 6), (1, u "java/lang/Object"), (0, u "<init>"), (0, u "()V"), (89, .class_ 100), (1, u "java/lang/Math$RandomNumberGeneratorHolder"), (71, u "negativeZeroFloatBits"), (0, u "J"), (2, u "negativeZeroDoubleBits"), (21, u "max"), (2, u "min"), (43, u "$assertionsDisabled"), (0, u "Z"), (88, u "(II)I"), (2, u "twoToTheDoubleScaleDown"), (0, u "D"), (4, u "twoToTheDoubleScaleUp"), (9, u "E"), (3, u "PI"), (2, u "TAU"), (2, u "DEGREES_TO_RADIANS"), (0, u "RADIANS_TO_DEGREES")] 94

def k9m0 : Method := { name := "<init>", desc := "()V", sig := { parameters := [], returnType := none }, accessFlags := 2, code := none }
def k9c1 : Code := { maxStack := 2, maxLocals := 2, code := jdk_29_method_65_code, exceptionTable := #[], attributes := #[] }
def k9m1 : Method := { name := "max", desc := "(II)I", sig := { parameters := [.int, .int], returnType := some .int }, accessFlags := 9, code := some k9c1 }
def k9c2 : Code := { maxStack := 2, maxLocals := 2, code := jdk_29_method_69_code, exceptionTable := #[], attributes := #[] }
def k9m2 : Method := { name := "min", desc := "(II)I", sig := { parameters := [.int, .int], returnType := some .int }, accessFlags := 9, code := some k9c2 }
/-- java/lang/Math -/
def k9 : Class := { plain "java/lang/Math" (some 0) with
  accessFlags := 49
  interfaces := #[]
  cf := some (fileOf pool9 1 #[.nestMembers #[98]] #[{ accessFlags := 2, nameIndex := 7, descriptorIndex := 8, attributes := #[] }, { accessFlags := 9, nameIndex := 198, descriptorIndex := 335, attributes := #[] }, { accessFlags := 9, nameIndex := 201, descriptorIndex := 335, attributes := #[] }] 49 4 #[] #[{ accessFlags := 25, nameIndex := 354, descriptorIndex := 339, attributes := #[] }, { accessFlags := 25, nameIndex := 358, descriptorIndex := 339, attributes := #[] }, { accessFlags := 25, nameIndex := 361, descriptorIndex := 339, attributes := #[] }, { accessFlags := 26, nameIndex := 364, descriptorIndex := 339, attributes := #[] }, { accessFlags := 26, nameIndex := 365, descriptorIndex := 339, attributes := #[] }, { accessFlags := 26, nameIndex := 172, descriptorIndex := 173, attributes := #[] }, { accessFlags := 26, nameIndex := 176, descriptorIndex := 173, attributes := #[] }, { accessFlags := 8, nameIndex := 344, descriptorIndex := 339, attributes := #[] }, { accessFlags := 8, nameIndex := 338, descriptorIndex := 339, attributes := #[] }, { accessFlags := 4120, nameIndex := 245, descriptorIndex := 246, attributes := #[] }])
  fields := #[{ name := "E", type := .double, accessFlags := 25, slot := 0, constantValue := 0 }, { name := "PI", type := .double, accessFlags := 25, slot := 1, constantValue := 0 }, { name := "TAU", type := .double, accessFlags := 25, slot := 2, constantValue := 0 }, { name := "DEGREES_TO_RADIANS", type := .double, accessFlags := 26, slot := 3, constantValue := 0 }, { name := "RADIANS_TO_DEGREES", type := .double, accessFlags := 26, slot := 4, constantValue := 0 }, { name := "negativeZeroFloatBits", type := .long, accessFlags := 26, slot := 5, constantValue := 0 }, { name := "negativeZeroDoubleBits", type := .long, accessFlags := 26, slot := 6, constantValue := 0 }, { name := "twoToTheDoubleScaleUp", type := .double, accessFlags := 8, slot := 7, constantValue := 0 }, { name := "twoToTheDoubleScaleDown", type := .double, accessFlags := 8, slot := 8, constantValue := 0 }, { name := "$assertionsDisabled", type := .boolean, accessFlags := 4120, slot := 9, constantValue := 0 }]
  methods := #[k9m0, k9m1, k9m2]
  instanceTypes := #[]
  staticTypes := #[.double, .double, .double, .double, .double, .long, .long, .double, .double, .boolean]
  resolved := Array.replicate 460 none
  statics := none }

def pool10 : Array CpInfo := pool [(2, .class_ 4), (1, u "java/lang/Object"), (0, u "<init>"), (0, u "()V"), (1, .class_ 10), (1, u "java/lang/System"), (0, u "allowSecurityManager"), (0, u "I"), (16, u "cons"), (0, u "Ljava/io/Console;"), (77, .class_ 110), (1, u "java/lang/System$CallersHolder"), (43, u "initialErrStream"), (0, u "Ljava/io/PrintStream;"), (19, u "security"), (0, u "Ljava/lang/SecurityManager;"), (31, .class_ 209), (0, u "java/lang/System$1"), (7, u "props"), (0, u "Ljava/util/Properties;"), (2, u "lineSeparator"), (0, u "Ljava/lang/String;"), (96, .class_ 321), (1, u "java/lang/System$LoggerFinder"), (5, .class_ 328), (0, u "java/lang/System$Logger"), (67, u "err"), (2, u "out"), (91, u "notSupportedJnuEncoding"), (15, u "in"), (17, u "initialIn"), (0, u "Ljava/io/InputStream;"), (35, u "bootLayer"), (0, u "Ljava/lang/ModuleLayer;"), (99, .class_ 664), (0, u "java/lang/System$2"), (9, u "NEVER"), (2, u "MAYBE"), (49, u "arraycopy"), (0, u "(Ljava/lang/Object;ILjava/lang/Object;II)V"), (72, .class_ 802), (0, u "java/lang/System$Logger$Level")] 31

def k10m0 : Method := { name := "<init>", desc := "()V", sig := { parameters := [], returnType := none }, accessFlags := 2, code := none }
def k10m1 : Method := { name := "arraycopy", desc := "(Ljava/lang/Object;ILjava/lang/Object;II)V", sig := { parameters := [(.object "java/lang/Object"), .int, (.object "java/lang/Object"), .int, .int], returnType := none }, accessFlags := 265, code := none }
/-- java/lang/System -/
def k10 : Class := { plain "java/lang/System" (some 0) with
  accessFlags := 49
  interfaces := #[]
  cf := some (fileOf pool10 8 #[.nestMembers #[319, 327, 801, 108, 663, 208]] #[{ accessFlags := 2, nameIndex := 5, descriptorIndex := 6, attributes := #[] }, { accessFlags := 265, nameIndex := 727, descriptorIndex := 728, attributes := #[] }] 49 2 #[] #[{ accessFlags := 25, nameIndex := 507, descriptorIndex := 526, attributes := #[] }, { accessFlags := 25, nameIndex := 399, descriptorIndex := 155, attributes := #[] }, { accessFlags := 25, nameIndex := 396, descriptorIndex := 155, attributes := #[] }, { accessFlags := 10, nameIndex := 525, descriptorIndex := 526, attributes := #[] }, { accessFlags := 26, nameIndex := 674, descriptorIndex := 12, attributes := #[] }, { accessFlags := 26, nameIndex := 677, descriptorIndex := 12, attributes := #[] }, { accessFlags := 10, nameIndex := 11, descriptorIndex := 12, attributes := #[] }, { accessFlags := 74, nameIndex := 175, descriptorIndex := 176, attributes := #[] }, { accessFlags := 10, nameIndex := 491, descriptorIndex := 222, attributes := #[] }, { accessFlags := 74, nameIndex := 29, descriptorIndex := 30, attributes := #[] }, { accessFlags := 74, nameIndex := 154, descriptorIndex := 155, attributes := #[] }, { accessFlags := 10, nameIndex := 217, descriptorIndex := 218, attributes := #[] }, { accessFlags := 10, nameIndex := 221, descriptorIndex := 222, attributes := #[] }, { accessFlags := 8, nameIndex := 562, descriptorIndex := 563, attributes := #[] }])
  fields := #[{ name := "in", type := (.object "java/io/InputStream"), accessFlags := 25, slot := 0, constantValue := 0 }, { name := "out", type := (.object "java/io/PrintStream"), accessFlags := 25, slot := 1, constantValue := 0 }, { name := "err", type := (.object "java/io/PrintStream"), accessFlags := 25, slot := 2, constantValue := 0 }, { name := "initialIn", type := (.object "java/io/InputStream"), accessFlags := 10, slot := 3, constantValue := 0 }, { name := "NEVER", type := .int, accessFlags := 26, slot := 4, constantValue := 0 }, { name := "MAYBE", type := .int, accessFlags := 26, slot := 5, constantValue := 0 }, { name := "allowSecurityManager", type := .int, accessFlags := 10, slot := 6, constantValue := 0 }, { name := "security", type := (.object "java/lang/SecurityManager"), accessFlags := 74, slot := 7, constantValue := 0 }, { name := "notSupportedJnuEncoding", type := (.object "java/lang/String"), accessFlags := 10, slot := 8, constantValue := 0 }, { name := "cons", type := (.object "java/io/Console"), accessFlags := 74, slot := 9, constantValue := 0 }, { name := "initialErrStream", type := (.object "java/io/PrintStream"), accessFlags := 74, slot := 10, constantValue := 0 }, { name := "props", type := (.object "java/util/Properties"), accessFlags := 10, slot := 11, constantValue := 0 }, { name := "lineSeparator", type := (.object "java/lang/String"), accessFlags := 10, slot := 12, constantValue := 0 }, { name := "bootLayer", type := (.object "java/lang/ModuleLayer"), accessFlags := 8, slot := 13, constantValue := 0 }]
  methods := #[k10m0, k10m1]
  instanceTypes := #[]
  staticTypes := #[(.object "java/io/InputStream"), (.object "java/io/PrintStream"), (.object "java/io/PrintStream"), (.object "java/io/InputStream"), .int, .int, .int, (.object "java/lang/SecurityManager"), (.object "java/lang/String"), (.object "java/io/Console"), (.object "java/io/PrintStream"), (.object "java/util/Properties"), (.object "java/lang/String"), (.object "java/lang/ModuleLayer")]
  resolved := Array.replicate 834 none
  statics := none }

def pool11 : Array CpInfo := pool [(1, .methodref 2 3), (0, .class_ 4), (0, .nameAndType 5 6), (0, u "java/lang/Object"), (0, u "<init>"), (0, u "()V"), (0, .fieldref 8 9), (0, .class_ 10), (0, .nameAndType 11 12), (0, u "com/example/countermand/countermand/Packed$Reader"), (0, u "in"), (0, u "[B"), (0, .fieldref 8 14), (0, .nameAndType 15 16), (0, u "position"), (0, u "I"), (0, .methodref 8 18), (0, .nameAndType 19 20), (0, u "sevenBits"), (0, u "()J"), (35, u "([BI)V"), (2, u "signedNumber"), (12, .class_ 73), (0, u "com/example/countermand/countermand/Packed")] 16

def k11c0 : Code := { maxStack := 2, maxLocals := 3, code := prog_31_method_1_code, exceptionTable := #[], attributes := #[] }
def k11m0 : Method := { name := "<init>", desc := "([BI)V", sig := { parameters := [(.array .byte), .int], returnType := none }, accessFlags := 0, code := some k11c0 }
def k11c1 : Code := { maxStack := 6, maxLocals := 3, code := prog_31_method_2_code, exceptionTable := #[], attributes := #[] }
def k11m1 : Method := { name := "signedNumber", desc := "()J", sig := { parameters := [], returnType := some .long }, accessFlags := 0, code := some k11c1 }
def k11c2 : Code := { maxStack := 5, maxLocals := 5, code := prog_31_method_8_code, exceptionTable := #[], attributes := #[] }
def k11m2 : Method := { name := "sevenBits", desc := "()J", sig := { parameters := [], returnType := some .long }, accessFlags := 2, code := some k11c2 }
/-- com/example/countermand/countermand/Packed$Reader -/
def k11 : Class := { plain "com/example/countermand/countermand/Packed$Reader" (some 0) with
  accessFlags := 32
  interfaces := #[]
  cf := some (fileOf pool11 8 #[.nestHost 72] #[{ accessFlags := 0, nameIndex := 5, descriptorIndex := 56, attributes := #[] }, { accessFlags := 0, nameIndex := 59, descriptorIndex := 20, attributes := #[] }, { accessFlags := 2, nameIndex := 19, descriptorIndex := 20, attributes := #[] }] 32 2 #[] #[{ accessFlags := 18, nameIndex := 11, descriptorIndex := 12, attributes := #[] }, { accessFlags := 2, nameIndex := 15, descriptorIndex := 16, attributes := #[] }])
  fields := #[{ name := "in", type := (.array .byte), accessFlags := 18, slot := 0, constantValue := 0 }, { name := "position", type := .int, accessFlags := 2, slot := 1, constantValue := 0 }]
  methods := #[k11m0, k11m1, k11m2]
  instanceTypes := #[(.array .byte), .int]
  staticTypes := #[]
  resolved := Array.replicate 90 none
  statics := none }

def pool12 : Array CpInfo := pool [(9, u "<init>"), (6, .class_ 18), (1, u "java/lang/Object"), (0, u "()V"), (1, .class_ 23), (1, u "jdk/internal/util/ArraysSupport"), (0, u "LOG2_ARRAY_LONG_INDEX_SCALE"), (0, u "I"), (2, u "U"), (0, u "Ljdk/internal/misc/Unsafe;"), (8, u "BIG_ENDIAN"), (0, u "Z"), (8, u "LOG2_BYTE_BIT_SIZE"), (4, u "LOG2_ARRAY_INT_INDEX_SCALE"), (54, u "JLA"), (0, u "Ljdk/internal/access/JavaLangAccess;"), (11, u "LOG2_ARRAY_BOOLEAN_INDEX_SCALE"), (9, u "LOG2_ARRAY_BYTE_INDEX_SCALE"), (5, u "LOG2_ARRAY_CHAR_INDEX_SCALE"), (5, u "LOG2_ARRAY_SHORT_INDEX_SCALE"), (18, u "LOG2_ARRAY_FLOAT_INDEX_SCALE"), (24, u "LOG2_ARRAY_DOUBLE_INDEX_SCALE"), (6, .methodref 195 196), (0, .class_ 197), (0, .nameAndType 198 199), (0, u "java/lang/Math"), (0, u "max"), (0, u "(II)I"), (0, .integer 2147483639), (76, u "T_BOOLEAN"), (2, u "T_CHAR"), (1, u "T_FLOAT"), (1, u "T_DOUBLE"), (1, u "T_BYTE"), (1, u "T_SHORT"), (1, u "T_INT"), (1, u "T_LONG"), (1, u "SOFT_MAX_ARRAY_LENGTH"), (56, u "newLength"), (0, u "(III)I")] 25

def k12m0 : Method := { name := "<init>", desc := "()V", sig := { parameters := [], returnType := none }, accessFlags := 2, code := none }
def k12c1 : Code := { maxStack := 3, maxLocals := 4, code := jdk_48_method_27_code, exceptionTable := #[], attributes := #[] }
def k12m1 : Method := { name := "newLength", desc := "(III)I", sig := { parameters := [.int, .int, .int], returnType := some .int }, accessFlags := 9, code := some k12c1 }
/-- jdk/internal/util/ArraysSupport -/
def k12 : Class := { plain "jdk/internal/util/ArraysSupport" (some 0) with
  accessFlags := 33
  interfaces := #[]
  cf := some (fileOf pool12 21 #[] #[{ accessFlags := 2, nameIndex := 9, descriptorIndex := 19, attributes := #[] }, { accessFlags := 9, nameIndex := 351, descriptorIndex := 352, attributes := #[] }] 33 16 #[] #[{ accessFlags := 24, nameIndex := 28, descriptorIndex := 29, attributes := #[] }, { accessFlags := 26, nameIndex := 38, descriptorIndex := 39, attributes := #[] }, { accessFlags := 25, nameIndex := 121, descriptorIndex := 25, attributes := #[] }, { accessFlags := 25, nameIndex := 131, descriptorIndex := 25, attributes := #[] }, { accessFlags := 25, nameIndex := 137, descriptorIndex := 25, attributes := #[] }, { accessFlags := 25, nameIndex := 143, descriptorIndex := 25, attributes := #[] }, { accessFlags := 25, nameIndex := 53, descriptorIndex := 25, attributes := #[] }, { accessFlags := 25, nameIndex := 24, descriptorIndex := 25, attributes := #[] }, { accessFlags := 25, nameIndex := 162, descriptorIndex := 25, attributes := #[] }, { accessFlags := 25, nameIndex := 187, descriptorIndex := 25, attributes := #[] }, { accessFlags := 26, nameIndex := 48, descriptorIndex := 25, attributes := #[] }, { accessFlags := 25, nameIndex := 277, descriptorIndex := 25, attributes := #[] }, { accessFlags := 25, nameIndex := 280, descriptorIndex := 25, attributes := #[] }, { accessFlags := 25, nameIndex := 282, descriptorIndex := 25, attributes := #[] }, { accessFlags := 25, nameIndex := 284, descriptorIndex := 25, attributes := #[] }, { accessFlags := 25, nameIndex := 286, descriptorIndex := 25, attributes := #[] }, { accessFlags := 25, nameIndex := 288, descriptorIndex := 25, attributes := #[] }, { accessFlags := 25, nameIndex := 290, descriptorIndex := 25, attributes := #[] }, { accessFlags := 25, nameIndex := 292, descriptorIndex := 25, attributes := #[] }, { accessFlags := 26, nameIndex := 108, descriptorIndex := 109, attributes := #[] }, { accessFlags := 25, nameIndex := 294, descriptorIndex := 25, attributes := #[] }])
  fields := #[{ name := "U", type := (.object "jdk/internal/misc/Unsafe"), accessFlags := 24, slot := 0, constantValue := 0 }, { name := "BIG_ENDIAN", type := .boolean, accessFlags := 26, slot := 1, constantValue := 0 }, { name := "LOG2_ARRAY_BOOLEAN_INDEX_SCALE", type := .int, accessFlags := 25, slot := 2, constantValue := 0 }, { name := "LOG2_ARRAY_BYTE_INDEX_SCALE", type := .int, accessFlags := 25, slot := 3, constantValue := 0 }, { name := "LOG2_ARRAY_CHAR_INDEX_SCALE", type := .int, accessFlags := 25, slot := 4, constantValue := 0 }, { name := "LOG2_ARRAY_SHORT_INDEX_SCALE", type := .int, accessFlags := 25, slot := 5, constantValue := 0 }, { name := "LOG2_ARRAY_INT_INDEX_SCALE", type := .int, accessFlags := 25, slot := 6, constantValue := 0 }, { name := "LOG2_ARRAY_LONG_INDEX_SCALE", type := .int, accessFlags := 25, slot := 7, constantValue := 0 }, { name := "LOG2_ARRAY_FLOAT_INDEX_SCALE", type := .int, accessFlags := 25, slot := 8, constantValue := 0 }, { name := "LOG2_ARRAY_DOUBLE_INDEX_SCALE", type := .int, accessFlags := 25, slot := 9, constantValue := 0 }, { name := "LOG2_BYTE_BIT_SIZE", type := .int, accessFlags := 26, slot := 10, constantValue := 0 }, { name := "T_BOOLEAN", type := .int, accessFlags := 25, slot := 11, constantValue := 0 }, { name := "T_CHAR", type := .int, accessFlags := 25, slot := 12, constantValue := 0 }, { name := "T_FLOAT", type := .int, accessFlags := 25, slot := 13, constantValue := 0 }, { name := "T_DOUBLE", type := .int, accessFlags := 25, slot := 14, constantValue := 0 }, { name := "T_BYTE", type := .int, accessFlags := 25, slot := 15, constantValue := 0 }, { name := "T_SHORT", type := .int, accessFlags := 25, slot := 16, constantValue := 0 }, { name := "T_INT", type := .int, accessFlags := 25, slot := 17, constantValue := 0 }, { name := "T_LONG", type := .int, accessFlags := 25, slot := 18, constantValue := 0 }, { name := "JLA", type := (.object "jdk/internal/access/JavaLangAccess"), accessFlags := 26, slot := 19, constantValue := 0 }, { name := "SOFT_MAX_ARRAY_LENGTH", type := .int, accessFlags := 25, slot := 20, constantValue := 0 }]
  methods := #[k12m0, k12m1]
  instanceTypes := #[]
  staticTypes := #[(.object "jdk/internal/misc/Unsafe"), .boolean, .int, .int, .int, .int, .int, .int, .int, .int, .int, .int, .int, .int, .int, .int, .int, .int, .int, (.object "jdk/internal/access/JavaLangAccess"), .int]
  resolved := Array.replicate 378 none
  statics := none }

def pool13 : Array CpInfo := pool [(1, .class_ 2), (0, u "java/lang/Cloneable"), (0, .class_ 4), (0, u "java/lang/Object")] 2

/-- java/lang/Cloneable -/
def k13 : Class := { plain "java/lang/Cloneable" (some 0) with
  accessFlags := 1537
  interfaces := #[]
  cf := some (fileOf pool13 1 #[] #[] 1537 3 #[] #[])
  fields := #[]
  methods := #[]
  instanceTypes := #[]
  staticTypes := #[]
  resolved := Array.replicate 7 none
  statics := none }

def pool14 : Array CpInfo := pool [(1, u "java/io/Serializable"), (0, .class_ 1), (0, u "java/lang/Object"), (0, .class_ 3)] 3

/-- java/io/Serializable -/
def k14 : Class := { plain "java/io/Serializable" (some 0) with
  accessFlags := 1537
  interfaces := #[]
  cf := some (fileOf pool14 2 #[] #[] 1537 4 #[] #[])
  fields := #[]
  methods := #[]
  instanceTypes := #[]
  staticTypes := #[]
  resolved := Array.replicate 8 none
  statics := none }

/-- the primitive byte -/
def k15 : Class := { plain "byte" none with kind := .primitive 'B', accessFlags := 0x411 }
/-- [B -/
def k16 : Class := { plain "[B" (some 0) with kind := .array 15 .byte, interfaces := #[13, 14], accessFlags := 1041 }

/-- the primitive int -/
def k17 : Class := { plain "int" none with kind := .primitive 'I', accessFlags := 0x411 }
/-- [I -/
def k18 : Class := { plain "[I" (some 0) with kind := .array 17 .int, interfaces := #[13, 14], accessFlags := 1041 }

def heap : Heap := #[]
def classes : Array Class := #[k0, k1, k2, k3, k4, k5, k6, k7, k8, k9, k10, k11, k12, k13, k14, k15, k16, k17, k18]
def interned : List (Array UInt16 × Addr) := []
def slotsUsed : Nat := 0
def theMethod : MethodId := ⟨1, 1⟩
def args0 : Array Value := #[.long 5, .long 77, .int 3]
def aboutOver (below : List Frame) : State where
  vm := { classes := classes, interned := interned.toArray }
  heap := heap
  slotsUsed := slotsUsed
  threads := #[{ frames := .invoking theMethod args0 :: below }]
def below0 : List Frame := [.native { method := ⟨0, 0⟩, args := #[] }]
def about1 : State := aboutOver below0
def p0 : Program := .bare "" "" ""
def e0 : Env := launch0.env 0 0 0
theorem w_frames : about1.frames = Frame.invoking theMethod args0 :: below0 := rfl
set_option maxRecDepth 65536 in
theorem w_args : argsFit about1.vm theMethod args0 = true := by decide +kernel
set_option maxRecDepth 65536 in
theorem w_heap : heapFits about1 = true := by decide +kernel
set_option maxRecDepth 65536 in
theorem w_runnable : about1.curStatus? = some .runnable := by decide +kernel
set_option maxRecDepth 65536 in
theorem w_alone : about1.alone = true := by decide +kernel
set_option maxRecDepth 65536 in
theorem w_named : about1.methodNamed? x = some theMethod := by decide +kernel
set_option maxRecDepth 65536 in
theorem w_hears : about1.hears theMethod below0 = true := by decide +kernel
set_option maxRecDepth 65536 in
theorem w_ripe : about1.ripe theMethod args0 below0 = true := by decide +kernel
theorem w_running : about1.status = .running := rfl
set_option maxRecDepth 65536 in
theorem w_room : about1.hasRoom e0.platform room_1 = true :=
  launch0.hasRoom_least _ room_1 (by decide +kernel) (by decide +kernel) (by decide +kernel) (by decide +kernel) (by decide +kernel) (by decide +kernel)
theorem allAtoms_all (ts : List Jvm.Cond) (a : Array Jvm.Value) (st : Jvm.State) : (allAtoms ts).before a st = ts.all (fun c => c.before a st) := by
  induction ts with
  | nil => rfl
  | cons c t ih =>
    show (Jvm.Cond.and c (allAtoms t)).before a st = _
    rw [Jvm.Cond.before_and, ih, List.all_cons]
def words1 : List Jvm.Cond := Jvm.Cond.code x code maxLocals ret :: tables_1
/-- a 'code' word, met by the world's own term for the bytes: nothing is compared byte by byte -/
theorem code_word {y : MethodName} {bytes : ByteArray} {mx : Nat} {rt : Option FieldType} {a : Array Value} {s : State} {m : MethodId} {meth : Method} {c : Code} (h1 : s.methodNamed? y = some m) (h2 : s.vm.method? m = some meth) (h3 : meth.code = some c) (h4 : c.code = bytes)
    (h5 : (c.maxLocals == mx && c.exceptionTable.isEmpty && decide (c.maxStack ≤ mostOperands) && decide (meth.sig.returnType = rt) && !meth.locks && decide (parseMethodDescriptor y.desc = some meth.sig)) = true) : (Jvm.Cond.code y bytes mx rt).before a s = true := by
  simp only [Bool.and_eq_true, beq_iff_eq, Bool.not_eq_true', decide_eq_true_eq] at h5
  obtain ⟨⟨⟨⟨⟨g1, g2⟩, g3⟩, g4⟩, g5⟩, g6⟩ := h5
  simp [Cond.before, Cond.holds, Cond.value, h1, h2, h3, h4, g1, g2, g3, g4, g5, g6]
def isCode : Jvm.Cond → Bool
  | .code _ _ _ _ => true
  | _ => false
theorem all_split {L : List Jvm.Cond} {P : Jvm.Cond → Bool} (h1 : L.all (fun c => isCode c || P c) = true) (h2 : ∀ c ∈ L.filter isCode, P c = true) : L.all P = true := by
  refine List.all_eq_true.mpr fun c hc => ?_
  have h := List.all_eq_true.mp h1 c hc
  rcases Bool.eq_false_or_eq_true (isCode c) with hi | hi
  · exact h2 c (List.mem_filter.mpr ⟨hc, hi⟩)
  · simpa [hi] using h
set_option maxRecDepth 65536 in
theorem w_c0 : (Jvm.Cond.code x code maxLocals ret).before args0 about1 = true := code_word (m := ⟨1, 1⟩) (meth := k1m1) (c := k1c1) (by decide +kernel) rfl rfl rfl (by decide +kernel)
set_option maxRecDepth 65536 in
theorem w_c1 : (Jvm.Cond.code ({ cls := "com/example/countermand/countermand/Packed$Writer", name := "<init>", desc := "(I)V" } : Jvm.MethodName) prog_32_method_1_code (2 : Nat) (Option.none : Option Jvm.ClassFile.FieldType)).before args0 about1 = true := code_word (m := ⟨2, 0⟩) (meth := k2m0) (c := k2c0) (by decide +kernel) rfl rfl rfl (by decide +kernel)
set_option maxRecDepth 65536 in
theorem w_c2 : (Jvm.Cond.code ({ cls := "java/lang/Object", name := "<init>", desc := "()V" } : Jvm.MethodName) object_method_1_code (1 : Nat) (Option.none : Option Jvm.ClassFile.FieldType)).before args0 about1 = true := code_word (m := ⟨0, 0⟩) (meth := k0m0) (c := k0c0) (by decide +kernel) rfl rfl rfl (by decide +kernel)
set_option maxRecDepth 65536 in
theorem w_c3 : (Jvm.Cond.code ({ cls := "java/io/ByteArrayOutputStream", name := "<init>", desc := "(I)V" } : Jvm.MethodName) jdk_2005_method_2_code (2 : Nat) (Option.none : Option Jvm.ClassFile.FieldType)).before args0 about1 = true := code_word (m := ⟨7, 1⟩) (meth := k7m1) (c := k7c1) (by decide +kernel) rfl rfl rfl (by decide +kernel)
set_option maxRecDepth 65536 in
theorem w_c4 : (Jvm.Cond.code ({ cls := "java/io/OutputStream", name := "<init>", desc := "()V" } : Jvm.MethodName) jdk_2038_method_1_code (1 : Nat) (Option.none : Option Jvm.ClassFile.FieldType)).before args0 about1 = true := code_word (m := ⟨6, 0⟩) (meth := k6m0) (c := k6c0) (by decide +kernel) rfl rfl rfl (by decide +kernel)
set_option maxRecDepth 65536 in
theorem w_c5 : (Jvm.Cond.code ({ cls := "com/example/countermand/countermand/Packed$Writer", name := "signedNumber", desc := "(J)Lcom/example/countermand/countermand/Packed$Writer;" } : Jvm.MethodName) prog_32_method_3_code (3 : Nat) (Option.some (Jvm.ClassFile.FieldType.object "com/example/countermand/countermand/Packed$Writer"))).before args0 about1 = true := code_word (m := ⟨2, 1⟩) (meth := k2m1) (c := k2c1) (by decide +kernel) rfl rfl rfl (by decide +kernel)
set_option maxRecDepth 65536 in
theorem w_c6 : (Jvm.Cond.code ({ cls := "com/example/countermand/countermand/Packed$Writer", name := "sevenBits", desc := "(J)V" } : Jvm.MethodName) prog_32_method_8_code (5 : Nat) (Option.none : Option Jvm.ClassFile.FieldType)).before args0 about1 = true := code_word (m := ⟨2, 3⟩) (meth := k2m3) (c := k2c3) (by decide +kernel) rfl rfl rfl (by decide +kernel)
set_option maxRecDepth 65536 in
theorem w_c7 : (Jvm.Cond.code ({ cls := "java/io/ByteArrayOutputStream", name := "ensureCapacity", desc := "(I)V" } : Jvm.MethodName) jdk_2005_method_3_code (4 : Nat) (Option.none : Option Jvm.ClassFile.FieldType)).before args0 about1 = true := code_word (m := ⟨7, 2⟩) (meth := k7m2) (c := k7c2) (by decide +kernel) rfl rfl rfl (by decide +kernel)
set_option maxRecDepth 65536 in
theorem w_c8 : (Jvm.Cond.code ({ cls := "com/example/countermand/countermand/Packed$Writer", name := "bytes", desc := "()[B" } : Jvm.MethodName) prog_32_method_6_code (1 : Nat) (Option.some (Jvm.ClassFile.FieldType.array Jvm.ClassFile.FieldType.byte))).before args0 about1 = true := code_word (m := ⟨2, 2⟩) (meth := k2m2) (c := k2c2) (by decide +kernel) rfl rfl rfl (by decide +kernel)
set_option maxRecDepth 65536 in
theorem w_c9 : (Jvm.Cond.code ({ cls := "java/util/Arrays", name := "copyOf", desc := "([BI)[B" } : Jvm.MethodName) jdk_65_method_121_code (3 : Nat) (Option.some (Jvm.ClassFile.FieldType.array Jvm.ClassFile.FieldType.byte))).before args0 about1 = true := code_word (m := ⟨8, 1⟩) (meth := k8m1) (c := k8c1) (by decide +kernel) rfl rfl rfl (by decide +kernel)
set_option maxRecDepth 65536 in
theorem w_c10 : (Jvm.Cond.code ({ cls := "java/lang/Math", name := "min", desc := "(II)I" } : Jvm.MethodName) jdk_29_method_69_code (2 : Nat) (Option.some Jvm.ClassFile.FieldType.int)).before args0 about1 = true := code_word (m := ⟨9, 2⟩) (meth := k9m2) (c := k9c2) (by decide +kernel) rfl rfl rfl (by decide +kernel)
set_option maxRecDepth 65536 in
theorem w_c11 : (Jvm.Cond.code ({ cls := "com/example/countermand/countermand/Packed$Reader", name := "<init>", desc := "([BI)V" } : Jvm.MethodName) prog_31_method_1_code (3 : Nat) (Option.none : Option Jvm.ClassFile.FieldType)).before args0 about1 = true := code_word (m := ⟨11, 0⟩) (meth := k11m0) (c := k11c0) (by decide +kernel) rfl rfl rfl (by decide +kernel)
set_option maxRecDepth 65536 in
theorem w_c12 : (Jvm.Cond.code ({ cls := "com/example/countermand/countermand/Packed$Reader", name := "signedNumber", desc := "()J" } : Jvm.MethodName) prog_31_method_2_code (3 : Nat) (Option.some Jvm.ClassFile.FieldType.long)).before args0 about1 = true := code_word (m := ⟨11, 1⟩) (meth := k11m1) (c := k11c1) (by decide +kernel) rfl rfl rfl (by decide +kernel)
set_option maxRecDepth 65536 in
theorem w_c13 : (Jvm.Cond.code ({ cls := "com/example/countermand/countermand/Packed$Reader", name := "sevenBits", desc := "()J" } : Jvm.MethodName) prog_31_method_8_code (5 : Nat) (Option.some Jvm.ClassFile.FieldType.long)).before args0 about1 = true := code_word (m := ⟨11, 2⟩) (meth := k11m2) (c := k11c2) (by decide +kernel) rfl rfl rfl (by decide +kernel)
set_option maxRecDepth 65536 in
theorem w_c14 : (Jvm.Cond.code ({ cls := "jdk/internal/util/ArraysSupport", name := "newLength", desc := "(III)I" } : Jvm.MethodName) jdk_48_method_27_code (4 : Nat) (Option.some Jvm.ClassFile.FieldType.int)).before args0 about1 = true := code_word (m := ⟨12, 1⟩) (meth := k12m1) (c := k12c1) (by decide +kernel) rfl rfl rfl (by decide +kernel)
set_option maxRecDepth 65536 in
theorem w_c15 : (Jvm.Cond.code ({ cls := "java/lang/Math", name := "max", desc := "(II)I" } : Jvm.MethodName) jdk_29_method_65_code (2 : Nat) (Option.some Jvm.ClassFile.FieldType.int)).before args0 about1 = true := code_word (m := ⟨9, 1⟩) (meth := k9m1) (c := k9c1) (by decide +kernel) rfl rfl rfl (by decide +kernel)
def codes1 : List Jvm.Cond := [Jvm.Cond.code x code maxLocals ret, Jvm.Cond.code ({ cls := "com/example/countermand/countermand/Packed$Writer", name := "<init>", desc := "(I)V" } : Jvm.MethodName) prog_32_method_1_code (2 : Nat) (Option.none : Option Jvm.ClassFile.FieldType), Jvm.Cond.code ({ cls := "java/lang/Object", name := "<init>", desc := "()V" } : Jvm.MethodName) object_method_1_code (1 : Nat) (Option.none : Option Jvm.ClassFile.FieldType), Jvm.Cond.code ({ cls := "java/io/ByteArrayOutputStream", name := "<init>", desc := "(I)V" } : Jvm.MethodName) jdk_2005_method_2_code (2 : Nat) (Option.none : Option Jvm.ClassFile.FieldType), Jvm.Cond.code ({ cls := "java/io/OutputStream", name := "<init>", desc := "()V" } : Jvm.MethodName) jdk_2038_method_1_code (1 : Nat) (Option.none : Option Jvm.ClassFile.FieldType), Jvm.Cond.code ({ cls := "com/example/countermand/countermand/Packed$Writer", name := "signedNumber", desc := "(J)Lcom/example/countermand/countermand/Packed$Writer;" } : Jvm.MethodName) prog_32_method_3_code (3 : Nat) (Option.some (Jvm.ClassFile.FieldType.object "com/example/countermand/countermand/Packed$Writer")), Jvm.Cond.code ({ cls := "com/example/countermand/countermand/Packed$Writer", name := "sevenBits", desc := "(J)V" } : Jvm.MethodName) prog_32_method_8_code (5 : Nat) (Option.none : Option Jvm.ClassFile.FieldType), Jvm.Cond.code ({ cls := "java/io/ByteArrayOutputStream", name := "ensureCapacity", desc := "(I)V" } : Jvm.MethodName) jdk_2005_method_3_code (4 : Nat) (Option.none : Option Jvm.ClassFile.FieldType), Jvm.Cond.code ({ cls := "com/example/countermand/countermand/Packed$Writer", name := "bytes", desc := "()[B" } : Jvm.MethodName) prog_32_method_6_code (1 : Nat) (Option.some (Jvm.ClassFile.FieldType.array Jvm.ClassFile.FieldType.byte)), Jvm.Cond.code ({ cls := "java/util/Arrays", name := "copyOf", desc := "([BI)[B" } : Jvm.MethodName) jdk_65_method_121_code (3 : Nat) (Option.some (Jvm.ClassFile.FieldType.array Jvm.ClassFile.FieldType.byte)), Jvm.Cond.code ({ cls := "java/lang/Math", name := "min", desc := "(II)I" } : Jvm.MethodName) jdk_29_method_69_code (2 : Nat) (Option.some Jvm.ClassFile.FieldType.int), Jvm.Cond.code ({ cls := "com/example/countermand/countermand/Packed$Reader", name := "<init>", desc := "([BI)V" } : Jvm.MethodName) prog_31_method_1_code (3 : Nat) (Option.none : Option Jvm.ClassFile.FieldType), Jvm.Cond.code ({ cls := "com/example/countermand/countermand/Packed$Reader", name := "signedNumber", desc := "()J" } : Jvm.MethodName) prog_31_method_2_code (3 : Nat) (Option.some Jvm.ClassFile.FieldType.long), Jvm.Cond.code ({ cls := "com/example/countermand/countermand/Packed$Reader", name := "sevenBits", desc := "()J" } : Jvm.MethodName) prog_31_method_8_code (5 : Nat) (Option.some Jvm.ClassFile.FieldType.long), Jvm.Cond.code ({ cls := "jdk/internal/util/ArraysSupport", name := "newLength", desc := "(III)I" } : Jvm.MethodName) jdk_48_method_27_code (4 : Nat) (Option.some Jvm.ClassFile.FieldType.int), Jvm.Cond.code ({ cls := "java/lang/Math", name := "max", desc := "(II)I" } : Jvm.MethodName) jdk_29_method_65_code (2 : Nat) (Option.some Jvm.ClassFile.FieldType.int)]
set_option maxRecDepth 65536 in
theorem codes_eq : words1.filter isCode = codes1 := rfl
theorem w_codes : ∀ c ∈ words1.filter isCode, c.before args0 about1 = true := by
  rw [codes_eq]
  intro c hc
  simp only [codes1, List.mem_cons, List.not_mem_nil, or_false] at hc
  rcases hc with rfl | rfl | rfl | rfl | rfl | rfl | rfl | rfl | rfl | rfl | rfl | rfl | rfl | rfl | rfl | rfl
  · exact w_c0
  · exact w_c1
  · exact w_c2
  · exact w_c3
  · exact w_c4
  · exact w_c5
  · exact w_c6
  · exact w_c7
  · exact w_c8
  · exact w_c9
  · exact w_c10
  · exact w_c11
  · exact w_c12
  · exact w_c13
  · exact w_c14
  · exact w_c15
set_option maxRecDepth 65536 in
theorem w_t1 : (words1.take 24).all (fun c => isCode c || c.before args0 about1) = true := by decide +kernel
set_option maxRecDepth 65536 in
theorem w_t2 : ((words1.drop 24).take 24).all (fun c => isCode c || c.before args0 about1) = true := by decide +kernel
set_option maxRecDepth 65536 in
theorem w_t3 : (((words1.drop 24).drop 24).take 24).all (fun c => isCode c || c.before args0 about1) = true := by decide +kernel
set_option maxRecDepth 65536 in
theorem w_t4 : ((((words1.drop 24).drop 24).drop 24).take 24).all (fun c => isCode c || c.before args0 about1) = true := by decide +kernel
set_option maxRecDepth 65536 in
theorem w_t5 : ((((words1.drop 24).drop 24).drop 24).drop 24).all (fun c => isCode c || c.before args0 about1) = true := by decide +kernel
theorem w_tables : (allAtoms (Jvm.Cond.code x code maxLocals ret :: tables_1)).before args0 about1 = true := by
  rw [allAtoms_all]
  show words1.all (fun c => c.before args0 about1) = true
  refine all_split ?_ w_codes
  rw [← List.take_append_drop 24 words1, List.all_append, w_t1, ← List.take_append_drop 24 (words1.drop 24), List.all_append, w_t2, ← List.take_append_drop 24 ((words1.drop 24).drop 24), List.all_append, w_t3, ← List.take_append_drop 24 (((words1.drop 24).drop 24).drop 24), List.all_append, w_t4, w_t5]
  rfl
set_option maxRecDepth 65536 in
theorem w_case : (Jvm.Cond.and given_1 narrow_1).before args0 about1 = true := by decide +kernel
theorem w_applies : (headSpec (Jvm.Cond.code x code maxLocals ret :: tables_1) room_1).applies x e0.platform about1 = true :=
  (Spec.applies_iff w_frames).mpr ⟨w_running, w_runnable, w_alone, w_named, w_hears, w_ripe, w_room, w_tables⟩
theorem atStart : AtStart classFile x code maxLocals ret World_1 tables_1 room_1 Calls_1 rest_1 Pre_1 launch0 p0 e0 about1 theMethod args0 below0 :=
  ⟨lists_1, trivial, launch0.admits_env _ _ _, launch0.least_env, fairChoices_fair.cas, fairChoices_fair.clock, w_frames, w_args, w_heap, w_applies, trivial, trivial, w_case⟩
end start1
theorem witness_1 : WitnessClaimed_1 := ⟨start1.p0, start1.e0, start1.about1, start1.theMethod, start1.args0, start1.below0, start1.atStart⟩
end Jvm.Pilot.@@N@@
