import JvmDerived
import JvmDerived.Pilot.@@N@@Statement
import JvmDerived.Pilot.@@N@@Code
set_option linter.unusedVariables false
set_option linter.unusedSimpArgs false
namespace Jvm.Pilot.@@N@@
open Jvm Jvm.ClassFile Sem Op Lib Jvm.Free Jvm.Stand Jvm.LawKit Jvm.RoadKit Bundle Jvm.Pilot.@@N@@.Jvm.D
section Own
variable {p : Program} {l : Launch} {e : Env} {R : Room} {s : State} {m : MethodId} {args : Array Value} {below : List Frame} {meth : Method} {c : Code} {T : State} {locs : List Loc} {cells slots : Nat} {Z : State} {a0 : Array Value} {h h' : Heap} {Q : Option Value → Heap → List Loc → Prop} {k n : Nat}
/-- from U the walk comes to a return of which Q holds -/
def Goes (p : Program) (e : Env) (below : List Frame) (s : State) (Q : Option Value → Heap → List Loc → Prop) (k n : Nat) (U : State) : Prop :=
  ∃ s₂ o, Steps p.tables e below U s₂ ∧ s₂.status = .running ∧ Ended s₂ below o ∧ ∃ v L, o = .returned v ∧ Q v s₂.heap L ∧ FrameEnd s o s₂ L k n
theorem Goes.go {U U' : State} (h : ∀ t, Steps p.tables e below U' t → Steps p.tables e below U t) (r : Goes p e below s Q k n U') : Goes p e below s Q k n U := by
  obtain ⟨s₂, o, h1, r⟩ := r
  exact ⟨s₂, o, h _ h1, r⟩
theorem Goes.outI (X : Stand p l e R s m args below meth c T locs cells slots) (hx : p.tables.exec = Jvm.exec) (hlk : meth.locks = false) (hret : meth.sig.returnType = some .int) {pc : Nat} {Ls : Array Slot} {z : Int32} (hd : decode c.code pc = .ok (.ireturn, 1)) (eT : T.heap = h) (hq : Q (some (.int z)) h locs) (hk : cells ≤ k) (hn : slots ≤ n) :
    Goes p e below s Q k n (T.setTop (mkF m pc Ls [.int z])) := by
  obtain ⟨fs, hr, hrun, hended, hW, hsame⟩ := X.leave (v := some (.int z)) (fun h => by rw [hret] at h; cases h) hlk
  refine ⟨_, _, X.ireturnOut hx hret rfl (Or.inl rfl) hd hr, hrun, hended, _, _, rfl, ?_, ⟨_, rfl⟩, hW, hsame.mono hk hn⟩
  show Q _ T.heap _
  rw [eT]; exact hq
theorem Goes.outZ (X : Stand p l e R s m args below meth c T locs cells slots) (hx : p.tables.exec = Jvm.exec) (hlk : meth.locks = false) (hret : meth.sig.returnType = some .boolean) {pc : Nat} {Ls : Array Slot} {z : Int32} (hz : narrow .boolean (.int z) = .int z) (hd : decode c.code pc = .ok (.ireturn, 1)) (eT : T.heap = h) (hq : Q (some (.int z)) h locs) (hk : cells ≤ k) (hn : slots ≤ n) :
    Goes p e below s Q k n (T.setTop (mkF m pc Ls [.int z])) := by
  obtain ⟨fs, hr, hrun, hended, hW, hsame⟩ := X.leave (v := some (.int z)) (fun h => by rw [hret] at h; cases h) hlk
  refine ⟨_, _, X.ireturnOut hx hret hz (Or.inr (Or.inl rfl)) hd hr, hrun, hended, _, _, rfl, ?_, ⟨_, rfl⟩, hW, hsame.mono hk hn⟩
  show Q _ T.heap _
  rw [eT]; exact hq
theorem Goes.outJ (X : Stand p l e R s m args below meth c T locs cells slots) (hx : p.tables.exec = Jvm.exec) (hlk : meth.locks = false) (hret : meth.sig.returnType = some .long) {pc : Nat} {Ls : Array Slot} {z : Int64} (hd : decode c.code pc = .ok (.lreturn, 1)) (eT : T.heap = h) (hq : Q (some (.long z)) h locs) (hk : cells ≤ k) (hn : slots ≤ n) :
    Goes p e below s Q k n (T.setTop (mkF m pc Ls [.long z])) := by
  obtain ⟨fs, hr, hrun, hended, hW, hsame⟩ := X.leave (v := some (.long z)) (fun h => by rw [hret] at h; cases h) hlk
  refine ⟨_, _, X.lreturnOut hx hret hd hr, hrun, hended, _, _, rfl, ?_, ⟨_, rfl⟩, hW, hsame.mono hk hn⟩
  show Q _ T.heap _
  rw [eT]; exact hq
theorem Goes.outA (X : Stand p l e R s m args below meth c T locs cells slots) (hx : p.tables.exec = Jvm.exec) (hlk : meth.locks = false) {t : FieldType} (hret : meth.sig.returnType = some t) (ht : t.isReference = true) {pc : Nat} {Ls : Array Slot} {w : Value} (hw : w.isRef = true) (hd : decode c.code pc = .ok (.areturn, 1)) (eT : T.heap = h) (hq : Q (some w) h locs) (hk : cells ≤ k) (hn : slots ≤ n) :
    Goes p e below s Q k n (T.setTop (mkF m pc Ls [w])) := by
  obtain ⟨fs, hr, hrun, hended, hW, hsame⟩ := X.leave (v := some w) (fun h => by rw [hret] at h; cases h) hlk
  refine ⟨_, _, X.areturnOut hx hw hret ht hd hr, hrun, hended, _, _, rfl, ?_, ⟨_, rfl⟩, hW, hsame.mono hk hn⟩
  show Q _ T.heap _
  rw [eT]; exact hq
theorem Goes.outV (X : Stand p l e R s m args below meth c T locs cells slots) (hx : p.tables.exec = Jvm.exec) (hlk : meth.locks = false) (hret : meth.sig.returnType = none) {pc : Nat} {Ls : Array Slot} (hd : decode c.code pc = .ok (.return_, 1)) (eT : T.heap = h) (hq : Q none h locs) (hk : cells ≤ k) (hn : slots ≤ n) :
    Goes p e below s Q k n (T.setTop (mkF m pc Ls [])) := by
  obtain ⟨fs, hr, hrun, hended, hW, hsame⟩ := X.leave (v := none) (fun _ => rfl) hlk
  refine ⟨_, _, X.returnOut hx hret hd hr, hrun, hended, _, _, rfl, ?_, ⟨_, rfl⟩, hW, hsame.mono hk hn⟩
  show Q _ T.heap _
  rw [eT]; exact hq
/-- an array, by the list of what it holds -/
def Arl (Z : State) (h : Heap) (a : Addr) (ty : FieldType) (vs : List Value) : Prop := ∃ c : Cell, Arr Z h a c ty ∧ c.slots.toList = vs
section Arls
variable {a b : Addr} {ty : FieldType} {vs : List Value} {v : Value} {sl : Nat} {ws : List Addr} {j : Int32}
theorem Arl.lt (F : Arl Z h a ty vs) : a < h.size := by obtain ⟨c, A, -⟩ := F; exact A.lt
theorem Arl.ext (F : Arl Z h a ty vs) (E : Ext h h') : Arl Z h' a ty vs := by obtain ⟨c, A, r⟩ := F; exact ⟨c, A.ext E, r⟩
theorem Arl.other (F : Arl Z h b ty vs) (W : Wr h h' a sl v) (q : b ≠ a) : Arl Z h' b ty vs := by obtain ⟨c, A, r⟩ := F; exact ⟨c, A.other W q, r⟩
theorem Arl.keep (F : Arl Z h a ty vs) (K : Keep h h' ws) (q : a ∉ ws) : Arl Z h' a ty vs := by obtain ⟨c, A, r⟩ := F; exact ⟨c, ⟨K.2.1 a c A.1 q, A.2⟩, r⟩
theorem Arl.set (F : Arl Z h a ty vs) (W : Wr h h' a sl v) : Arl Z h' a ty (vs.set sl v) := by
  obtain ⟨c, A, r⟩ := F
  refine ⟨_, A.same W, ?_⟩
  subst r
  simp [Cell.setSlot]
theorem Arl.eq {vs' : List Value} (F : Arl Z h a ty vs) (e : vs = vs') : Arl Z h a ty vs' := e ▸ F
theorem own_in {c : Cell} (r : c.slots.toList = vs) (h0 : ¬ j < 0) (h1 : j.toNatClampNeg < vs.length) : ¬ (j < 0 ∨ c.slots.size ≤ j.toNatClampNeg) := by
  subst r
  intro q
  rcases q with q | q
  · exact h0 q
  · rw [Array.length_toList] at h1; omega
theorem own_lt (hv : vs[sl]? = some v) : sl < vs.length := (List.getElem?_eq_some_iff.mp hv).1
end Arls
theorem own_ati {xs : List Int32} {j : Nat} {w : Int32} (h : xs[j]? = some w) : (xs.map Value.int)[j]? = some (.int w) := by
  rw [List.getElem?_map, h]; rfl
theorem own_lni {xs : List Int32} {j k : Nat} (hl : xs.length = k) (h : j < k) : j < (xs.map Value.int).length := by
  rw [List.length_map, hl]; exact h
theorem own_sti {a : Addr} {xs : List Int32} {j : Nat} {w : Int32} (A : Arl Z h a .int ((xs.map Value.int).set j (.int w))) : Arl Z h a .int ((xs.set j w).map Value.int) := A.eq List.map_set.symm
theorem own_selP {C : String} {y y' : MethodName} (hs : (Cond.selects C y' y').before args s = true) (hcls : y'.cls = y.cls) (hpriv : s.PrivateAt y) (hinst : (Cond.instanceMethod y).before args s = true) (hy : y.cls ≠ "java/lang/invoke/MethodHandle" ∧ y.cls ≠ "java/lang/invoke/VarHandle") : (Cond.selects y.cls y y).before args s = true := by
  obtain ⟨c2, r2, m2, -, -, q3, -, kP, hkP, hkPi⟩ := Cond.selects_spec hs
  have hc : s.vm.findClass y.cls = some m2.cls := hcls ▸ findClass_of_methodNamed q3
  exact selects_self_of_private hc hkP hkPi hpriv hinst hy
theorem own_neA {a b : Addr} {C : String} {k : Nat} {ty : FieldType} {vs : List Value} (F : Exa Z h a C) (wi : (Cond.instantiable C k).before a0 Z = true) (G : Arl Z h b ty vs) : a ≠ b := by
  obtain ⟨c', A', -⟩ := G
  exact ne_arr F wi A'
theorem own_newP (X : Stand p l e R s m args below meth c T locs cells slots) (hx : p.tables.exec = Jvm.exec) (hZ : Z.Warmed39 s.vm) {aty : ArrayType} (w : (Cond.arrayClass (newarray.typeOf aty)).before a0 Z = true) (eT : T.heap = h) {g : JFrame} (hg : g.method = m) (hd : decode c.code g.pc = .ok (.newarray aty, 2)) {n : Int32} {rest : List Value} (hs : g.stack = .int n :: rest)
    (hn : ¬ n < 0) {cap : Nat} (hcap : n.toNatClampNeg ≤ cap) (hb : cap * 8 ≤ 536870912) (hc : cells + 1 ≤ R.cells) (hl : slots + cap ≤ R.slots) :
    ∃ T' h', Stand p l e R s m args below meth c T' locs (cells + 1) (slots + cap) ∧ T'.heap = h' ∧ Ext h h' ∧ Arl Z h' h.size (newarray.typeOf aty) (List.replicate n.toNatClampNeg (defaultValue (newarray.typeOf aty))) ∧
      ∀ target, Steps p.tables e below (T'.setTop { g with pc := g.pc + 2, stack := .ref h.size :: rest }) target → Steps p.tables e below (T.setTop g) target := by
  obtain ⟨T', h', cA, X', e', E', A', st⟩ := newP X hx hZ w eT hg hd hs hn hcap hb hc hl
  exact ⟨T', h', X', e', E', ⟨_, A', by simp [newA]⟩, st⟩
theorem own_stB (X : Stand p l e R s m args below meth c T locs cells slots) (hx : p.tables.exec = Jvm.exec) (hZ : Z.Warmed39 s.vm) (eT : T.heap = h) {a : Addr} {vs : List Value} (A : Arl Z h a .byte vs) {j x : Int32} (hj : ¬ j < 0) (hj' : j.toNatClampNeg < vs.length) {g : JFrame} (hg : g.method = m) {rest : List Value} (hs : g.stack = .int x :: .int j :: .ref a :: rest) (hd : decode c.code g.pc = .ok (.bastore, 1)) :
    ∃ T' h', Stand p l e R s m args below meth c T' (locs ++ [⟨a, j.toNatClampNeg⟩]) cells slots ∧ T'.heap = h' ∧ Wr h h' a j.toNatClampNeg (.int x.toInt8.toInt32) ∧ Arl Z h' a .byte (vs.set j.toNatClampNeg (.int x.toInt8.toInt32)) ∧ ∀ target, Steps p.tables e below (T'.setTop { g with pc := g.pc + 1, stack := rest }) target → Steps p.tables e below (T.setTop g) target := by
  obtain ⟨c', A', r⟩ := A
  obtain ⟨T', h', X', e', W, st⟩ := stB X hx hZ eT A' (own_in r hj hj') hg hs hd
  exact ⟨T', h', X', e', W, Arl.set ⟨c', A', r⟩ W, st⟩
theorem own_stI (X : Stand p l e R s m args below meth c T locs cells slots) (hx : p.tables.exec = Jvm.exec) (hZ : Z.Warmed39 s.vm) (eT : T.heap = h) {a : Addr} {vs : List Value} (A : Arl Z h a .int vs) {j x : Int32} (hj : ¬ j < 0) (hj' : j.toNatClampNeg < vs.length) {g : JFrame} (hg : g.method = m) {rest : List Value} (hs : g.stack = .int x :: .int j :: .ref a :: rest) (hd : decode c.code g.pc = .ok (.iastore, 1)) :
    ∃ T' h', Stand p l e R s m args below meth c T' (locs ++ [⟨a, j.toNatClampNeg⟩]) cells slots ∧ T'.heap = h' ∧ Wr h h' a j.toNatClampNeg (.int x) ∧ Arl Z h' a .int (vs.set j.toNatClampNeg (.int x)) ∧ ∀ target, Steps p.tables e below (T'.setTop { g with pc := g.pc + 1, stack := rest }) target → Steps p.tables e below (T.setTop g) target := by
  obtain ⟨c', A', r⟩ := A
  obtain ⟨T', h', X', e', W, st⟩ := stI X hx hZ eT A' (own_in r hj hj') hg hs hd
  exact ⟨T', h', X', e', W, Arl.set ⟨c', A', r⟩ W, st⟩
theorem own_stJ (X : Stand p l e R s m args below meth c T locs cells slots) (hx : p.tables.exec = Jvm.exec) (hZ : Z.Warmed39 s.vm) (eT : T.heap = h) {a : Addr} {vs : List Value} (A : Arl Z h a .long vs) {j : Int32} {x : Int64} (hj : ¬ j < 0) (hj' : j.toNatClampNeg < vs.length) {g : JFrame} (hg : g.method = m) {rest : List Value} (hs : g.stack = .long x :: .int j :: .ref a :: rest) (hd : decode c.code g.pc = .ok (.lastore, 1)) :
    ∃ T' h', Stand p l e R s m args below meth c T' (locs ++ [⟨a, j.toNatClampNeg⟩]) cells slots ∧ T'.heap = h' ∧ Wr h h' a j.toNatClampNeg (.long x) ∧ Arl Z h' a .long (vs.set j.toNatClampNeg (.long x)) ∧ ∀ target, Steps p.tables e below (T'.setTop { g with pc := g.pc + 1, stack := rest }) target → Steps p.tables e below (T.setTop g) target := by
  obtain ⟨c', A', r⟩ := A
  obtain ⟨T', h', X', e', W, st⟩ := stJ X hx hZ eT A' (own_in r hj hj') hg hs hd
  exact ⟨T', h', X', e', W, Arl.set ⟨c', A', r⟩ W, st⟩
theorem own_at {a : Addr} {c' : Cell} {vs : List Value} {v : Value} {j : Int32} (r : c'.slots.toList = vs) (hv : vs[j.toNatClampNeg]? = some v) : c'.slots[j.toNatClampNeg]? = some v := by
  subst r; simpa using hv
theorem own_ldB (X : Stand p l e R s m args below meth c T locs cells slots) (hx : p.tables.exec = Jvm.exec) (hZ : Z.Warmed39 s.vm) (eT : T.heap = h) {a : Addr} {vs : List Value} {v : Value} (A : Arl Z h a .byte vs) {j : Int32} (hj : ¬ j < 0) (hv : vs[j.toNatClampNeg]? = some v) {g : JFrame} (hg : g.method = m) {rest : List Value} (hs : g.stack = .int j :: .ref a :: rest) (hd : decode c.code g.pc = .ok (.baload, 1)) :
    ∀ target, Steps p.tables e below (T.setTop { g with pc := g.pc + 1, stack := v :: rest }) target → Steps p.tables e below (T.setTop g) target := by
  obtain ⟨c', A', r⟩ := A
  exact fun t k => X.baloadBytes hx (by rw [eT]; exact A'.1) (State.isArrayOf_alike hZ.alike A'.2.1) A'.2.2 (own_in r hj (own_lt hv)) (own_at (a := a) r hv) hg hs hd t k
theorem own_ldI (X : Stand p l e R s m args below meth c T locs cells slots) (hx : p.tables.exec = Jvm.exec) (hZ : Z.Warmed39 s.vm) (eT : T.heap = h) {a : Addr} {vs : List Value} {v : Value} (A : Arl Z h a .int vs) {j : Int32} (hj : ¬ j < 0) (hv : vs[j.toNatClampNeg]? = some v) {g : JFrame} (hg : g.method = m) {rest : List Value} (hs : g.stack = .int j :: .ref a :: rest) (hd : decode c.code g.pc = .ok (.iaload, 1)) :
    ∀ target, Steps p.tables e below (T.setTop { g with pc := g.pc + 1, stack := v :: rest }) target → Steps p.tables e below (T.setTop g) target := by
  obtain ⟨c', A', r⟩ := A
  exact fun t k => X.iaload hx (by rw [eT]; exact A'.1) (State.isArrayOf_alike hZ.alike A'.2.1) A'.2.2 (own_in r hj (own_lt hv)) (own_at (a := a) r hv) hg hs hd t k
theorem own_ldJ (X : Stand p l e R s m args below meth c T locs cells slots) (hx : p.tables.exec = Jvm.exec) (hZ : Z.Warmed39 s.vm) (eT : T.heap = h) {a : Addr} {vs : List Value} {v : Value} (A : Arl Z h a .long vs) {j : Int32} (hj : ¬ j < 0) (hv : vs[j.toNatClampNeg]? = some v) {g : JFrame} (hg : g.method = m) {rest : List Value} (hs : g.stack = .int j :: .ref a :: rest) (hd : decode c.code g.pc = .ok (.laload, 1)) :
    ∀ target, Steps p.tables e below (T.setTop { g with pc := g.pc + 1, stack := v :: rest }) target → Steps p.tables e below (T.setTop g) target := by
  obtain ⟨c', A', r⟩ := A
  exact fun t k => X.laload hx (by rw [eT]; exact A'.1) (State.isArrayOf_alike hZ.alike A'.2.1) A'.2.2 (own_in r hj (own_lt hv)) (own_at (a := a) r hv) hg hs hd t k
theorem own_len (X : Stand p l e R s m args below meth c T locs cells slots) (hx : p.tables.exec = Jvm.exec) (hZ : Z.Warmed39 s.vm) (eT : T.heap = h) {a : Addr} {ty : FieldType} {vs : List Value} (A : Arl Z h a ty vs) {n : Int32} (hn : vs.length.toInt32 = n) {g : JFrame} (hg : g.method = m) {rest : List Value} (hs : g.stack = .ref a :: rest) (hd : decode c.code g.pc = .ok (.arraylength, 1)) :
    ∀ target, Steps p.tables e below (T.setTop { g with pc := g.pc + 1, stack := .int n :: rest }) target → Steps p.tables e below (T.setTop g) target := by
  obtain ⟨c', A', r⟩ := A
  have q : c'.slots.size.toInt32 = n := by rw [← hn, ← r, Array.length_toList]
  exact fun t k => X.arraylength hx (ty := ty) (by rw [eT]; exact A'.1) (State.isArrayOf_alike hZ.alike A'.2.1) hg hs hd t (q.symm ▸ k)
end Own
def gi (xs : List Int32) (j : Int32) : Int32 := xs.getD j.toNatClampNeg 0
def si (xs : List Int32) (j v : Int32) : List Int32 := xs.set j.toNatClampNeg v
/-- an index into six places -/
def okB (j : Int32) : Bool := decide (¬ j < 0) && decide (j.toNatClampNeg < 6)
theorem okB_0 {j : Int32} (h : okB j = true) : ¬ j < 0 := by
  simp only [okB, Bool.and_eq_true, decide_eq_true_eq] at h; exact h.1
theorem okB_1 {j : Int32} (h : okB j = true) : j.toNatClampNeg < 6 := by
  simp only [okB, Bool.and_eq_true, decide_eq_true_eq] at h; exact h.2
theorem gi_at {xs : List Int32} {j : Int32} (hl : xs.length = 6) (h : okB j = true) : xs[j.toNatClampNeg]? = some (gi xs j) := by
  have h1 := okB_1 h
  unfold gi
  rw [List.getD_eq_getElem?_getD, List.getElem?_eq_getElem (by omega)]; rfl
theorem si_len {xs : List Int32} {j v : Int32} (hl : xs.length = 6) : (si xs j v).length = 6 := by
  unfold si; rw [List.length_set]; exact hl
/-- one turn of the first loop -/
def s1F (n : Int32) (sz lk : List Int32) : List Int32 :=
  if gi lk n = 0 then si sz n (gi sz n + (1 : Int32)) else si (si sz n (gi sz n + (1 : Int32))) (gi lk n) (gi (si sz n (gi sz n + (1 : Int32))) (gi lk n) + gi (si sz n (gi sz n + (1 : Int32))) n)
theorem s1_len {n : Int32} {sz lk : List Int32} (hl : sz.length = 6) : (s1F n sz lk).length = 6 := by
  unfold s1F; split
  · exact si_len hl
  · exact si_len (si_len hl)
/-- one turn of the second loop: places, links, next root -/
def p2F (n nr : Int32) (pl lk : List Int32) : List Int32 := if gi lk n = 0 then si pl n nr else si pl n (gi lk (gi lk n))
def k2F (n : Int32) (lk sz : List Int32) : List Int32 := if gi lk n = 0 then lk else si lk (gi lk n) (gi lk (gi lk n) + gi sz n)
def l2F (n nr : Int32) (pl lk sz : List Int32) : List Int32 := si (k2F n lk sz) n (gi (p2F n nr pl lk) n + (1 : Int32))
def r2F (n nr : Int32) (lk sz : List Int32) : Int32 := if gi lk n = 0 then nr + gi sz n else nr
theorem p2_len {n nr : Int32} {pl lk : List Int32} (hl : pl.length = 6) : (p2F n nr pl lk).length = 6 := by
  unfold p2F; split <;> exact si_len hl
theorem k2_len {n : Int32} {lk sz : List Int32} (hl : lk.length = 6) : (k2F n lk sz).length = 6 := by
  unfold k2F; split
  · exact hl
  · exact si_len hl
theorem l2_len {n nr : Int32} {pl lk sz : List Int32} (hl : lk.length = 6) : (l2F n nr pl lk sz).length = 6 := by
  unfold l2F; exact si_len (k2_len hl)
def z6 : List Int32 := [0, 0, 0, 0, 0, 0]
def szF (lk : List Int32) : List Int32 := s1F 1 (s1F 2 (s1F 3 (s1F 4 (s1F 5 z6 lk) lk) lk) lk) lk
def cP1 (lk : List Int32) : List Int32 := p2F 1 0 z6 lk
def cK1 (lk : List Int32) : List Int32 := l2F 1 0 z6 lk (szF lk)
def cR1 (lk : List Int32) : Int32 := r2F 1 0 lk (szF lk)
def cP2 (lk : List Int32) : List Int32 := p2F 2 (cR1 lk) (cP1 lk) (cK1 lk)
def cK2 (lk : List Int32) : List Int32 := l2F 2 (cR1 lk) (cP1 lk) (cK1 lk) (szF lk)
def cR2 (lk : List Int32) : Int32 := r2F 2 (cR1 lk) (cK1 lk) (szF lk)
def cP3 (lk : List Int32) : List Int32 := p2F 3 (cR2 lk) (cP2 lk) (cK2 lk)
def cK3 (lk : List Int32) : List Int32 := l2F 3 (cR2 lk) (cP2 lk) (cK2 lk) (szF lk)
def cR3 (lk : List Int32) : Int32 := r2F 3 (cR2 lk) (cK2 lk) (szF lk)
def cP4 (lk : List Int32) : List Int32 := p2F 4 (cR3 lk) (cP3 lk) (cK3 lk)
def cK4 (lk : List Int32) : List Int32 := l2F 4 (cR3 lk) (cP3 lk) (cK3 lk) (szF lk)
def cR4 (lk : List Int32) : Int32 := r2F 4 (cR3 lk) (cK3 lk) (szF lk)
def plF (lk : List Int32) : List Int32 := p2F 5 (cR4 lk) (cP4 lk) (cK4 lk)
def pre (lk : List Int32) : Bool := decide (lk.length = 6) && (okB (gi lk 5) && (okB (gi lk 4) && (okB (gi lk 3) && (okB (gi lk 2) && (okB (gi lk 1) && (okB (gi (cK1 lk) 2) && (okB (gi (cK2 lk) 3) && (okB (gi (cK3 lk) 4) && okB (gi (cK4 lk) 5)))))))))
def reF (pl sz : List Int32) (f t : Int32) : Int32 := if gi pl f < gi pl t then 0 else if gi pl f < gi pl t + gi sz t then 1 else 0
def exF (lk : List Int32) (f t : Int32) : Int32 :=
  if f = t then 1 else if gi lk f = t then 1 else if gi lk (gi lk f) = t then 1 else if gi lk (gi lk (gi lk f)) = t then 1 else if gi lk (gi lk (gi lk (gi lk f))) = t then 1 else 0
def chk (lk : List Int32) (f t : Int32) : Bool := okB f && (okB t && (okB (gi lk f) && (okB (gi lk (gi lk f)) && (okB (gi lk (gi lk (gi lk f))) && decide (reF (plF lk) (szF lk) f t = exF lk f t)))))
def LK (a b c d : Nat) : List Int32 := [0, 0, Int32.ofNat a, Int32.ofNat b, Int32.ofNat c, Int32.ofNat d]
set_option maxRecDepth 100000 in
theorem big : ∀ (a : Fin 2) (b : Fin 3) (c : Fin 4) (d : Fin 5), pre (LK a b c d) = true ∧ ∀ (f t : Fin 5), chk (LK a b c d) (Int32.ofNat (f.val + 1)) (Int32.ofNat (t.val + 1)) = true := by decide +kernel
theorem own_mod {x r : Int32} (k : Int32) (d : Nat) (hk : k.toInt = d) (hd : 0 < d) (h : (x &&& (2147483647 : Int32)) % k = r) : ∃ i : Nat, i < d ∧ r = Int32.ofNat i ∧ r.toInt = i := by
  have h1 := c_mask x 2147483647 31 (by decide) (by decide)
  have h2 := (c_iremV (x &&& 2147483647) k).1
  rw [h, hk] at h2
  have h3 := h2 (by omega) (by omega)
  have r1 := rng32 r
  exact ⟨r.toInt.toNat, by omega, Int32.toInt_inj.mp (by rw [Int32.toInt_ofNat_of_lt (by omega)]; omega), by omega⟩
theorem own_mod1 {x r q : Int32} (hq : (x &&& (2147483647 : Int32)) % (5 : Int32) = q) (h : q + (1 : Int32) = r) : ∃ i : Nat, i < 5 ∧ r = Int32.ofNat (i + 1) := by
  obtain ⟨i, hi, e, e'⟩ := own_mod 5 5 (by decide) (by decide) hq
  refine ⟨i, hi, ?_⟩
  have h1 := c_iadd q 1
  have e1 : (1 : Int32).toInt = 1 := by decide
  rw [h] at h1
  have r1 := rng32 r
  exact Int32.toInt_inj.mp (by rw [Int32.toInt_ofNat_of_lt (by omega)]; omega)
theorem own_and {a b : Bool} (h : (a && b) = true) : a = true ∧ b = true := by simpa using h
theorem pd0 : parseMethodDescriptor "([I)V" = some ⟨[(.array .int)], none⟩ := by decide +kernel
theorem pd1 : parseMethodDescriptor "()V" = some ⟨[], none⟩ := by decide +kernel
theorem pd2 : parseMethodDescriptor "(II)Z" = some ⟨[.int, .int], (some .boolean)⟩ := by decide +kernel
theorem pd3 : parseMethodDescriptor "(IIIIII)Z" = some ⟨[.int, .int, .int, .int, .int, .int], (some .boolean)⟩ := by decide +kernel
theorem d1_0 : decode prog_90_method_1_code 0 = .ok (.aload_n 0, 1) := by decide +kernel
theorem d1_1 : decode prog_90_method_1_code 1 = .ok (.invokespecial 1, 3) := by decide +kernel
theorem d1_4 : decode prog_90_method_1_code 4 = .ok (.aload_n 0, 1) := by decide +kernel
theorem d1_5 : decode prog_90_method_1_code 5 = .ok (.aload_n 1, 1) := by decide +kernel
theorem d1_6 : decode prog_90_method_1_code 6 = .ok (.arraylength, 1) := by decide +kernel
theorem d1_7 : decode prog_90_method_1_code 7 = .ok (.newarray .int, 2) := by decide +kernel
theorem d1_9 : decode prog_90_method_1_code 9 = .ok (.putfield 7, 3) := by decide +kernel
theorem d1_12 : decode prog_90_method_1_code 12 = .ok (.aload_n 0, 1) := by decide +kernel
theorem d1_13 : decode prog_90_method_1_code 13 = .ok (.aload_n 1, 1) := by decide +kernel
theorem d1_14 : decode prog_90_method_1_code 14 = .ok (.arraylength, 1) := by decide +kernel
theorem d1_15 : decode prog_90_method_1_code 15 = .ok (.newarray .int, 2) := by decide +kernel
theorem d1_17 : decode prog_90_method_1_code 17 = .ok (.putfield 13, 3) := by decide +kernel
theorem d1_20 : decode prog_90_method_1_code 20 = .ok (.aload_n 1, 1) := by decide +kernel
theorem d1_21 : decode prog_90_method_1_code 21 = .ok (.arraylength, 1) := by decide +kernel
theorem d1_22 : decode prog_90_method_1_code 22 = .ok (.iconst 1, 1) := by decide +kernel
theorem d1_23 : decode prog_90_method_1_code 23 = .ok (.isub, 1) := by decide +kernel
theorem d1_24 : decode prog_90_method_1_code 24 = .ok (.istore_n 2, 1) := by decide +kernel
theorem d1_25 : decode prog_90_method_1_code 25 = .ok (.iload_n 2, 1) := by decide +kernel
theorem d1_26 : decode prog_90_method_1_code 26 = .ok (.iconst 1, 1) := by decide +kernel
theorem d1_27 : decode prog_90_method_1_code 27 = .ok (.if_icmp .lt 42, 3) := by decide +kernel
theorem d1_30 : decode prog_90_method_1_code 30 = .ok (.aload_n 0, 1) := by decide +kernel
theorem d1_31 : decode prog_90_method_1_code 31 = .ok (.getfield 13, 3) := by decide +kernel
theorem d1_34 : decode prog_90_method_1_code 34 = .ok (.iload_n 2, 1) := by decide +kernel
theorem d1_35 : decode prog_90_method_1_code 35 = .ok (.dup2, 1) := by decide +kernel
theorem d1_36 : decode prog_90_method_1_code 36 = .ok (.iaload, 1) := by decide +kernel
theorem d1_37 : decode prog_90_method_1_code 37 = .ok (.iconst 1, 1) := by decide +kernel
theorem d1_38 : decode prog_90_method_1_code 38 = .ok (.iadd, 1) := by decide +kernel
theorem d1_39 : decode prog_90_method_1_code 39 = .ok (.iastore, 1) := by decide +kernel
theorem d1_40 : decode prog_90_method_1_code 40 = .ok (.aload_n 1, 1) := by decide +kernel
theorem d1_41 : decode prog_90_method_1_code 41 = .ok (.iload_n 2, 1) := by decide +kernel
theorem d1_42 : decode prog_90_method_1_code 42 = .ok (.iaload, 1) := by decide +kernel
theorem d1_43 : decode prog_90_method_1_code 43 = .ok (.ifCond .eq 20, 3) := by decide +kernel
theorem d1_46 : decode prog_90_method_1_code 46 = .ok (.aload_n 0, 1) := by decide +kernel
theorem d1_47 : decode prog_90_method_1_code 47 = .ok (.getfield 13, 3) := by decide +kernel
theorem d1_50 : decode prog_90_method_1_code 50 = .ok (.aload_n 1, 1) := by decide +kernel
theorem d1_51 : decode prog_90_method_1_code 51 = .ok (.iload_n 2, 1) := by decide +kernel
theorem d1_52 : decode prog_90_method_1_code 52 = .ok (.iaload, 1) := by decide +kernel
theorem d1_53 : decode prog_90_method_1_code 53 = .ok (.dup2, 1) := by decide +kernel
theorem d1_54 : decode prog_90_method_1_code 54 = .ok (.iaload, 1) := by decide +kernel
theorem d1_55 : decode prog_90_method_1_code 55 = .ok (.aload_n 0, 1) := by decide +kernel
theorem d1_56 : decode prog_90_method_1_code 56 = .ok (.getfield 13, 3) := by decide +kernel
theorem d1_59 : decode prog_90_method_1_code 59 = .ok (.iload_n 2, 1) := by decide +kernel
theorem d1_60 : decode prog_90_method_1_code 60 = .ok (.iaload, 1) := by decide +kernel
theorem d1_61 : decode prog_90_method_1_code 61 = .ok (.iadd, 1) := by decide +kernel
theorem d1_62 : decode prog_90_method_1_code 62 = .ok (.iastore, 1) := by decide +kernel
theorem d1_63 : decode prog_90_method_1_code 63 = .ok (.iinc 2 (-1), 3) := by decide +kernel
theorem d1_66 : decode prog_90_method_1_code 66 = .ok (.goto (-41), 3) := by decide +kernel
theorem d1_69 : decode prog_90_method_1_code 69 = .ok (.iconst 0, 1) := by decide +kernel
theorem d1_70 : decode prog_90_method_1_code 70 = .ok (.istore_n 2, 1) := by decide +kernel
theorem d1_71 : decode prog_90_method_1_code 71 = .ok (.iconst 1, 1) := by decide +kernel
theorem d1_72 : decode prog_90_method_1_code 72 = .ok (.istore_n 3, 1) := by decide +kernel
theorem d1_73 : decode prog_90_method_1_code 73 = .ok (.iload_n 3, 1) := by decide +kernel
theorem d1_74 : decode prog_90_method_1_code 74 = .ok (.aload_n 1, 1) := by decide +kernel
theorem d1_75 : decode prog_90_method_1_code 75 = .ok (.arraylength, 1) := by decide +kernel
theorem d1_76 : decode prog_90_method_1_code 76 = .ok (.if_icmp .ge 72, 3) := by decide +kernel
theorem d1_79 : decode prog_90_method_1_code 79 = .ok (.aload_n 1, 1) := by decide +kernel
theorem d1_80 : decode prog_90_method_1_code 80 = .ok (.iload_n 3, 1) := by decide +kernel
theorem d1_81 : decode prog_90_method_1_code 81 = .ok (.iaload, 1) := by decide +kernel
theorem d1_82 : decode prog_90_method_1_code 82 = .ok (.istore 4, 2) := by decide +kernel
theorem d1_84 : decode prog_90_method_1_code 84 = .ok (.iload 4, 2) := by decide +kernel
theorem d1_86 : decode prog_90_method_1_code 86 = .ok (.ifCond .ne 22, 3) := by decide +kernel
theorem d1_89 : decode prog_90_method_1_code 89 = .ok (.aload_n 0, 1) := by decide +kernel
theorem d1_90 : decode prog_90_method_1_code 90 = .ok (.getfield 7, 3) := by decide +kernel
theorem d1_93 : decode prog_90_method_1_code 93 = .ok (.iload_n 3, 1) := by decide +kernel
theorem d1_94 : decode prog_90_method_1_code 94 = .ok (.iload_n 2, 1) := by decide +kernel
theorem d1_95 : decode prog_90_method_1_code 95 = .ok (.iastore, 1) := by decide +kernel
theorem d1_96 : decode prog_90_method_1_code 96 = .ok (.iload_n 2, 1) := by decide +kernel
theorem d1_97 : decode prog_90_method_1_code 97 = .ok (.aload_n 0, 1) := by decide +kernel
theorem d1_98 : decode prog_90_method_1_code 98 = .ok (.getfield 13, 3) := by decide +kernel
theorem d1_101 : decode prog_90_method_1_code 101 = .ok (.iload_n 3, 1) := by decide +kernel
theorem d1_102 : decode prog_90_method_1_code 102 = .ok (.iaload, 1) := by decide +kernel
theorem d1_103 : decode prog_90_method_1_code 103 = .ok (.iadd, 1) := by decide +kernel
theorem d1_104 : decode prog_90_method_1_code 104 = .ok (.istore_n 2, 1) := by decide +kernel
theorem d1_105 : decode prog_90_method_1_code 105 = .ok (.goto 26, 3) := by decide +kernel
theorem d1_108 : decode prog_90_method_1_code 108 = .ok (.aload_n 0, 1) := by decide +kernel
theorem d1_109 : decode prog_90_method_1_code 109 = .ok (.getfield 7, 3) := by decide +kernel
theorem d1_112 : decode prog_90_method_1_code 112 = .ok (.iload_n 3, 1) := by decide +kernel
theorem d1_113 : decode prog_90_method_1_code 113 = .ok (.aload_n 1, 1) := by decide +kernel
theorem d1_114 : decode prog_90_method_1_code 114 = .ok (.iload 4, 2) := by decide +kernel
theorem d1_116 : decode prog_90_method_1_code 116 = .ok (.iaload, 1) := by decide +kernel
theorem d1_117 : decode prog_90_method_1_code 117 = .ok (.iastore, 1) := by decide +kernel
theorem d1_118 : decode prog_90_method_1_code 118 = .ok (.aload_n 1, 1) := by decide +kernel
theorem d1_119 : decode prog_90_method_1_code 119 = .ok (.iload 4, 2) := by decide +kernel
theorem d1_121 : decode prog_90_method_1_code 121 = .ok (.dup2, 1) := by decide +kernel
theorem d1_122 : decode prog_90_method_1_code 122 = .ok (.iaload, 1) := by decide +kernel
theorem d1_123 : decode prog_90_method_1_code 123 = .ok (.aload_n 0, 1) := by decide +kernel
theorem d1_124 : decode prog_90_method_1_code 124 = .ok (.getfield 13, 3) := by decide +kernel
theorem d1_127 : decode prog_90_method_1_code 127 = .ok (.iload_n 3, 1) := by decide +kernel
theorem d1_128 : decode prog_90_method_1_code 128 = .ok (.iaload, 1) := by decide +kernel
theorem d1_129 : decode prog_90_method_1_code 129 = .ok (.iadd, 1) := by decide +kernel
theorem d1_130 : decode prog_90_method_1_code 130 = .ok (.iastore, 1) := by decide +kernel
theorem d1_131 : decode prog_90_method_1_code 131 = .ok (.aload_n 1, 1) := by decide +kernel
theorem d1_132 : decode prog_90_method_1_code 132 = .ok (.iload_n 3, 1) := by decide +kernel
theorem d1_133 : decode prog_90_method_1_code 133 = .ok (.aload_n 0, 1) := by decide +kernel
theorem d1_134 : decode prog_90_method_1_code 134 = .ok (.getfield 7, 3) := by decide +kernel
theorem d1_137 : decode prog_90_method_1_code 137 = .ok (.iload_n 3, 1) := by decide +kernel
theorem d1_138 : decode prog_90_method_1_code 138 = .ok (.iaload, 1) := by decide +kernel
theorem d1_139 : decode prog_90_method_1_code 139 = .ok (.iconst 1, 1) := by decide +kernel
theorem d1_140 : decode prog_90_method_1_code 140 = .ok (.iadd, 1) := by decide +kernel
theorem d1_141 : decode prog_90_method_1_code 141 = .ok (.iastore, 1) := by decide +kernel
theorem d1_142 : decode prog_90_method_1_code 142 = .ok (.iinc 3 1, 3) := by decide +kernel
theorem d1_145 : decode prog_90_method_1_code 145 = .ok (.goto (-72), 3) := by decide +kernel
theorem d1_148 : decode prog_90_method_1_code 148 = .ok (.return_, 1) := by decide +kernel
set_option maxRecDepth 65536 in
set_option maxHeartbeats 40000000 in
theorem t1 {p : Program} {l : Launch} {e : Env} {s : State} {m : MethodId} {args : Array Value} {below : List Frame} {meth : Method} {c : Code} {Q : Option Value → Heap → List Loc → Prop} {Z : State} {a0 : Array Value} (hw : ∀ d ∈ tables_1, d.before a0 Z = true) (hx : p.tables.exec = Jvm.exec) (hby : c.code = prog_90_method_1_code) (hml : c.maxLocals = 5) (hown : s.vm.findClass "com/example/log_into_queues/logintoqueues/service/KeyIndexChains" = some m.cls) (hnm : meth.name = "<init>") (hlk : meth.locks = false) (hret : meth.sig.returnType = none) (hZ : Z.Warmed39 s.vm) (n0 : Nat) (a la pa sa : Addr) (nas : a ≠ sa) (nap : a ≠ pa) (nal : a ≠ la) (nls : la ≠ sa) (nlp : la ≠ pa) (nps : pa ≠ sa) (ga : n0 ≤ a) (gl : n0 ≤ la) (gp : n0 ≤ pa) (gs : n0 ≤ sa) (hS : Heap) (kp : hS.size ≤ pa) (ks : hS.size ≤ sa) (lk sz pl : List Int32) (hlk6 : lk.length = 6) (hsz6 : sz.length = 6) (hpl6 : pl.length = 6) (n n' : Int32) (hn : ¬ n < (1 : Int32)) (hn' : n + (-1 : Int32) = n') (on : okB n = true) (ok : okB (gi lk n) = true) {T : State} {locs : List Loc} {h0 : Heap} (Z0 : n0 ≤ h0.size) (X0 : Stand p l e ({ frames := 1, cells := 2, slots := 12, locals := 12 } : Room) s m args below meth c T locs 2 12) (e0 : T.heap = h0) (N0 : Fr n0 locs) (K0 : Keep hS h0 [a, la]) (E0 : Exa Z h0 a "com/example/log_into_queues/logintoqueues/service/KeyIndexChains") (Fp : Fld Z h0 a "com/example/log_into_queues/logintoqueues/service/KeyIndexChains" "place" "[I" (.ref pa)) (Fs : Fld Z h0 a "com/example/log_into_queues/logintoqueues/service/KeyIndexChains" "size" "[I" (.ref sa)) (Al : Arl Z h0 la .int (List.map Value.int lk)) (As : Arl Z h0 sa .int (List.map Value.int sz)) (Ap : Arl Z h0 pa .int (List.map Value.int pl))
    (hk : ∀ (T' : State) (locs' : List Loc) (h' : Heap) (Z0' : n0 ≤ h'.size) (X0' : Stand p l e ({ frames := 1, cells := 2, slots := 12, locals := 12 } : Room) s m args below meth c T' locs' 2 12) (e0' : T'.heap = h') (N0' : Fr n0 locs') (K0' : Keep hS h' [a, la]) (E0' : Exa Z h' a "com/example/log_into_queues/logintoqueues/service/KeyIndexChains") (Fp' : Fld Z h' a "com/example/log_into_queues/logintoqueues/service/KeyIndexChains" "place" "[I" (.ref pa)) (Fs' : Fld Z h' a "com/example/log_into_queues/logintoqueues/service/KeyIndexChains" "size" "[I" (.ref sa)) (Al' : Arl Z h' la .int (List.map Value.int lk)) (As' : Arl Z h' sa .int (List.map Value.int (s1F n sz lk))) (Ap' : Arl Z h' pa .int (List.map Value.int pl)), Goes p e below s Q 2 12 (T'.setTop (mkF m 25 #[.val (.ref a), .val (.ref la), .val (.int n'), .unset, .unset] []))) :
    Goes p e below s Q 2 12 (T.setTop (mkF m 25 #[.val (.ref a), .val (.ref la), .val (.int n), .unset, .unset] [])) := by
  show Goes _ _ _ _ _ _ _ (T.setTop (mkF m 25 #[.val (.ref a), .val (.ref la), .val (.int n), .unset, .unset] []))
  refine Goes.go (fun _ kk => XS.iloadN X0.here hx rfl (hb hby d1_25) rfl kk) ?_
  show Goes _ _ _ _ _ _ _ (T.setTop (mkF m 26 _ [(.int n)]))
  refine Goes.go (fun _ kk => XS.iconst X0.here hx rfl (hb hby d1_26) kk) ?_
  show Goes _ _ _ _ _ _ _ (T.setTop (mkF m 27 _ [(.int (1 : Int32)), (.int n)]))
  refine Goes.go (fun _ kk => XS.icmpNo X0.here hx rfl (hb hby d1_27) rfl (XT.ii_lt_f hn) kk) ?_
  show Goes _ _ _ _ _ _ _ (T.setTop (mkF m 30 _ []))
  refine Goes.go (fun _ kk => XS.aloadN X0.here hx rfl (hb hby d1_30) rfl rfl kk) ?_
  show Goes _ _ _ _ _ _ _ (T.setTop (mkF m 31 _ [(.ref a)]))
  obtain ⟨T1, X1, e1, st1⟩ := getF X0 hx hZ hown (host := "") (Or.inl (hw _ (List.mem_of_getElem? (i := 13) rfl))) Via.refl e0 Fs (g := (mkF m 31 #[.val (.ref a), .val (.ref la), .val (.int n), .unset, .unset] [(.ref a)])) rfl rfl (hb hby d1_31)
  refine Goes.go (st1) ?_
  show Goes _ _ _ _ _ _ _ (T1.setTop (mkF m 34 _ [(.ref sa)]))
  refine Goes.go (fun _ kk => XS.iloadN X1.here hx rfl (hb hby d1_34) rfl kk) ?_
  show Goes _ _ _ _ _ _ _ (T1.setTop (mkF m 35 _ [(.int n), (.ref sa)]))
  refine Goes.go (fun _ kk => XT.dup2 X1.here hx rfl (hb hby d1_35) rfl rfl rfl kk) ?_
  show Goes _ _ _ _ _ _ _ (T1.setTop (mkF m 36 _ [(.int n), (.ref sa), (.int n), (.ref sa)]))
  refine Goes.go (own_ldI X1 hx hZ e1 As (j := n) (v := (.int (gi sz n))) (okB_0 on) (own_ati (gi_at hsz6 on)) rfl rfl (hb hby d1_36)) ?_
  show Goes _ _ _ _ _ _ _ (T1.setTop (mkF m 37 _ [(.int (gi sz n)), (.int n), (.ref sa)]))
  refine Goes.go (fun _ kk => XS.iconst X1.here hx rfl (hb hby d1_37) kk) ?_
  show Goes _ _ _ _ _ _ _ (T1.setTop (mkF m 38 _ [(.int (1 : Int32)), (.int (gi sz n)), (.int n), (.ref sa)]))
  refine Goes.go (fun _ kk => XS.iadd X1.here hx rfl (hb hby d1_38) rfl kk) ?_
  show Goes _ _ _ _ _ _ _ (T1.setTop (mkF m 39 _ [(.int ((gi sz n) + (1 : Int32))), (.int n), (.ref sa)]))
  obtain ⟨T2, h2, X2, e2, W2, A2, st2⟩ := own_stI X1 hx hZ e1 As (j := n) (x := ((gi sz n) + (1 : Int32))) (okB_0 on) (own_lni hsz6 (okB_1 on)) (g := (mkF m 39 #[.val (.ref a), .val (.ref la), .val (.int n), .unset, .unset] [(.int ((gi sz n) + (1 : Int32))), (.int n), (.ref sa)])) rfl rfl (hb hby d1_39)
  have N2 := Fr.snoc X2 N0 gs
  have f := Exa.wr W2 E0
  have f_1 := Fld.other W2 Fp (Or.inl nas)
  have f_2 := Fld.other W2 Fs (Or.inl nas)
  have f_3 := Arl.other Al W2 nls
  have f_4 := Arl.other Ap W2 nps
  have K2 := K0.wr W2 (Or.inr ks)
  have Z2 : n0 ≤ h2.size := by rw [W2.size]; exact Z0
  have f_5 := own_sti A2
  refine Goes.go (st2) ?_
  show Goes _ _ _ _ _ _ _ (T2.setTop (mkF m 40 _ []))
  refine Goes.go (fun _ kk => XS.aloadN X2.here hx rfl (hb hby d1_40) rfl rfl kk) ?_
  show Goes _ _ _ _ _ _ _ (T2.setTop (mkF m 41 _ [(.ref la)]))
  refine Goes.go (fun _ kk => XS.iloadN X2.here hx rfl (hb hby d1_41) rfl kk) ?_
  show Goes _ _ _ _ _ _ _ (T2.setTop (mkF m 42 _ [(.int n), (.ref la)]))
  refine Goes.go (own_ldI X2 hx hZ e2 f_3 (j := n) (v := (.int (gi lk n))) (okB_0 on) (own_ati (gi_at hlk6 on)) rfl rfl (hb hby d1_42)) ?_
  show Goes _ _ _ _ _ _ _ (T2.setTop (mkF m 43 _ [(.int (gi lk n))]))
  by_cases c43 : (gi lk n) = 0
  · skip
    refine Goes.go (fun _ kk => XS.ifYes X2.here hx rfl (pc0 := 43) (pc' := 63) rfl (hb hby d1_43) rfl (XT.i0_eq_t c43) (by decide) (by decide) kk) ?_
    show Goes _ _ _ _ _ _ _ (T2.setTop (mkF m 63 _ []))
    refine Goes.go (fun _ kk => XT.iincV X2.here hx rfl (-1 : Int32) (hb hby d1_63) rfl rfl (l' := #[.val (.ref a), .val (.ref la), .val (.int (n + (-1 : Int32))), .unset, .unset]) rfl kk) ?_
    show Goes _ _ _ _ _ _ _ (T2.setTop (mkF m 66 #[.val (.ref a), .val (.ref la), .val (.int (n + (-1 : Int32))), .unset, .unset] []))
    refine Goes.go (fun _ kk => XS.goto X2.here hx rfl (pc0 := 66) (pc' := 25) rfl (hb hby d1_66) (by decide) (by decide) kk) ?_
    show Goes _ _ _ _ _ _ _ (T2.setTop (mkF m 25 _ []))
    rw [hn']
    exact hk _ _ _ Z2 X2 e2 N2 K2 f f_1 f_2 f_3 (f_5.eq (by unfold s1F; rw [if_pos c43]; first | done | rfl)) f_4
  · skip
    refine Goes.go (fun _ kk => XS.ifNo X2.here hx rfl (hb hby d1_43) rfl (XT.i0_eq_f c43) kk) ?_
    show Goes _ _ _ _ _ _ _ (T2.setTop (mkF m 46 _ []))
    refine Goes.go (fun _ kk => XS.aloadN X2.here hx rfl (hb hby d1_46) rfl rfl kk) ?_
    show Goes _ _ _ _ _ _ _ (T2.setTop (mkF m 47 _ [(.ref a)]))
    obtain ⟨T3, X3, e3, st3⟩ := getF X2 hx hZ hown (host := "") (Or.inl (hw _ (List.mem_of_getElem? (i := 13) rfl))) Via.refl e2 f_2 (g := (mkF m 47 #[.val (.ref a), .val (.ref la), .val (.int n), .unset, .unset] [(.ref a)])) rfl rfl (hb hby d1_47)
    refine Goes.go (st3) ?_
    show Goes _ _ _ _ _ _ _ (T3.setTop (mkF m 50 _ [(.ref sa)]))
    refine Goes.go (fun _ kk => XS.aloadN X3.here hx rfl (hb hby d1_50) rfl rfl kk) ?_
    show Goes _ _ _ _ _ _ _ (T3.setTop (mkF m 51 _ [(.ref la), (.ref sa)]))
    refine Goes.go (fun _ kk => XS.iloadN X3.here hx rfl (hb hby d1_51) rfl kk) ?_
    show Goes _ _ _ _ _ _ _ (T3.setTop (mkF m 52 _ [(.int n), (.ref la), (.ref sa)]))
    refine Goes.go (own_ldI X3 hx hZ e3 f_3 (j := n) (v := (.int (gi lk n))) (okB_0 on) (own_ati (gi_at hlk6 on)) rfl rfl (hb hby d1_52)) ?_
    show Goes _ _ _ _ _ _ _ (T3.setTop (mkF m 53 _ [(.int (gi lk n)), (.ref sa)]))
    refine Goes.go (fun _ kk => XT.dup2 X3.here hx rfl (hb hby d1_53) rfl rfl rfl kk) ?_
    show Goes _ _ _ _ _ _ _ (T3.setTop (mkF m 54 _ [(.int (gi lk n)), (.ref sa), (.int (gi lk n)), (.ref sa)]))
    refine Goes.go (own_ldI X3 hx hZ e3 f_5 (j := (gi lk n)) (v := (.int (gi (si sz n ((gi sz n) + (1 : Int32))) (gi lk n)))) (okB_0 ok) (own_ati (gi_at (si_len hsz6) ok)) rfl rfl (hb hby d1_54)) ?_
    show Goes _ _ _ _ _ _ _ (T3.setTop (mkF m 55 _ [(.int (gi (si sz n ((gi sz n) + (1 : Int32))) (gi lk n))), (.int (gi lk n)), (.ref sa)]))
    refine Goes.go (fun _ kk => XS.aloadN X3.here hx rfl (hb hby d1_55) rfl rfl kk) ?_
    show Goes _ _ _ _ _ _ _ (T3.setTop (mkF m 56 _ [(.ref a), (.int (gi (si sz n ((gi sz n) + (1 : Int32))) (gi lk n))), (.int (gi lk n)), (.ref sa)]))
    obtain ⟨T4, X4, e4, st4⟩ := getF X3 hx hZ hown (host := "") (Or.inl (hw _ (List.mem_of_getElem? (i := 13) rfl))) Via.refl e3 f_2 (g := (mkF m 56 #[.val (.ref a), .val (.ref la), .val (.int n), .unset, .unset] [(.ref a), (.int (gi (si sz n ((gi sz n) + (1 : Int32))) (gi lk n))), (.int (gi lk n)), (.ref sa)])) rfl rfl (hb hby d1_56)
    refine Goes.go (st4) ?_
    show Goes _ _ _ _ _ _ _ (T4.setTop (mkF m 59 _ [(.ref sa), (.int (gi (si sz n ((gi sz n) + (1 : Int32))) (gi lk n))), (.int (gi lk n)), (.ref sa)]))
    refine Goes.go (fun _ kk => XS.iloadN X4.here hx rfl (hb hby d1_59) rfl kk) ?_
    show Goes _ _ _ _ _ _ _ (T4.setTop (mkF m 60 _ [(.int n), (.ref sa), (.int (gi (si sz n ((gi sz n) + (1 : Int32))) (gi lk n))), (.int (gi lk n)), (.ref sa)]))
    refine Goes.go (own_ldI X4 hx hZ e4 f_5 (j := n) (v := (.int (gi (si sz n ((gi sz n) + (1 : Int32))) n))) (okB_0 on) (own_ati (gi_at (si_len hsz6) on)) rfl rfl (hb hby d1_60)) ?_
    show Goes _ _ _ _ _ _ _ (T4.setTop (mkF m 61 _ [(.int (gi (si sz n ((gi sz n) + (1 : Int32))) n)), (.int (gi (si sz n ((gi sz n) + (1 : Int32))) (gi lk n))), (.int (gi lk n)), (.ref sa)]))
    refine Goes.go (fun _ kk => XS.iadd X4.here hx rfl (hb hby d1_61) rfl kk) ?_
    show Goes _ _ _ _ _ _ _ (T4.setTop (mkF m 62 _ [(.int ((gi (si sz n ((gi sz n) + (1 : Int32))) (gi lk n)) + (gi (si sz n ((gi sz n) + (1 : Int32))) n))), (.int (gi lk n)), (.ref sa)]))
    obtain ⟨T5, h5, X5, e5, W5, A5, st5⟩ := own_stI X4 hx hZ e4 f_5 (j := (gi lk n)) (x := ((gi (si sz n ((gi sz n) + (1 : Int32))) (gi lk n)) + (gi (si sz n ((gi sz n) + (1 : Int32))) n))) (okB_0 ok) (own_lni (si_len hsz6) (okB_1 ok)) (g := (mkF m 62 #[.val (.ref a), .val (.ref la), .val (.int n), .unset, .unset] [(.int ((gi (si sz n ((gi sz n) + (1 : Int32))) (gi lk n)) + (gi (si sz n ((gi sz n) + (1 : Int32))) n))), (.int (gi lk n)), (.ref sa)])) rfl rfl (hb hby d1_62)
    have N5 := Fr.snoc X5 N2 gs
    have f_6 := Exa.wr W5 f
    have f_7 := Fld.other W5 f_1 (Or.inl nas)
    have f_8 := Fld.other W5 f_2 (Or.inl nas)
    have f_9 := Arl.other f_3 W5 nls
    have f_10 := Arl.other f_4 W5 nps
    have K5 := K2.wr W5 (Or.inr ks)
    have Z5 : n0 ≤ h5.size := by rw [W5.size]; exact Z2
    have f_11 := own_sti A5
    refine Goes.go (st5) ?_
    show Goes _ _ _ _ _ _ _ (T5.setTop (mkF m 63 _ []))
    refine Goes.go (fun _ kk => XT.iincV X5.here hx rfl (-1 : Int32) (hb hby d1_63) rfl rfl (l' := #[.val (.ref a), .val (.ref la), .val (.int (n + (-1 : Int32))), .unset, .unset]) rfl kk) ?_
    show Goes _ _ _ _ _ _ _ (T5.setTop (mkF m 66 #[.val (.ref a), .val (.ref la), .val (.int (n + (-1 : Int32))), .unset, .unset] []))
    refine Goes.go (fun _ kk => XS.goto X5.here hx rfl (pc0 := 66) (pc' := 25) rfl (hb hby d1_66) (by decide) (by decide) kk) ?_
    show Goes _ _ _ _ _ _ _ (T5.setTop (mkF m 25 _ []))
    rw [hn']
    exact hk _ _ _ Z5 X5 e5 N5 K5 f_6 f_7 f_8 f_9 (f_11.eq (by unfold s1F; rw [if_neg c43]; first | done | rfl)) f_10
set_option maxRecDepth 65536 in
set_option maxHeartbeats 40000000 in
theorem t2 {p : Program} {l : Launch} {e : Env} {s : State} {m : MethodId} {args : Array Value} {below : List Frame} {meth : Method} {c : Code} {Q : Option Value → Heap → List Loc → Prop} {Z : State} {a0 : Array Value} (hw : ∀ d ∈ tables_1, d.before a0 Z = true) (hx : p.tables.exec = Jvm.exec) (hby : c.code = prog_90_method_1_code) (hml : c.maxLocals = 5) (hown : s.vm.findClass "com/example/log_into_queues/logintoqueues/service/KeyIndexChains" = some m.cls) (hnm : meth.name = "<init>") (hlk : meth.locks = false) (hret : meth.sig.returnType = none) (hZ : Z.Warmed39 s.vm) (n0 : Nat) (a la pa sa : Addr) (nas : a ≠ sa) (nap : a ≠ pa) (nal : a ≠ la) (nls : la ≠ sa) (nlp : la ≠ pa) (nps : pa ≠ sa) (ga : n0 ≤ a) (gl : n0 ≤ la) (gp : n0 ≤ pa) (gs : n0 ≤ sa) (hS : Heap) (kp : hS.size ≤ pa) (ks : hS.size ≤ sa) (lk sz pl : List Int32) (hlk6 : lk.length = 6) (hsz6 : sz.length = 6) (hpl6 : pl.length = 6) (n n' nr : Int32) (o4 : Slot) (q4 : One o4) (hn : n < (6 : Int32)) (hn' : n + (1 : Int32) = n') (on : okB n = true) (ok : okB (gi lk n) = true) {T : State} {locs : List Loc} {h0 : Heap} (Z0 : n0 ≤ h0.size) (X0 : Stand p l e ({ frames := 1, cells := 2, slots := 12, locals := 12 } : Room) s m args below meth c T locs 2 12) (e0 : T.heap = h0) (N0 : Fr n0 locs) (K0 : Keep hS h0 [a, la]) (E0 : Exa Z h0 a "com/example/log_into_queues/logintoqueues/service/KeyIndexChains") (Fp : Fld Z h0 a "com/example/log_into_queues/logintoqueues/service/KeyIndexChains" "place" "[I" (.ref pa)) (Fs : Fld Z h0 a "com/example/log_into_queues/logintoqueues/service/KeyIndexChains" "size" "[I" (.ref sa)) (Al : Arl Z h0 la .int (List.map Value.int lk)) (As : Arl Z h0 sa .int (List.map Value.int sz)) (Ap : Arl Z h0 pa .int (List.map Value.int pl))
    (hk : ∀ (T' : State) (locs' : List Loc) (h' : Heap) (Z0' : n0 ≤ h'.size) (X0' : Stand p l e ({ frames := 1, cells := 2, slots := 12, locals := 12 } : Room) s m args below meth c T' locs' 2 12) (e0' : T'.heap = h') (N0' : Fr n0 locs') (K0' : Keep hS h' [a, la]) (E0' : Exa Z h' a "com/example/log_into_queues/logintoqueues/service/KeyIndexChains") (Fp' : Fld Z h' a "com/example/log_into_queues/logintoqueues/service/KeyIndexChains" "place" "[I" (.ref pa)) (Fs' : Fld Z h' a "com/example/log_into_queues/logintoqueues/service/KeyIndexChains" "size" "[I" (.ref sa)) (Al' : Arl Z h' la .int (List.map Value.int (l2F n nr pl lk sz))) (As' : Arl Z h' sa .int (List.map Value.int sz)) (Ap' : Arl Z h' pa .int (List.map Value.int (p2F n nr pl lk))) (o : Slot) (q : One o), Goes p e below s Q 2 12 (T'.setTop (mkF m 73 #[.val (.ref a), .val (.ref la), .val (.int (r2F n nr lk sz)), .val (.int n'), o] []))) :
    Goes p e below s Q 2 12 (T.setTop (mkF m 73 #[.val (.ref a), .val (.ref la), .val (.int nr), .val (.int n), o4] [])) := by
  show Goes _ _ _ _ _ _ _ (T.setTop (mkF m 73 #[.val (.ref a), .val (.ref la), .val (.int nr), .val (.int n), o4] []))
  refine Goes.go (fun _ kk => XS.iloadN X0.here hx rfl (hb hby d1_73) rfl kk) ?_
  show Goes _ _ _ _ _ _ _ (T.setTop (mkF m 74 _ [(.int n)]))
  refine Goes.go (fun _ kk => XS.aloadN X0.here hx rfl (hb hby d1_74) rfl rfl kk) ?_
  show Goes _ _ _ _ _ _ _ (T.setTop (mkF m 75 _ [(.ref la), (.int n)]))
  refine Goes.go (own_len X0 hx hZ e0 Al (n := (6 : Int32)) (by rw [List.length_map, hlk6]; rfl) rfl rfl (hb hby d1_75)) ?_
  show Goes _ _ _ _ _ _ _ (T.setTop (mkF m 76 _ [(.int (6 : Int32)), (.int n)]))
  refine Goes.go (fun _ kk => XS.icmpNo X0.here hx rfl (hb hby d1_76) rfl (XT.ii_ge_f hn) kk) ?_
  show Goes _ _ _ _ _ _ _ (T.setTop (mkF m 79 _ []))
  refine Goes.go (fun _ kk => XS.aloadN X0.here hx rfl (hb hby d1_79) rfl rfl kk) ?_
  show Goes _ _ _ _ _ _ _ (T.setTop (mkF m 80 _ [(.ref la)]))
  refine Goes.go (fun _ kk => XS.iloadN X0.here hx rfl (hb hby d1_80) rfl kk) ?_
  show Goes _ _ _ _ _ _ _ (T.setTop (mkF m 81 _ [(.int n), (.ref la)]))
  refine Goes.go (own_ldI X0 hx hZ e0 Al (j := n) (v := (.int (gi lk n))) (okB_0 on) (own_ati (gi_at hlk6 on)) rfl rfl (hb hby d1_81)) ?_
  show Goes _ _ _ _ _ _ _ (T.setTop (mkF m 82 _ [(.int (gi lk n))]))
  refine Goes.go (fun _ kk => XS.istoreS X0.here hx rfl (hb hby d1_82) rfl rfl q4 kk) ?_
  show Goes _ _ _ _ _ _ _ (T.setTop (mkF m 84 #[.val (.ref a), .val (.ref la), .val (.int nr), .val (.int n), .val (.int (gi lk n))] []))
  refine Goes.go (fun _ kk => XS.iload X0.here hx rfl (hb hby d1_84) rfl kk) ?_
  show Goes _ _ _ _ _ _ _ (T.setTop (mkF m 86 _ [(.int (gi lk n))]))
  by_cases c86 : (gi lk n) = 0
  · skip
    refine Goes.go (fun _ kk => XS.ifNo X0.here hx rfl (hb hby d1_86) rfl (XT.i0_ne_f c86) kk) ?_
    show Goes _ _ _ _ _ _ _ (T.setTop (mkF m 89 _ []))
    refine Goes.go (fun _ kk => XS.aloadN X0.here hx rfl (hb hby d1_89) rfl rfl kk) ?_
    show Goes _ _ _ _ _ _ _ (T.setTop (mkF m 90 _ [(.ref a)]))
    obtain ⟨T1, X1, e1, st1⟩ := getF X0 hx hZ hown (host := "") (Or.inl (hw _ (List.mem_of_getElem? (i := 11) rfl))) Via.refl e0 Fp (g := (mkF m 90 #[.val (.ref a), .val (.ref la), .val (.int nr), .val (.int n), .val (.int (gi lk n))] [(.ref a)])) rfl rfl (hb hby d1_90)
    refine Goes.go (st1) ?_
    show Goes _ _ _ _ _ _ _ (T1.setTop (mkF m 93 _ [(.ref pa)]))
    refine Goes.go (fun _ kk => XS.iloadN X1.here hx rfl (hb hby d1_93) rfl kk) ?_
    show Goes _ _ _ _ _ _ _ (T1.setTop (mkF m 94 _ [(.int n), (.ref pa)]))
    refine Goes.go (fun _ kk => XS.iloadN X1.here hx rfl (hb hby d1_94) rfl kk) ?_
    show Goes _ _ _ _ _ _ _ (T1.setTop (mkF m 95 _ [(.int nr), (.int n), (.ref pa)]))
    obtain ⟨T2, h2, X2, e2, W2, A2, st2⟩ := own_stI X1 hx hZ e1 Ap (j := n) (x := nr) (okB_0 on) (own_lni hpl6 (okB_1 on)) (g := (mkF m 95 #[.val (.ref a), .val (.ref la), .val (.int nr), .val (.int n), .val (.int (gi lk n))] [(.int nr), (.int n), (.ref pa)])) rfl rfl (hb hby d1_95)
    have N2 := Fr.snoc X2 N0 gp
    have f := Exa.wr W2 E0
    have f_1 := Fld.other W2 Fp (Or.inl nap)
    have f_2 := Fld.other W2 Fs (Or.inl nap)
    have f_3 := Arl.other Al W2 nlp
    have f_4 := Arl.other As W2 nps.symm
    have K2 := K0.wr W2 (Or.inr kp)
    have Z2 : n0 ≤ h2.size := by rw [W2.size]; exact Z0
    have f_5 := own_sti A2
    refine Goes.go (st2) ?_
    show Goes _ _ _ _ _ _ _ (T2.setTop (mkF m 96 _ []))
    refine Goes.go (fun _ kk => XS.iloadN X2.here hx rfl (hb hby d1_96) rfl kk) ?_
    show Goes _ _ _ _ _ _ _ (T2.setTop (mkF m 97 _ [(.int nr)]))
    refine Goes.go (fun _ kk => XS.aloadN X2.here hx rfl (hb hby d1_97) rfl rfl kk) ?_
    show Goes _ _ _ _ _ _ _ (T2.setTop (mkF m 98 _ [(.ref a), (.int nr)]))
    obtain ⟨T3, X3, e3, st3⟩ := getF X2 hx hZ hown (host := "") (Or.inl (hw _ (List.mem_of_getElem? (i := 13) rfl))) Via.refl e2 f_2 (g := (mkF m 98 #[.val (.ref a), .val (.ref la), .val (.int nr), .val (.int n), .val (.int (gi lk n))] [(.ref a), (.int nr)])) rfl rfl (hb hby d1_98)
    refine Goes.go (st3) ?_
    show Goes _ _ _ _ _ _ _ (T3.setTop (mkF m 101 _ [(.ref sa), (.int nr)]))
    refine Goes.go (fun _ kk => XS.iloadN X3.here hx rfl (hb hby d1_101) rfl kk) ?_
    show Goes _ _ _ _ _ _ _ (T3.setTop (mkF m 102 _ [(.int n), (.ref sa), (.int nr)]))
    refine Goes.go (own_ldI X3 hx hZ e3 f_4 (j := n) (v := (.int (gi sz n))) (okB_0 on) (own_ati (gi_at hsz6 on)) rfl rfl (hb hby d1_102)) ?_
    show Goes _ _ _ _ _ _ _ (T3.setTop (mkF m 103 _ [(.int (gi sz n)), (.int nr)]))
    refine Goes.go (fun _ kk => XS.iadd X3.here hx rfl (hb hby d1_103) rfl kk) ?_
    show Goes _ _ _ _ _ _ _ (T3.setTop (mkF m 104 _ [(.int (nr + (gi sz n)))]))
    refine Goes.go (fun _ kk => XS.istoreN X3.here hx rfl (hb hby d1_104) rfl (l' := #[.val (.ref a), .val (.ref la), .val (.int (nr + (gi sz n))), .val (.int n), .val (.int (gi lk n))]) rfl kk) ?_
    show Goes _ _ _ _ _ _ _ (T3.setTop (mkF m 105 #[.val (.ref a), .val (.ref la), .val (.int (nr + (gi sz n))), .val (.int n), .val (.int (gi lk n))] []))
    refine Goes.go (fun _ kk => XS.goto X3.here hx rfl (pc0 := 105) (pc' := 131) rfl (hb hby d1_105) (by decide) (by decide) kk) ?_
    show Goes _ _ _ _ _ _ _ (T3.setTop (mkF m 131 _ []))
    refine Goes.go (fun _ kk => XS.aloadN X3.here hx rfl (hb hby d1_131) rfl rfl kk) ?_
    show Goes _ _ _ _ _ _ _ (T3.setTop (mkF m 132 _ [(.ref la)]))
    refine Goes.go (fun _ kk => XS.iloadN X3.here hx rfl (hb hby d1_132) rfl kk) ?_
    show Goes _ _ _ _ _ _ _ (T3.setTop (mkF m 133 _ [(.int n), (.ref la)]))
    refine Goes.go (fun _ kk => XS.aloadN X3.here hx rfl (hb hby d1_133) rfl rfl kk) ?_
    show Goes _ _ _ _ _ _ _ (T3.setTop (mkF m 134 _ [(.ref a), (.int n), (.ref la)]))
    obtain ⟨T4, X4, e4, st4⟩ := getF X3 hx hZ hown (host := "") (Or.inl (hw _ (List.mem_of_getElem? (i := 11) rfl))) Via.refl e3 f_1 (g := (mkF m 134 #[.val (.ref a), .val (.ref la), .val (.int (nr + (gi sz n))), .val (.int n), .val (.int (gi lk n))] [(.ref a), (.int n), (.ref la)])) rfl rfl (hb hby d1_134)
    refine Goes.go (st4) ?_
    show Goes _ _ _ _ _ _ _ (T4.setTop (mkF m 137 _ [(.ref pa), (.int n), (.ref la)]))
    refine Goes.go (fun _ kk => XS.iloadN X4.here hx rfl (hb hby d1_137) rfl kk) ?_
    show Goes _ _ _ _ _ _ _ (T4.setTop (mkF m 138 _ [(.int n), (.ref pa), (.int n), (.ref la)]))
    refine Goes.go (own_ldI X4 hx hZ e4 f_5 (j := n) (v := (.int (gi (si pl n nr) n))) (okB_0 on) (own_ati (gi_at (si_len hpl6) on)) rfl rfl (hb hby d1_138)) ?_
    show Goes _ _ _ _ _ _ _ (T4.setTop (mkF m 139 _ [(.int (gi (si pl n nr) n)), (.int n), (.ref la)]))
    refine Goes.go (fun _ kk => XS.iconst X4.here hx rfl (hb hby d1_139) kk) ?_
    show Goes _ _ _ _ _ _ _ (T4.setTop (mkF m 140 _ [(.int (1 : Int32)), (.int (gi (si pl n nr) n)), (.int n), (.ref la)]))
    refine Goes.go (fun _ kk => XS.iadd X4.here hx rfl (hb hby d1_140) rfl kk) ?_
    show Goes _ _ _ _ _ _ _ (T4.setTop (mkF m 141 _ [(.int ((gi (si pl n nr) n) + (1 : Int32))), (.int n), (.ref la)]))
    obtain ⟨T5, h5, X5, e5, W5, A5, st5⟩ := own_stI X4 hx hZ e4 f_3 (j := n) (x := ((gi (si pl n nr) n) + (1 : Int32))) (okB_0 on) (own_lni hlk6 (okB_1 on)) (g := (mkF m 141 #[.val (.ref a), .val (.ref la), .val (.int (nr + (gi sz n))), .val (.int n), .val (.int (gi lk n))] [(.int ((gi (si pl n nr) n) + (1 : Int32))), (.int n), (.ref la)])) rfl rfl (hb hby d1_141)
    have N5 := Fr.snoc X5 N2 gl
    have f_6 := Exa.wr W5 f
    have f_7 := Fld.other W5 f_1 (Or.inl nal)
    have f_8 := Fld.other W5 f_2 (Or.inl nal)
    have f_9 := Arl.other f_4 W5 nls.symm
    have f_10 := Arl.other f_5 W5 nlp.symm
    have K5 := K2.wr W5 (Or.inl (List.mem_of_getElem? (i := 1) rfl))
    have Z5 : n0 ≤ h5.size := by rw [W5.size]; exact Z2
    have f_11 := own_sti A5
    refine Goes.go (st5) ?_
    show Goes _ _ _ _ _ _ _ (T5.setTop (mkF m 142 _ []))
    refine Goes.go (fun _ kk => XT.iincV X5.here hx rfl (1 : Int32) (hb hby d1_142) rfl rfl (l' := #[.val (.ref a), .val (.ref la), .val (.int (nr + (gi sz n))), .val (.int (n + (1 : Int32))), .val (.int (gi lk n))]) rfl kk) ?_
    show Goes _ _ _ _ _ _ _ (T5.setTop (mkF m 145 #[.val (.ref a), .val (.ref la), .val (.int (nr + (gi sz n))), .val (.int (n + (1 : Int32))), .val (.int (gi lk n))] []))
    refine Goes.go (fun _ kk => XS.goto X5.here hx rfl (pc0 := 145) (pc' := 73) rfl (hb hby d1_145) (by decide) (by decide) kk) ?_
    show Goes _ _ _ _ _ _ _ (T5.setTop (mkF m 73 _ []))
    rw [hn']
    have er : r2F n nr lk sz = nr + gi sz n := if_pos c86
    rw [← er]
    exact hk _ _ _ Z5 X5 e5 N5 K5 f_6 f_7 f_8 (f_11.eq (by unfold l2F k2F p2F; rw [if_pos c86, if_pos c86]; first | done | rfl)) f_9 (f_10.eq (by unfold p2F; rw [if_pos c86]; first | done | rfl)) _ (One.val rfl)
  · skip
    refine Goes.go (fun _ kk => XS.ifYes X0.here hx rfl (pc0 := 86) (pc' := 108) rfl (hb hby d1_86) rfl (XT.i0_ne_t c86) (by decide) (by decide) kk) ?_
    show Goes _ _ _ _ _ _ _ (T.setTop (mkF m 108 _ []))
    refine Goes.go (fun _ kk => XS.aloadN X0.here hx rfl (hb hby d1_108) rfl rfl kk) ?_
    show Goes _ _ _ _ _ _ _ (T.setTop (mkF m 109 _ [(.ref a)]))
    obtain ⟨T1, X1, e1, st1⟩ := getF X0 hx hZ hown (host := "") (Or.inl (hw _ (List.mem_of_getElem? (i := 11) rfl))) Via.refl e0 Fp (g := (mkF m 109 #[.val (.ref a), .val (.ref la), .val (.int nr), .val (.int n), .val (.int (gi lk n))] [(.ref a)])) rfl rfl (hb hby d1_109)
    refine Goes.go (st1) ?_
    show Goes _ _ _ _ _ _ _ (T1.setTop (mkF m 112 _ [(.ref pa)]))
    refine Goes.go (fun _ kk => XS.iloadN X1.here hx rfl (hb hby d1_112) rfl kk) ?_
    show Goes _ _ _ _ _ _ _ (T1.setTop (mkF m 113 _ [(.int n), (.ref pa)]))
    refine Goes.go (fun _ kk => XS.aloadN X1.here hx rfl (hb hby d1_113) rfl rfl kk) ?_
    show Goes _ _ _ _ _ _ _ (T1.setTop (mkF m 114 _ [(.ref la), (.int n), (.ref pa)]))
    refine Goes.go (fun _ kk => XS.iload X1.here hx rfl (hb hby d1_114) rfl kk) ?_
    show Goes _ _ _ _ _ _ _ (T1.setTop (mkF m 116 _ [(.int (gi lk n)), (.ref la), (.int n), (.ref pa)]))
    refine Goes.go (own_ldI X1 hx hZ e1 Al (j := (gi lk n)) (v := (.int (gi lk (gi lk n)))) (okB_0 ok) (own_ati (gi_at hlk6 ok)) rfl rfl (hb hby d1_116)) ?_
    show Goes _ _ _ _ _ _ _ (T1.setTop (mkF m 117 _ [(.int (gi lk (gi lk n))), (.int n), (.ref pa)]))
    obtain ⟨T2, h2, X2, e2, W2, A2, st2⟩ := own_stI X1 hx hZ e1 Ap (j := n) (x := (gi lk (gi lk n))) (okB_0 on) (own_lni hpl6 (okB_1 on)) (g := (mkF m 117 #[.val (.ref a), .val (.ref la), .val (.int nr), .val (.int n), .val (.int (gi lk n))] [(.int (gi lk (gi lk n))), (.int n), (.ref pa)])) rfl rfl (hb hby d1_117)
    have N2 := Fr.snoc X2 N0 gp
    have f := Exa.wr W2 E0
    have f_1 := Fld.other W2 Fp (Or.inl nap)
    have f_2 := Fld.other W2 Fs (Or.inl nap)
    have f_3 := Arl.other Al W2 nlp
    have f_4 := Arl.other As W2 nps.symm
    have K2 := K0.wr W2 (Or.inr kp)
    have Z2 : n0 ≤ h2.size := by rw [W2.size]; exact Z0
    have f_5 := own_sti A2
    refine Goes.go (st2) ?_
    show Goes _ _ _ _ _ _ _ (T2.setTop (mkF m 118 _ []))
    refine Goes.go (fun _ kk => XS.aloadN X2.here hx rfl (hb hby d1_118) rfl rfl kk) ?_
    show Goes _ _ _ _ _ _ _ (T2.setTop (mkF m 119 _ [(.ref la)]))
    refine Goes.go (fun _ kk => XS.iload X2.here hx rfl (hb hby d1_119) rfl kk) ?_
    show Goes _ _ _ _ _ _ _ (T2.setTop (mkF m 121 _ [(.int (gi lk n)), (.ref la)]))
    refine Goes.go (fun _ kk => XT.dup2 X2.here hx rfl (hb hby d1_121) rfl rfl rfl kk) ?_
    show Goes _ _ _ _ _ _ _ (T2.setTop (mkF m 122 _ [(.int (gi lk n)), (.ref la), (.int (gi lk n)), (.ref la)]))
    refine Goes.go (own_ldI X2 hx hZ e2 f_3 (j := (gi lk n)) (v := (.int (gi lk (gi lk n)))) (okB_0 ok) (own_ati (gi_at hlk6 ok)) rfl rfl (hb hby d1_122)) ?_
    show Goes _ _ _ _ _ _ _ (T2.setTop (mkF m 123 _ [(.int (gi lk (gi lk n))), (.int (gi lk n)), (.ref la)]))
    refine Goes.go (fun _ kk => XS.aloadN X2.here hx rfl (hb hby d1_123) rfl rfl kk) ?_
    show Goes _ _ _ _ _ _ _ (T2.setTop (mkF m 124 _ [(.ref a), (.int (gi lk (gi lk n))), (.int (gi lk n)), (.ref la)]))
    obtain ⟨T3, X3, e3, st3⟩ := getF X2 hx hZ hown (host := "") (Or.inl (hw _ (List.mem_of_getElem? (i := 13) rfl))) Via.refl e2 f_2 (g := (mkF m 124 #[.val (.ref a), .val (.ref la), .val (.int nr), .val (.int n), .val (.int (gi lk n))] [(.ref a), (.int (gi lk (gi lk n))), (.int (gi lk n)), (.ref la)])) rfl rfl (hb hby d1_124)
    refine Goes.go (st3) ?_
    show Goes _ _ _ _ _ _ _ (T3.setTop (mkF m 127 _ [(.ref sa), (.int (gi lk (gi lk n))), (.int (gi lk n)), (.ref la)]))
    refine Goes.go (fun _ kk => XS.iloadN X3.here hx rfl (hb hby d1_127) rfl kk) ?_
    show Goes _ _ _ _ _ _ _ (T3.setTop (mkF m 128 _ [(.int n), (.ref sa), (.int (gi lk (gi lk n))), (.int (gi lk n)), (.ref la)]))
    refine Goes.go (own_ldI X3 hx hZ e3 f_4 (j := n) (v := (.int (gi sz n))) (okB_0 on) (own_ati (gi_at hsz6 on)) rfl rfl (hb hby d1_128)) ?_
    show Goes _ _ _ _ _ _ _ (T3.setTop (mkF m 129 _ [(.int (gi sz n)), (.int (gi lk (gi lk n))), (.int (gi lk n)), (.ref la)]))
    refine Goes.go (fun _ kk => XS.iadd X3.here hx rfl (hb hby d1_129) rfl kk) ?_
    show Goes _ _ _ _ _ _ _ (T3.setTop (mkF m 130 _ [(.int ((gi lk (gi lk n)) + (gi sz n))), (.int (gi lk n)), (.ref la)]))
    obtain ⟨T4, h4, X4, e4, W4, A4, st4⟩ := own_stI X3 hx hZ e3 f_3 (j := (gi lk n)) (x := ((gi lk (gi lk n)) + (gi sz n))) (okB_0 ok) (own_lni hlk6 (okB_1 ok)) (g := (mkF m 130 #[.val (.ref a), .val (.ref la), .val (.int nr), .val (.int n), .val (.int (gi lk n))] [(.int ((gi lk (gi lk n)) + (gi sz n))), (.int (gi lk n)), (.ref la)])) rfl rfl (hb hby d1_130)
    have N4 := Fr.snoc X4 N2 gl
    have f_6 := Exa.wr W4 f
    have f_7 := Fld.other W4 f_1 (Or.inl nal)
    have f_8 := Fld.other W4 f_2 (Or.inl nal)
    have f_9 := Arl.other f_4 W4 nls.symm
    have f_10 := Arl.other f_5 W4 nlp.symm
    have K4 := K2.wr W4 (Or.inl (List.mem_of_getElem? (i := 1) rfl))
    have Z4 : n0 ≤ h4.size := by rw [W4.size]; exact Z2
    have f_11 := own_sti A4
    refine Goes.go (st4) ?_
    show Goes _ _ _ _ _ _ _ (T4.setTop (mkF m 131 _ []))
    refine Goes.go (fun _ kk => XS.aloadN X4.here hx rfl (hb hby d1_131) rfl rfl kk) ?_
    show Goes _ _ _ _ _ _ _ (T4.setTop (mkF m 132 _ [(.ref la)]))
    refine Goes.go (fun _ kk => XS.iloadN X4.here hx rfl (hb hby d1_132) rfl kk) ?_
    show Goes _ _ _ _ _ _ _ (T4.setTop (mkF m 133 _ [(.int n), (.ref la)]))
    refine Goes.go (fun _ kk => XS.aloadN X4.here hx rfl (hb hby d1_133) rfl rfl kk) ?_
    show Goes _ _ _ _ _ _ _ (T4.setTop (mkF m 134 _ [(.ref a), (.int n), (.ref la)]))
    obtain ⟨T5, X5, e5, st5⟩ := getF X4 hx hZ hown (host := "") (Or.inl (hw _ (List.mem_of_getElem? (i := 11) rfl))) Via.refl e4 f_7 (g := (mkF m 134 #[.val (.ref a), .val (.ref la), .val (.int nr), .val (.int n), .val (.int (gi lk n))] [(.ref a), (.int n), (.ref la)])) rfl rfl (hb hby d1_134)
    refine Goes.go (st5) ?_
    show Goes _ _ _ _ _ _ _ (T5.setTop (mkF m 137 _ [(.ref pa), (.int n), (.ref la)]))
    refine Goes.go (fun _ kk => XS.iloadN X5.here hx rfl (hb hby d1_137) rfl kk) ?_
    show Goes _ _ _ _ _ _ _ (T5.setTop (mkF m 138 _ [(.int n), (.ref pa), (.int n), (.ref la)]))
    refine Goes.go (own_ldI X5 hx hZ e5 f_10 (j := n) (v := (.int (gi (si pl n (gi lk (gi lk n))) n))) (okB_0 on) (own_ati (gi_at (si_len hpl6) on)) rfl rfl (hb hby d1_138)) ?_
    show Goes _ _ _ _ _ _ _ (T5.setTop (mkF m 139 _ [(.int (gi (si pl n (gi lk (gi lk n))) n)), (.int n), (.ref la)]))
    refine Goes.go (fun _ kk => XS.iconst X5.here hx rfl (hb hby d1_139) kk) ?_
    show Goes _ _ _ _ _ _ _ (T5.setTop (mkF m 140 _ [(.int (1 : Int32)), (.int (gi (si pl n (gi lk (gi lk n))) n)), (.int n), (.ref la)]))
    refine Goes.go (fun _ kk => XS.iadd X5.here hx rfl (hb hby d1_140) rfl kk) ?_
    show Goes _ _ _ _ _ _ _ (T5.setTop (mkF m 141 _ [(.int ((gi (si pl n (gi lk (gi lk n))) n) + (1 : Int32))), (.int n), (.ref la)]))
    obtain ⟨T6, h6, X6, e6, W6, A6, st6⟩ := own_stI X5 hx hZ e5 f_11 (j := n) (x := ((gi (si pl n (gi lk (gi lk n))) n) + (1 : Int32))) (okB_0 on) (own_lni (si_len hlk6) (okB_1 on)) (g := (mkF m 141 #[.val (.ref a), .val (.ref la), .val (.int nr), .val (.int n), .val (.int (gi lk n))] [(.int ((gi (si pl n (gi lk (gi lk n))) n) + (1 : Int32))), (.int n), (.ref la)])) rfl rfl (hb hby d1_141)
    have N6 := Fr.snoc X6 N4 gl
    have f_12 := Exa.wr W6 f_6
    have f_13 := Fld.other W6 f_7 (Or.inl nal)
    have f_14 := Fld.other W6 f_8 (Or.inl nal)
    have f_15 := Arl.other f_9 W6 nls.symm
    have f_16 := Arl.other f_10 W6 nlp.symm
    have K6 := K4.wr W6 (Or.inl (List.mem_of_getElem? (i := 1) rfl))
    have Z6 : n0 ≤ h6.size := by rw [W6.size]; exact Z4
    have f_17 := own_sti A6
    refine Goes.go (st6) ?_
    show Goes _ _ _ _ _ _ _ (T6.setTop (mkF m 142 _ []))
    refine Goes.go (fun _ kk => XT.iincV X6.here hx rfl (1 : Int32) (hb hby d1_142) rfl rfl (l' := #[.val (.ref a), .val (.ref la), .val (.int nr), .val (.int (n + (1 : Int32))), .val (.int (gi lk n))]) rfl kk) ?_
    show Goes _ _ _ _ _ _ _ (T6.setTop (mkF m 145 #[.val (.ref a), .val (.ref la), .val (.int nr), .val (.int (n + (1 : Int32))), .val (.int (gi lk n))] []))
    refine Goes.go (fun _ kk => XS.goto X6.here hx rfl (pc0 := 145) (pc' := 73) rfl (hb hby d1_145) (by decide) (by decide) kk) ?_
    show Goes _ _ _ _ _ _ _ (T6.setTop (mkF m 73 _ []))
    rw [hn']
    have er : r2F n nr lk sz = nr := if_neg c86
    have hk := er ▸ hk
    exact hk _ _ _ Z6 X6 e6 N6 K6 f_12 f_13 f_14 (f_17.eq (by unfold l2F k2F p2F; rw [if_neg c86, if_neg c86]; first | done | rfl)) f_15 (f_16.eq (by unfold p2F; rw [if_neg c86]; first | done | rfl)) _ (One.val rfl)
theorem pn0 : plainName "com/example/log_into_queues/logintoqueues/service/KeyIndexChains" = true := by first | (simp [plainName, overriddenIn]; done) | decide +kernel
theorem ef_rm1 (m : MethodId) (a : Addr) (la : Addr) : entryFrame m #[(.ref a), (.ref la)] 5 = mkF m 0 #[.val (.ref a), .val (.ref la), .unset, .unset, .unset] [] := by first | (simp [entryFrame, mkF, argsToLocals, Value.category]; done) | rfl
def Q_rm1 (Z : State) (a : Addr) (la : Addr) (lk : List Int32) (h0 : Heap) (n0 : Nat) (v : Option Value) (h : Heap) (L : List Loc) : Prop := v = none ∧ Fr n0 L ∧ Keep h0 h [a, la] ∧ Exa Z h a "com/example/log_into_queues/logintoqueues/service/KeyIndexChains" ∧ ∃ pa sa : Addr, Fld Z h a "com/example/log_into_queues/logintoqueues/service/KeyIndexChains" "place" "[I" (.ref pa) ∧ Fld Z h a "com/example/log_into_queues/logintoqueues/service/KeyIndexChains" "size" "[I" (.ref sa) ∧ Arl Z h sa .int (List.map Value.int (szF lk)) ∧ Arl Z h pa .int (List.map Value.int (plF lk))
set_option maxRecDepth 65536 in
set_option maxHeartbeats 40000000 in
theorem rm1 (l : Launch) (Z : State) (a0 : Array Value) (hw : ∀ d ∈ tables_1, d.before a0 Z = true) (ws : List Jvm.Cond) (a : Addr) (la : Addr) (lk : List Int32) (h0 : Heap) (n0 : Nat) (Z0 : n0 ≤ h0.size) (E0 : Exa Z h0 a "com/example/log_into_queues/logintoqueues/service/KeyIndexChains") (F_place : Fld Z h0 a "com/example/log_into_queues/logintoqueues/service/KeyIndexChains" "place" "[I" .null) (F_size : Fld Z h0 a "com/example/log_into_queues/logintoqueues/service/KeyIndexChains" "size" "[I" .null) (ga : n0 ≤ a) (Al : Arl Z h0 la .int (List.map Value.int lk)) (gl : n0 ≤ la) (hp : pre lk = true) :
    MetFree l (⟨"com/example/log_into_queues/logintoqueues/service/KeyIndexChains", "<init>", "([I)V"⟩ : MethodName) (head1 (Jvm.Cond.code (⟨"com/example/log_into_queues/logintoqueues/service/KeyIndexChains", "<init>", "([I)V"⟩ : MethodName) prog_90_method_1_code 5 none :: ws) ({ frames := 1, cells := 2, slots := 12, locals := 12 } : Room)) (fun aa U => aa = #[(.ref a), (.ref la)] ∧ Z.Warmed39 U.vm ∧ U.heap = h0) (fun _ _ _ _ _ => True) (fun _ U oo U' => ∃ v L, oo = .returned v ∧ Q_rm1 Z a la lk h0 n0 v U'.heap L ∧ FrameEnd U oo U' L ({ frames := 1, cells := 2, slots := 12, locals := 12 } : Room).cells ({ frames := 1, cells := 2, slots := 12, locals := 12 } : Room).slots) := by
  refine MetFree.of_bodySF (plainFor_of_name pn0) hisR ?_
  intro p e s m args below meth c s₁ Bd hml0 hP hK
  obtain ⟨rfl, hZ, hh⟩ := hP
  have hx := Bd.exec
  have hby := Bd.bytes
  have hml : c.maxLocals = 5 := hml0
  have hown : s.vm.findClass "com/example/log_into_queues/logintoqueues/service/KeyIndexChains" = some m.cls := findClass_of_methodNamed Bd.named
  have hnm := (name_of_methodNamed Bd.named Bd.method).1
  have hlk : meth.locks = false := Bd.notSynchronized
  have hret := Bd.returns
  have X0 : Stand p l e ({ frames := 1, cells := 2, slots := 12, locals := 12 } : Room) s m #[(.ref a), (.ref la)] below meth c s₁ [] 0 0 := Stand.of_body Bd
  have e0 : s₁.heap = h0 := by rw [← hh, Bd.state]; rfl
  have N0 := Fr.nil n0
  have K0 : Keep h0 h0 [a, la] := Keep.refl _ _
  show Goes p e below s (Q_rm1 Z a la lk h0 n0) ({ frames := 1, cells := 2, slots := 12, locals := 12 } : Room).cells ({ frames := 1, cells := 2, slots := 12, locals := 12 } : Room).slots _
  refine Goes.go (fun _ kk => castTop (ef_rm1 m a la) kk) ?_
  have nal := own_neA E0 (hw _ (List.mem_of_getElem? (i := 3) rfl)) Al
  have ne_a_la := nal
  unfold pre at hp
  obtain ⟨hl0, hp⟩ := own_and hp
  have hlk6 : lk.length = 6 := of_decide_eq_true hl0
  obtain ⟨ok5, hp⟩ := own_and hp
  obtain ⟨ok4, hp⟩ := own_and hp
  obtain ⟨ok3, hp⟩ := own_and hp
  obtain ⟨ok2, hp⟩ := own_and hp
  obtain ⟨ok1, hp⟩ := own_and hp
  obtain ⟨oj2, hp⟩ := own_and hp
  obtain ⟨oj3, hp⟩ := own_and hp
  obtain ⟨oj4, hp⟩ := own_and hp
  have oj5 := hp
  show Goes _ _ _ _ _ _ _ (s₁.setTop (mkF m 0 #[.val (.ref a), .val (.ref la), .unset, .unset, .unset] []))
  refine Goes.go (fun _ kk => XS.aloadN X0.here hx rfl (hb hby d1_0) rfl rfl kk) ?_
  show Goes _ _ _ _ _ _ _ (s₁.setTop (mkF m 1 _ [(.ref a)]))
  obtain ⟨T1, X1, e1, st1⟩ := initO X0 hx hZ hown (hw _ (List.mem_of_getElem? (i := 8) rfl)) (hw _ (List.mem_of_getElem? (i := 9) rfl)) (hw _ (List.mem_of_getElem? (i := 10) rfl)) e0 (g := (mkF m 1 #[.val (.ref a), .val (.ref la), .unset, .unset, .unset] [(.ref a)])) rfl (by rw [hml]; rfl) rfl (hb hby d1_1) (by decide) (W := 0) (by show 2 * 0 + _ ≤ _; exact Nat.le_of_eq rfl) (by decide)
  refine Goes.go (st1) ?_
  show Goes _ _ _ _ _ _ _ (T1.setTop (mkF m 4 _ []))
  refine Goes.go (fun _ kk => XS.aloadN X1.here hx rfl (hb hby d1_4) rfl rfl kk) ?_
  show Goes _ _ _ _ _ _ _ (T1.setTop (mkF m 5 _ [(.ref a)]))
  refine Goes.go (fun _ kk => XS.aloadN X1.here hx rfl (hb hby d1_5) rfl rfl kk) ?_
  show Goes _ _ _ _ _ _ _ (T1.setTop (mkF m 6 _ [(.ref la), (.ref a)]))
  refine Goes.go (own_len X1 hx hZ e1 Al (n := (6 : Int32)) (by rw [List.length_map, hlk6]; rfl) rfl rfl (hb hby d1_6)) ?_
  show Goes _ _ _ _ _ _ _ (T1.setTop (mkF m 7 _ [(.int (6 : Int32)), (.ref a)]))
  obtain ⟨T2, h2, X2, e2, E2, A2, st2⟩ := own_newP X1 hx hZ (aty := .int) (hw _ (List.mem_of_getElem? (i := 1) rfl)) e1 (g := (mkF m 7 #[.val (.ref a), .val (.ref la), .unset, .unset, .unset] [(.int (6 : Int32)), (.ref a)])) rfl (hb hby d1_7) rfl (n := (6 : Int32)) (by decide) (cap := 6) (by decide) (by decide) (by decide) (by decide)
  obtain ⟨ar7, gar7⟩ : ∃ z, z = h0.size := ⟨_, rfl⟩
  rw [← gar7] at A2 st2
  have ne_a_ar7 : a ≠ ar7 := by rw [gar7]; exact Nat.ne_of_lt E0.lt
  have ne_la_ar7 : la ≠ ar7 := by rw [gar7]; exact Nat.ne_of_lt Al.lt
  have f := Exa.ext E2 E0
  have f_1 := Fld.ext E2 F_place
  have f_2 := Fld.ext E2 F_size
  have f_3 := Al.ext E2
  have Z2 : n0 ≤ h2.size := Nat.le_trans Z0 E2.1
  have ge_ar7 : n0 ≤ ar7 := Nat.le_trans Z0 (Nat.le_of_eq gar7.symm)
  have f_4 : Arl Z h2 ar7 .int [(.int (0 : Int32)), (.int (0 : Int32)), (.int (0 : Int32)), (.int (0 : Int32)), (.int (0 : Int32)), (.int (0 : Int32))] := A2
  have K2 := K0.ext E2
  refine Goes.go (st2) ?_
  show Goes _ _ _ _ _ _ _ (T2.setTop (mkF m 9 _ [(.ref ar7), (.ref a)]))
  obtain ⟨T3, h3, X3, e3, W3, st3⟩ := putF X2 hx hZ hown (host := "") (Or.inl (hw _ (List.mem_of_getElem? (i := 11) rfl))) Via.refl e2 f_1 f (Or.inr ⟨(hw _ (List.mem_of_getElem? (i := 12) rfl)), rfl, hnm⟩) (hw _ (List.mem_of_getElem? (i := 3) rfl)) (ty := (.array .int)) (by decide) rfl rfl (g := (mkF m 9 #[.val (.ref a), .val (.ref la), .unset, .unset, .unset] [(.ref ar7), (.ref a)])) rfl rfl (hb hby d1_9)
  have N3 := Fr.snoc X3 N0 ga
  have f_5 := Exa.wr W3 f
  have f_6 := Fld.other W3 f_2 (Or.inr (slot_ne (Or.inr (hw _ (List.mem_of_getElem? (i := 14) rfl))) (Or.inr (hw _ (List.mem_of_getElem? (i := 12) rfl))) (by decide) (t := (.array .int)) (t' := (.array .int)) (by decide) (by decide)))
  have f_7 := Arl.other f_3 W3 ne_a_la.symm
  have f_8 := Arl.other f_4 W3 ne_a_ar7.symm
  have f_9 := Fld.same W3 f_1
  have Z3 : n0 ≤ h3.size := by rw [W3.size]; exact Z2
  have K3 := K2.wr W3 (Or.inl (List.mem_of_getElem? (i := 0) rfl))
  refine Goes.go (st3) ?_
  show Goes _ _ _ _ _ _ _ (T3.setTop (mkF m 12 _ []))
  refine Goes.go (fun _ kk => XS.aloadN X3.here hx rfl (hb hby d1_12) rfl rfl kk) ?_
  show Goes _ _ _ _ _ _ _ (T3.setTop (mkF m 13 _ [(.ref a)]))
  refine Goes.go (fun _ kk => XS.aloadN X3.here hx rfl (hb hby d1_13) rfl rfl kk) ?_
  show Goes _ _ _ _ _ _ _ (T3.setTop (mkF m 14 _ [(.ref la), (.ref a)]))
  refine Goes.go (own_len X3 hx hZ e3 f_7 (n := (6 : Int32)) (by rw [List.length_map, hlk6]; rfl) rfl rfl (hb hby d1_14)) ?_
  show Goes _ _ _ _ _ _ _ (T3.setTop (mkF m 15 _ [(.int (6 : Int32)), (.ref a)]))
  obtain ⟨T4, h4, X4, e4, E4, A4, st4⟩ := own_newP X3 hx hZ (aty := .int) (hw _ (List.mem_of_getElem? (i := 1) rfl)) e3 (g := (mkF m 15 #[.val (.ref a), .val (.ref la), .unset, .unset, .unset] [(.int (6 : Int32)), (.ref a)])) rfl (hb hby d1_15) rfl (n := (6 : Int32)) (by decide) (cap := 6) (by decide) (by decide) (by decide) (by decide)
  obtain ⟨ar15, gar15⟩ : ∃ z, z = h3.size := ⟨_, rfl⟩
  rw [← gar15] at A4 st4
  have ne_a_ar15 : a ≠ ar15 := by rw [gar15]; exact Nat.ne_of_lt f_5.lt
  have ne_la_ar15 : la ≠ ar15 := by rw [gar15]; exact Nat.ne_of_lt f_7.lt
  have ne_ar7_ar15 : ar7 ≠ ar15 := by rw [gar15]; exact Nat.ne_of_lt f_8.lt
  have f_10 := Exa.ext E4 f_5
  have f_11 := Fld.ext E4 f_9
  have f_12 := Fld.ext E4 f_6
  have f_13 := f_7.ext E4
  have f_14 := f_8.ext E4
  have Z4 : n0 ≤ h4.size := Nat.le_trans Z3 E4.1
  have ge_ar15 : n0 ≤ ar15 := Nat.le_trans Z3 (Nat.le_of_eq gar15.symm)
  have f_15 : Arl Z h4 ar15 .int [(.int (0 : Int32)), (.int (0 : Int32)), (.int (0 : Int32)), (.int (0 : Int32)), (.int (0 : Int32)), (.int (0 : Int32))] := A4
  have K4 := K3.ext E4
  refine Goes.go (st4) ?_
  show Goes _ _ _ _ _ _ _ (T4.setTop (mkF m 17 _ [(.ref ar15), (.ref a)]))
  obtain ⟨T5, h5, X5, e5, W5, st5⟩ := putF X4 hx hZ hown (host := "") (Or.inl (hw _ (List.mem_of_getElem? (i := 13) rfl))) Via.refl e4 f_12 f_10 (Or.inr ⟨(hw _ (List.mem_of_getElem? (i := 14) rfl)), rfl, hnm⟩) (hw _ (List.mem_of_getElem? (i := 3) rfl)) (ty := (.array .int)) (by decide) rfl rfl (g := (mkF m 17 #[.val (.ref a), .val (.ref la), .unset, .unset, .unset] [(.ref ar15), (.ref a)])) rfl rfl (hb hby d1_17)
  have N5 := Fr.snoc X5 N3 ga
  have f_16 := Exa.wr W5 f_10
  have f_17 := Fld.other W5 f_11 (Or.inr (slot_ne (Or.inr (hw _ (List.mem_of_getElem? (i := 12) rfl))) (Or.inr (hw _ (List.mem_of_getElem? (i := 14) rfl))) (by decide) (t := (.array .int)) (t' := (.array .int)) (by decide) (by decide)))
  have f_18 := Arl.other f_13 W5 ne_a_la.symm
  have f_19 := Arl.other f_14 W5 ne_a_ar7.symm
  have f_20 := Arl.other f_15 W5 ne_a_ar15.symm
  have f_21 := Fld.same W5 f_12
  have Z5 : n0 ≤ h5.size := by rw [W5.size]; exact Z4
  have K5 := K4.wr W5 (Or.inl (List.mem_of_getElem? (i := 0) rfl))
  refine Goes.go (st5) ?_
  show Goes _ _ _ _ _ _ _ (T5.setTop (mkF m 20 _ []))
  refine Goes.go (fun _ kk => XS.aloadN X5.here hx rfl (hb hby d1_20) rfl rfl kk) ?_
  show Goes _ _ _ _ _ _ _ (T5.setTop (mkF m 21 _ [(.ref la)]))
  refine Goes.go (own_len X5 hx hZ e5 f_18 (n := (6 : Int32)) (by rw [List.length_map, hlk6]; rfl) rfl rfl (hb hby d1_21)) ?_
  show Goes _ _ _ _ _ _ _ (T5.setTop (mkF m 22 _ [(.int (6 : Int32))]))
  refine Goes.go (fun _ kk => XS.iconst X5.here hx rfl (hb hby d1_22) kk) ?_
  show Goes _ _ _ _ _ _ _ (T5.setTop (mkF m 23 _ [(.int (1 : Int32)), (.int (6 : Int32))]))
  refine Goes.go (fun _ kk => XS.isub X5.here hx rfl (hb hby d1_23) rfl kk) ?_
  show Goes _ _ _ _ _ _ _ (T5.setTop (mkF m 24 _ [(.int (5 : Int32))]))
  refine Goes.go (fun _ kk => XS.istoreN X5.here hx rfl (hb hby d1_24) rfl (l' := #[.val (.ref a), .val (.ref la), .val (.int (5 : Int32)), .unset, .unset]) rfl kk) ?_
  show Goes _ _ _ _ _ _ _ (T5.setTop (mkF m 25 #[.val (.ref a), .val (.ref la), .val (.int (5 : Int32)), .unset, .unset] []))
  have kp : h0.size ≤ ar7 := by rw [gar7]; exact Nat.le_refl _
  have ks : h0.size ≤ ar15 := by rw [gar15]; exact K3.1
  have Ap0 : Arl Z h5 ar7 .int (List.map Value.int z6) := f_19
  have As0 : Arl Z h5 ar15 .int (List.map Value.int z6) := f_20
  refine t1 hw hx hby hml hown hnm hlk hret hZ n0 a la ar7 ar15 ne_a_ar15 ne_a_ar7 nal ne_la_ar15 ne_la_ar7 ne_ar7_ar15 ga gl ge_ar7 ge_ar15 h0 kp ks lk z6 z6 hlk6 rfl rfl (5 : Int32) (4 : Int32) (by decide) (by decide) (by decide) ok5 Z5 X5 e5 N5 K5 f_16 f_17 f_21 f_18 As0 Ap0 ?_
  intro T_5 locs_5 h_5 Z_5 X_5 e_5 N_5 K_5 E_5 Fp_5 Fs_5 Al_5 As_5 Ap_5
  have hs_5 : (s1F 5 z6 lk).length = 6 := (s1_len (n := 5) (lk := lk) rfl)
  refine t1 hw hx hby hml hown hnm hlk hret hZ n0 a la ar7 ar15 ne_a_ar15 ne_a_ar7 nal ne_la_ar15 ne_la_ar7 ne_ar7_ar15 ga gl ge_ar7 ge_ar15 h0 kp ks lk (s1F 5 z6 lk) z6 hlk6 hs_5 rfl (4 : Int32) (3 : Int32) (by decide) (by decide) (by decide) ok4 Z_5 X_5 e_5 N_5 K_5 E_5 Fp_5 Fs_5 Al_5 As_5 Ap_5 ?_
  intro T_4 locs_4 h_4 Z_4 X_4 e_4 N_4 K_4 E_4 Fp_4 Fs_4 Al_4 As_4 Ap_4
  have hs_4 : (s1F 4 (s1F 5 z6 lk) lk).length = 6 := (s1_len (n := 4) (lk := lk) hs_5)
  refine t1 hw hx hby hml hown hnm hlk hret hZ n0 a la ar7 ar15 ne_a_ar15 ne_a_ar7 nal ne_la_ar15 ne_la_ar7 ne_ar7_ar15 ga gl ge_ar7 ge_ar15 h0 kp ks lk (s1F 4 (s1F 5 z6 lk) lk) z6 hlk6 hs_4 rfl (3 : Int32) (2 : Int32) (by decide) (by decide) (by decide) ok3 Z_4 X_4 e_4 N_4 K_4 E_4 Fp_4 Fs_4 Al_4 As_4 Ap_4 ?_
  intro T_3 locs_3 h_3 Z_3 X_3 e_3 N_3 K_3 E_3 Fp_3 Fs_3 Al_3 As_3 Ap_3
  have hs_3 : (s1F 3 (s1F 4 (s1F 5 z6 lk) lk) lk).length = 6 := (s1_len (n := 3) (lk := lk) hs_4)
  refine t1 hw hx hby hml hown hnm hlk hret hZ n0 a la ar7 ar15 ne_a_ar15 ne_a_ar7 nal ne_la_ar15 ne_la_ar7 ne_ar7_ar15 ga gl ge_ar7 ge_ar15 h0 kp ks lk (s1F 3 (s1F 4 (s1F 5 z6 lk) lk) lk) z6 hlk6 hs_3 rfl (2 : Int32) (1 : Int32) (by decide) (by decide) (by decide) ok2 Z_3 X_3 e_3 N_3 K_3 E_3 Fp_3 Fs_3 Al_3 As_3 Ap_3 ?_
  intro T_2 locs_2 h_2 Z_2 X_2 e_2 N_2 K_2 E_2 Fp_2 Fs_2 Al_2 As_2 Ap_2
  have hs_2 : (s1F 2 (s1F 3 (s1F 4 (s1F 5 z6 lk) lk) lk) lk).length = 6 := (s1_len (n := 2) (lk := lk) hs_3)
  refine t1 hw hx hby hml hown hnm hlk hret hZ n0 a la ar7 ar15 ne_a_ar15 ne_a_ar7 nal ne_la_ar15 ne_la_ar7 ne_ar7_ar15 ga gl ge_ar7 ge_ar15 h0 kp ks lk (s1F 2 (s1F 3 (s1F 4 (s1F 5 z6 lk) lk) lk) lk) z6 hlk6 hs_2 rfl (1 : Int32) (0 : Int32) (by decide) (by decide) (by decide) ok1 Z_2 X_2 e_2 N_2 K_2 E_2 Fp_2 Fs_2 Al_2 As_2 Ap_2 ?_
  intro T_1 locs_1 h_1 Z_1 X_1 e_1 N_1 K_1 E_1 Fp_1 Fs_1 Al_1 As_1 Ap_1
  have hs_1 : (s1F 1 (s1F 2 (s1F 3 (s1F 4 (s1F 5 z6 lk) lk) lk) lk) lk).length = 6 := (s1_len (n := 1) (lk := lk) hs_2)
  have As_z : Arl Z h_1 ar15 .int (List.map Value.int (szF lk)) := As_1
  have hsz6 : (szF lk).length = 6 := hs_1
  show Goes _ _ _ _ _ _ _ (T_1.setTop (mkF m 25 #[.val (.ref a), .val (.ref la), .val (.int (0 : Int32)), .unset, .unset] []))
  refine Goes.go (fun _ kk => XS.iloadN X_1.here hx rfl (hb hby d1_25) rfl kk) ?_
  show Goes _ _ _ _ _ _ _ (T_1.setTop (mkF m 26 _ [(.int (0 : Int32))]))
  refine Goes.go (fun _ kk => XS.iconst X_1.here hx rfl (hb hby d1_26) kk) ?_
  show Goes _ _ _ _ _ _ _ (T_1.setTop (mkF m 27 _ [(.int (1 : Int32)), (.int (0 : Int32))]))
  refine Goes.go (fun _ kk => XS.icmpYes X_1.here hx rfl (pc0 := 27) (pc' := 69) rfl (hb hby d1_27) rfl (XT.ii_lt_t (by decide)) (by decide) (by decide) kk) ?_
  show Goes _ _ _ _ _ _ _ (T_1.setTop (mkF m 69 _ []))
  refine Goes.go (fun _ kk => XS.iconst X_1.here hx rfl (hb hby d1_69) kk) ?_
  show Goes _ _ _ _ _ _ _ (T_1.setTop (mkF m 70 _ [(.int (0 : Int32))]))
  refine Goes.go (fun _ kk => XS.istoreN X_1.here hx rfl (hb hby d1_70) rfl (l' := #[.val (.ref a), .val (.ref la), .val (.int (0 : Int32)), .unset, .unset]) rfl kk) ?_
  show Goes _ _ _ _ _ _ _ (T_1.setTop (mkF m 71 _ []))
  refine Goes.go (fun _ kk => XS.iconst X_1.here hx rfl (hb hby d1_71) kk) ?_
  show Goes _ _ _ _ _ _ _ (T_1.setTop (mkF m 72 _ [(.int (1 : Int32))]))
  refine Goes.go (fun _ kk => XS.istoreN X_1.here hx rfl (hb hby d1_72) rfl (l' := #[.val (.ref a), .val (.ref la), .val (.int (0 : Int32)), .val (.int (1 : Int32)), .unset]) rfl kk) ?_
  show Goes _ _ _ _ _ _ _ (T_1.setTop (mkF m 73 #[.val (.ref a), .val (.ref la), .val (.int (0 : Int32)), .val (.int (1 : Int32)), .unset] []))
  refine t2 hw hx hby hml hown hnm hlk hret hZ n0 a la ar7 ar15 ne_a_ar15 ne_a_ar7 nal ne_la_ar15 ne_la_ar7 ne_ar7_ar15 ga gl ge_ar7 ge_ar15 h0 kp ks lk (szF lk) z6 hlk6 hsz6 rfl (1 : Int32) (2 : Int32) (0 : Int32) .unset One.u (by decide) (by decide) (by decide) ok1 Z_1 X_1 e_1 N_1 K_1 E_1 Fp_1 Fs_1 Al_1 As_z Ap_1 ?_
  intro U_1 mocs_1 i_1 Y_1 V_1 d_1 M_1 J_1 G_1 Gp_1 Gs_1 Bl_1 Bs_1 Bp_1 o_1 q_1
  have Cl_1 : Arl Z i_1 la .int (List.map Value.int (cK1 lk)) := Bl_1
  have Cp_1 : Arl Z i_1 ar7 .int (List.map Value.int (cP1 lk)) := Bp_1
  have lK_1 : (cK1 lk).length = 6 := l2_len (n := 1) (nr := (0 : Int32)) (pl := z6) (lk := lk) (sz := szF lk) hlk6
  have lP_1 : (cP1 lk).length = 6 := p2_len (n := 1) (nr := (0 : Int32)) (pl := z6) (lk := lk) rfl
  show Goes _ _ _ _ _ _ _ (U_1.setTop (mkF m 73 #[.val (.ref a), .val (.ref la), .val (.int (cR1 lk)), .val (.int (2 : Int32)), o_1] []))
  refine t2 hw hx hby hml hown hnm hlk hret hZ n0 a la ar7 ar15 ne_a_ar15 ne_a_ar7 nal ne_la_ar15 ne_la_ar7 ne_ar7_ar15 ga gl ge_ar7 ge_ar15 h0 kp ks (cK1 lk) (szF lk) (cP1 lk) lK_1 hsz6 lP_1 (2 : Int32) (3 : Int32) (cR1 lk) o_1 q_1 (by decide) (by decide) (by decide) oj2 Y_1 V_1 d_1 M_1 J_1 G_1 Gp_1 Gs_1 Cl_1 Bs_1 Cp_1 ?_
  intro U_2 mocs_2 i_2 Y_2 V_2 d_2 M_2 J_2 G_2 Gp_2 Gs_2 Bl_2 Bs_2 Bp_2 o_2 q_2
  have Cl_2 : Arl Z i_2 la .int (List.map Value.int (cK2 lk)) := Bl_2
  have Cp_2 : Arl Z i_2 ar7 .int (List.map Value.int (cP2 lk)) := Bp_2
  have lK_2 : (cK2 lk).length = 6 := l2_len (n := 2) (nr := (cR1 lk)) (pl := (cP1 lk)) (lk := (cK1 lk)) (sz := szF lk) lK_1
  have lP_2 : (cP2 lk).length = 6 := p2_len (n := 2) (nr := (cR1 lk)) (pl := (cP1 lk)) (lk := (cK1 lk)) lP_1
  show Goes _ _ _ _ _ _ _ (U_2.setTop (mkF m 73 #[.val (.ref a), .val (.ref la), .val (.int (cR2 lk)), .val (.int (3 : Int32)), o_2] []))
  refine t2 hw hx hby hml hown hnm hlk hret hZ n0 a la ar7 ar15 ne_a_ar15 ne_a_ar7 nal ne_la_ar15 ne_la_ar7 ne_ar7_ar15 ga gl ge_ar7 ge_ar15 h0 kp ks (cK2 lk) (szF lk) (cP2 lk) lK_2 hsz6 lP_2 (3 : Int32) (4 : Int32) (cR2 lk) o_2 q_2 (by decide) (by decide) (by decide) oj3 Y_2 V_2 d_2 M_2 J_2 G_2 Gp_2 Gs_2 Cl_2 Bs_2 Cp_2 ?_
  intro U_3 mocs_3 i_3 Y_3 V_3 d_3 M_3 J_3 G_3 Gp_3 Gs_3 Bl_3 Bs_3 Bp_3 o_3 q_3
  have Cl_3 : Arl Z i_3 la .int (List.map Value.int (cK3 lk)) := Bl_3
  have Cp_3 : Arl Z i_3 ar7 .int (List.map Value.int (cP3 lk)) := Bp_3
  have lK_3 : (cK3 lk).length = 6 := l2_len (n := 3) (nr := (cR2 lk)) (pl := (cP2 lk)) (lk := (cK2 lk)) (sz := szF lk) lK_2
  have lP_3 : (cP3 lk).length = 6 := p2_len (n := 3) (nr := (cR2 lk)) (pl := (cP2 lk)) (lk := (cK2 lk)) lP_2
  show Goes _ _ _ _ _ _ _ (U_3.setTop (mkF m 73 #[.val (.ref a), .val (.ref la), .val (.int (cR3 lk)), .val (.int (4 : Int32)), o_3] []))
  refine t2 hw hx hby hml hown hnm hlk hret hZ n0 a la ar7 ar15 ne_a_ar15 ne_a_ar7 nal ne_la_ar15 ne_la_ar7 ne_ar7_ar15 ga gl ge_ar7 ge_ar15 h0 kp ks (cK3 lk) (szF lk) (cP3 lk) lK_3 hsz6 lP_3 (4 : Int32) (5 : Int32) (cR3 lk) o_3 q_3 (by decide) (by decide) (by decide) oj4 Y_3 V_3 d_3 M_3 J_3 G_3 Gp_3 Gs_3 Cl_3 Bs_3 Cp_3 ?_
  intro U_4 mocs_4 i_4 Y_4 V_4 d_4 M_4 J_4 G_4 Gp_4 Gs_4 Bl_4 Bs_4 Bp_4 o_4 q_4
  have Cl_4 : Arl Z i_4 la .int (List.map Value.int (cK4 lk)) := Bl_4
  have Cp_4 : Arl Z i_4 ar7 .int (List.map Value.int (cP4 lk)) := Bp_4
  have lK_4 : (cK4 lk).length = 6 := l2_len (n := 4) (nr := (cR3 lk)) (pl := (cP3 lk)) (lk := (cK3 lk)) (sz := szF lk) lK_3
  have lP_4 : (cP4 lk).length = 6 := p2_len (n := 4) (nr := (cR3 lk)) (pl := (cP3 lk)) (lk := (cK3 lk)) lP_3
  show Goes _ _ _ _ _ _ _ (U_4.setTop (mkF m 73 #[.val (.ref a), .val (.ref la), .val (.int (cR4 lk)), .val (.int (5 : Int32)), o_4] []))
  refine t2 hw hx hby hml hown hnm hlk hret hZ n0 a la ar7 ar15 ne_a_ar15 ne_a_ar7 nal ne_la_ar15 ne_la_ar7 ne_ar7_ar15 ga gl ge_ar7 ge_ar15 h0 kp ks (cK4 lk) (szF lk) (cP4 lk) lK_4 hsz6 lP_4 (5 : Int32) (6 : Int32) (cR4 lk) o_4 q_4 (by decide) (by decide) (by decide) oj5 Y_4 V_4 d_4 M_4 J_4 G_4 Gp_4 Gs_4 Cl_4 Bs_4 Cp_4 ?_
  intro U_5 mocs_5 i_5 Y_5 V_5 d_5 M_5 J_5 G_5 Gp_5 Gs_5 Bl_5 Bs_5 Bp_5 o_5 q_5
  have Cl_5 : Arl Z i_5 la .int (List.map Value.int (l2F 5 (cR4 lk) (cP4 lk) (cK4 lk) (szF lk))) := Bl_5
  have Cp_5 : Arl Z i_5 ar7 .int (List.map Value.int (plF lk)) := Bp_5
  have lK_5 : (l2F 5 (cR4 lk) (cP4 lk) (cK4 lk) (szF lk)).length = 6 := l2_len (n := 5) (nr := (cR4 lk)) (pl := (cP4 lk)) (lk := (cK4 lk)) (sz := szF lk) lK_4
  have lP_5 : (plF lk).length = 6 := p2_len (n := 5) (nr := (cR4 lk)) (pl := (cP4 lk)) (lk := (cK4 lk)) lP_4
  show Goes _ _ _ _ _ _ _ (U_5.setTop (mkF m 73 #[.val (.ref a), .val (.ref la), .val (.int (r2F 5 (cR4 lk) (cK4 lk) (szF lk))), .val (.int (6 : Int32)), o_5] []))
  show Goes _ _ _ _ _ _ _ (U_5.setTop (mkF m 73 #[.val (.ref a), .val (.ref la), .val (.int (r2F 5 (cR4 lk) (cK4 lk) (szF lk))), .val (.int (6 : Int32)), o_5] []))
  refine Goes.go (fun _ kk => XS.iloadN V_5.here hx rfl (hb hby d1_73) rfl kk) ?_
  show Goes _ _ _ _ _ _ _ (U_5.setTop (mkF m 74 _ [(.int (6 : Int32))]))
  refine Goes.go (fun _ kk => XS.aloadN V_5.here hx rfl (hb hby d1_74) rfl rfl kk) ?_
  show Goes _ _ _ _ _ _ _ (U_5.setTop (mkF m 75 _ [(.ref la), (.int (6 : Int32))]))
  refine Goes.go (own_len V_5 hx hZ d_5 Cl_5 (n := (6 : Int32)) (by rw [List.length_map, lK_5]; rfl) rfl rfl (hb hby d1_75)) ?_
  show Goes _ _ _ _ _ _ _ (U_5.setTop (mkF m 76 _ [(.int (6 : Int32)), (.int (6 : Int32))]))
  refine Goes.go (fun _ kk => XS.icmpYes V_5.here hx rfl (pc0 := 76) (pc' := 148) rfl (hb hby d1_76) rfl (XT.ii_ge_t (by decide)) (by decide) (by decide) kk) ?_
  show Goes _ _ _ _ _ _ _ (U_5.setTop (mkF m 148 _ []))
  exact Goes.outV V_5 hx hlk hret (hb hby d1_148) d_5 ⟨rfl, M_5, J_5, G_5, _, _, Gp_5, Gs_5, Bs_5, Cp_5⟩ (by decide) (by decide)
theorem d3_0 : decode prog_90_method_2_code 0 = .ok (.aload_n 0, 1) := by decide +kernel
theorem d3_1 : decode prog_90_method_2_code 1 = .ok (.getfield 7, 3) := by decide +kernel
theorem d3_4 : decode prog_90_method_2_code 4 = .ok (.iload_n 2, 1) := by decide +kernel
theorem d3_5 : decode prog_90_method_2_code 5 = .ok (.iaload, 1) := by decide +kernel
theorem d3_6 : decode prog_90_method_2_code 6 = .ok (.aload_n 0, 1) := by decide +kernel
theorem d3_7 : decode prog_90_method_2_code 7 = .ok (.getfield 7, 3) := by decide +kernel
theorem d3_10 : decode prog_90_method_2_code 10 = .ok (.iload_n 1, 1) := by decide +kernel
theorem d3_11 : decode prog_90_method_2_code 11 = .ok (.iaload, 1) := by decide +kernel
theorem d3_12 : decode prog_90_method_2_code 12 = .ok (.if_icmp .gt 29, 3) := by decide +kernel
theorem d3_15 : decode prog_90_method_2_code 15 = .ok (.aload_n 0, 1) := by decide +kernel
theorem d3_16 : decode prog_90_method_2_code 16 = .ok (.getfield 7, 3) := by decide +kernel
theorem d3_19 : decode prog_90_method_2_code 19 = .ok (.iload_n 1, 1) := by decide +kernel
theorem d3_20 : decode prog_90_method_2_code 20 = .ok (.iaload, 1) := by decide +kernel
theorem d3_21 : decode prog_90_method_2_code 21 = .ok (.aload_n 0, 1) := by decide +kernel
theorem d3_22 : decode prog_90_method_2_code 22 = .ok (.getfield 7, 3) := by decide +kernel
theorem d3_25 : decode prog_90_method_2_code 25 = .ok (.iload_n 2, 1) := by decide +kernel
theorem d3_26 : decode prog_90_method_2_code 26 = .ok (.iaload, 1) := by decide +kernel
theorem d3_27 : decode prog_90_method_2_code 27 = .ok (.aload_n 0, 1) := by decide +kernel
theorem d3_28 : decode prog_90_method_2_code 28 = .ok (.getfield 13, 3) := by decide +kernel
theorem d3_31 : decode prog_90_method_2_code 31 = .ok (.iload_n 2, 1) := by decide +kernel
theorem d3_32 : decode prog_90_method_2_code 32 = .ok (.iaload, 1) := by decide +kernel
theorem d3_33 : decode prog_90_method_2_code 33 = .ok (.iadd, 1) := by decide +kernel
theorem d3_34 : decode prog_90_method_2_code 34 = .ok (.if_icmp .ge 7, 3) := by decide +kernel
theorem d3_37 : decode prog_90_method_2_code 37 = .ok (.iconst 1, 1) := by decide +kernel
theorem d3_38 : decode prog_90_method_2_code 38 = .ok (.goto 4, 3) := by decide +kernel
theorem d3_41 : decode prog_90_method_2_code 41 = .ok (.iconst 0, 1) := by decide +kernel
theorem d3_42 : decode prog_90_method_2_code 42 = .ok (.ireturn, 1) := by decide +kernel
theorem ef_rm2 (m : MethodId) (a : Addr) (f : Int32) (t : Int32) : entryFrame m #[(.ref a), (.int f), (.int t)] 3 = mkF m 0 #[.val (.ref a), .val (.int f), .val (.int t)] [] := by first | (simp [entryFrame, mkF, argsToLocals, Value.category]; done) | rfl
def Q_rm2 (Z : State) (a : Addr) (f : Int32) (t : Int32) (pa : Addr) (sa : Addr) (pl : List Int32) (sz : List Int32) (h0 : Heap) (n0 : Nat) (v : Option Value) (h : Heap) (L : List Loc) : Prop := v = some (.int (reF pl sz f t)) ∧ Fr n0 L ∧ h = h0
set_option maxRecDepth 65536 in
set_option maxHeartbeats 40000000 in
theorem rm2 (l : Launch) (Z : State) (a0 : Array Value) (hw : ∀ d ∈ tables_1, d.before a0 Z = true) (ws : List Jvm.Cond) (a : Addr) (f : Int32) (t : Int32) (pa : Addr) (sa : Addr) (pl : List Int32) (sz : List Int32) (h0 : Heap) (n0 : Nat) (Z0 : n0 ≤ h0.size) (Fp : Fld Z h0 a "com/example/log_into_queues/logintoqueues/service/KeyIndexChains" "place" "[I" (.ref pa)) (Fs : Fld Z h0 a "com/example/log_into_queues/logintoqueues/service/KeyIndexChains" "size" "[I" (.ref sa)) (Ap : Arl Z h0 pa .int (List.map Value.int pl)) (As : Arl Z h0 sa .int (List.map Value.int sz)) (hpl6 : pl.length = 6) (hsz6 : sz.length = 6) (okf : okB f = true) (okt : okB t = true) :
    MetFree l (⟨"com/example/log_into_queues/logintoqueues/service/KeyIndexChains", "reaches", "(II)Z"⟩ : MethodName) (head1 (Jvm.Cond.code (⟨"com/example/log_into_queues/logintoqueues/service/KeyIndexChains", "reaches", "(II)Z"⟩ : MethodName) prog_90_method_2_code 3 (some .boolean) :: ws) ({ frames := 0, cells := 0, slots := 0, locals := 0 } : Room)) (fun aa U => aa = #[(.ref a), (.int f), (.int t)] ∧ Z.Warmed39 U.vm ∧ U.heap = h0) (fun _ _ _ _ _ => True) (fun _ U oo U' => ∃ v L, oo = .returned v ∧ Q_rm2 Z a f t pa sa pl sz h0 n0 v U'.heap L ∧ FrameEnd U oo U' L ({ frames := 0, cells := 0, slots := 0, locals := 0 } : Room).cells ({ frames := 0, cells := 0, slots := 0, locals := 0 } : Room).slots) := by
  refine MetFree.of_bodySF (plainFor_of_name pn0) hisR ?_
  intro p e s m args below meth c s₁ Bd hml0 hP hK
  obtain ⟨rfl, hZ, hh⟩ := hP
  have hx := Bd.exec
  have hby := Bd.bytes
  have hml : c.maxLocals = 3 := hml0
  have hown : s.vm.findClass "com/example/log_into_queues/logintoqueues/service/KeyIndexChains" = some m.cls := findClass_of_methodNamed Bd.named
  have hnm := (name_of_methodNamed Bd.named Bd.method).1
  have hlk : meth.locks = false := Bd.notSynchronized
  have hret := Bd.returns
  have X0 : Stand p l e ({ frames := 0, cells := 0, slots := 0, locals := 0 } : Room) s m #[(.ref a), (.int f), (.int t)] below meth c s₁ [] 0 0 := Stand.of_body Bd
  have e0 : s₁.heap = h0 := by rw [← hh, Bd.state]; rfl
  have N0 := Fr.nil n0
  have K0 : Keep h0 h0 [] := Keep.refl _ _
  show Goes p e below s (Q_rm2 Z a f t pa sa pl sz h0 n0) ({ frames := 0, cells := 0, slots := 0, locals := 0 } : Room).cells ({ frames := 0, cells := 0, slots := 0, locals := 0 } : Room).slots _
  refine Goes.go (fun _ kk => castTop (ef_rm2 m a f t) kk) ?_
  show Goes _ _ _ _ _ _ _ (s₁.setTop (mkF m 0 #[.val (.ref a), .val (.int f), .val (.int t)] []))
  refine Goes.go (fun _ kk => XS.aloadN X0.here hx rfl (hb hby d3_0) rfl rfl kk) ?_
  show Goes _ _ _ _ _ _ _ (s₁.setTop (mkF m 1 _ [(.ref a)]))
  obtain ⟨T1, X1, e1, st1⟩ := getF X0 hx hZ hown (host := "") (Or.inl (hw _ (List.mem_of_getElem? (i := 11) rfl))) Via.refl e0 Fp (g := (mkF m 1 #[.val (.ref a), .val (.int f), .val (.int t)] [(.ref a)])) rfl rfl (hb hby d3_1)
  refine Goes.go (st1) ?_
  show Goes _ _ _ _ _ _ _ (T1.setTop (mkF m 4 _ [(.ref pa)]))
  refine Goes.go (fun _ kk => XS.iloadN X1.here hx rfl (hb hby d3_4) rfl kk) ?_
  show Goes _ _ _ _ _ _ _ (T1.setTop (mkF m 5 _ [(.int t), (.ref pa)]))
  refine Goes.go (own_ldI X1 hx hZ e1 Ap (j := t) (v := (.int (gi pl t))) (okB_0 okt) (own_ati (gi_at hpl6 okt)) rfl rfl (hb hby d3_5)) ?_
  show Goes _ _ _ _ _ _ _ (T1.setTop (mkF m 6 _ [(.int (gi pl t))]))
  refine Goes.go (fun _ kk => XS.aloadN X1.here hx rfl (hb hby d3_6) rfl rfl kk) ?_
  show Goes _ _ _ _ _ _ _ (T1.setTop (mkF m 7 _ [(.ref a), (.int (gi pl t))]))
  obtain ⟨T2, X2, e2, st2⟩ := getF X1 hx hZ hown (host := "") (Or.inl (hw _ (List.mem_of_getElem? (i := 11) rfl))) Via.refl e1 Fp (g := (mkF m 7 #[.val (.ref a), .val (.int f), .val (.int t)] [(.ref a), (.int (gi pl t))])) rfl rfl (hb hby d3_7)
  refine Goes.go (st2) ?_
  show Goes _ _ _ _ _ _ _ (T2.setTop (mkF m 10 _ [(.ref pa), (.int (gi pl t))]))
  refine Goes.go (fun _ kk => XS.iloadN X2.here hx rfl (hb hby d3_10) rfl kk) ?_
  show Goes _ _ _ _ _ _ _ (T2.setTop (mkF m 11 _ [(.int f), (.ref pa), (.int (gi pl t))]))
  refine Goes.go (own_ldI X2 hx hZ e2 Ap (j := f) (v := (.int (gi pl f))) (okB_0 okf) (own_ati (gi_at hpl6 okf)) rfl rfl (hb hby d3_11)) ?_
  show Goes _ _ _ _ _ _ _ (T2.setTop (mkF m 12 _ [(.int (gi pl f)), (.int (gi pl t))]))
  by_cases c12 : (gi pl f) < (gi pl t)
  · skip
    refine Goes.go (fun _ kk => XS.icmpYes X2.here hx rfl (pc0 := 12) (pc' := 41) rfl (hb hby d3_12) rfl (XT.ii_gt_t c12) (by decide) (by decide) kk) ?_
    show Goes _ _ _ _ _ _ _ (T2.setTop (mkF m 41 _ []))
    refine Goes.go (fun _ kk => XS.iconst X2.here hx rfl (hb hby d3_41) kk) ?_
    show Goes _ _ _ _ _ _ _ (T2.setTop (mkF m 42 _ [(.int (0 : Int32))]))
    exact Goes.outZ X2 hx hlk hret rfl (hb hby d3_42) e2 ⟨by unfold reF; rw [if_pos c12], N0, rfl⟩ (by decide) (by decide)
  · skip
    refine Goes.go (fun _ kk => XS.icmpNo X2.here hx rfl (hb hby d3_12) rfl (XT.ii_gt_f c12) kk) ?_
    show Goes _ _ _ _ _ _ _ (T2.setTop (mkF m 15 _ []))
    refine Goes.go (fun _ kk => XS.aloadN X2.here hx rfl (hb hby d3_15) rfl rfl kk) ?_
    show Goes _ _ _ _ _ _ _ (T2.setTop (mkF m 16 _ [(.ref a)]))
    obtain ⟨T3, X3, e3, st3⟩ := getF X2 hx hZ hown (host := "") (Or.inl (hw _ (List.mem_of_getElem? (i := 11) rfl))) Via.refl e2 Fp (g := (mkF m 16 #[.val (.ref a), .val (.int f), .val (.int t)] [(.ref a)])) rfl rfl (hb hby d3_16)
    refine Goes.go (st3) ?_
    show Goes _ _ _ _ _ _ _ (T3.setTop (mkF m 19 _ [(.ref pa)]))
    refine Goes.go (fun _ kk => XS.iloadN X3.here hx rfl (hb hby d3_19) rfl kk) ?_
    show Goes _ _ _ _ _ _ _ (T3.setTop (mkF m 20 _ [(.int f), (.ref pa)]))
    refine Goes.go (own_ldI X3 hx hZ e3 Ap (j := f) (v := (.int (gi pl f))) (okB_0 okf) (own_ati (gi_at hpl6 okf)) rfl rfl (hb hby d3_20)) ?_
    show Goes _ _ _ _ _ _ _ (T3.setTop (mkF m 21 _ [(.int (gi pl f))]))
    refine Goes.go (fun _ kk => XS.aloadN X3.here hx rfl (hb hby d3_21) rfl rfl kk) ?_
    show Goes _ _ _ _ _ _ _ (T3.setTop (mkF m 22 _ [(.ref a), (.int (gi pl f))]))
    obtain ⟨T4, X4, e4, st4⟩ := getF X3 hx hZ hown (host := "") (Or.inl (hw _ (List.mem_of_getElem? (i := 11) rfl))) Via.refl e3 Fp (g := (mkF m 22 #[.val (.ref a), .val (.int f), .val (.int t)] [(.ref a), (.int (gi pl f))])) rfl rfl (hb hby d3_22)
    refine Goes.go (st4) ?_
    show Goes _ _ _ _ _ _ _ (T4.setTop (mkF m 25 _ [(.ref pa), (.int (gi pl f))]))
    refine Goes.go (fun _ kk => XS.iloadN X4.here hx rfl (hb hby d3_25) rfl kk) ?_
    show Goes _ _ _ _ _ _ _ (T4.setTop (mkF m 26 _ [(.int t), (.ref pa), (.int (gi pl f))]))
    refine Goes.go (own_ldI X4 hx hZ e4 Ap (j := t) (v := (.int (gi pl t))) (okB_0 okt) (own_ati (gi_at hpl6 okt)) rfl rfl (hb hby d3_26)) ?_
    show Goes _ _ _ _ _ _ _ (T4.setTop (mkF m 27 _ [(.int (gi pl t)), (.int (gi pl f))]))
    refine Goes.go (fun _ kk => XS.aloadN X4.here hx rfl (hb hby d3_27) rfl rfl kk) ?_
    show Goes _ _ _ _ _ _ _ (T4.setTop (mkF m 28 _ [(.ref a), (.int (gi pl t)), (.int (gi pl f))]))
    obtain ⟨T5, X5, e5, st5⟩ := getF X4 hx hZ hown (host := "") (Or.inl (hw _ (List.mem_of_getElem? (i := 13) rfl))) Via.refl e4 Fs (g := (mkF m 28 #[.val (.ref a), .val (.int f), .val (.int t)] [(.ref a), (.int (gi pl t)), (.int (gi pl f))])) rfl rfl (hb hby d3_28)
    refine Goes.go (st5) ?_
    show Goes _ _ _ _ _ _ _ (T5.setTop (mkF m 31 _ [(.ref sa), (.int (gi pl t)), (.int (gi pl f))]))
    refine Goes.go (fun _ kk => XS.iloadN X5.here hx rfl (hb hby d3_31) rfl kk) ?_
    show Goes _ _ _ _ _ _ _ (T5.setTop (mkF m 32 _ [(.int t), (.ref sa), (.int (gi pl t)), (.int (gi pl f))]))
    refine Goes.go (own_ldI X5 hx hZ e5 As (j := t) (v := (.int (gi sz t))) (okB_0 okt) (own_ati (gi_at hsz6 okt)) rfl rfl (hb hby d3_32)) ?_
    show Goes _ _ _ _ _ _ _ (T5.setTop (mkF m 33 _ [(.int (gi sz t)), (.int (gi pl t)), (.int (gi pl f))]))
    refine Goes.go (fun _ kk => XS.iadd X5.here hx rfl (hb hby d3_33) rfl kk) ?_
    show Goes _ _ _ _ _ _ _ (T5.setTop (mkF m 34 _ [(.int ((gi pl t) + (gi sz t))), (.int (gi pl f))]))
    by_cases c34 : (gi pl f) < ((gi pl t) + (gi sz t))
    · skip
      refine Goes.go (fun _ kk => XS.icmpNo X5.here hx rfl (hb hby d3_34) rfl (XT.ii_ge_f c34) kk) ?_
      show Goes _ _ _ _ _ _ _ (T5.setTop (mkF m 37 _ []))
      refine Goes.go (fun _ kk => XS.iconst X5.here hx rfl (hb hby d3_37) kk) ?_
      show Goes _ _ _ _ _ _ _ (T5.setTop (mkF m 38 _ [(.int (1 : Int32))]))
      refine Goes.go (fun _ kk => XS.goto X5.here hx rfl (pc0 := 38) (pc' := 42) rfl (hb hby d3_38) (by decide) (by decide) kk) ?_
      show Goes _ _ _ _ _ _ _ (T5.setTop (mkF m 42 _ [(.int (1 : Int32))]))
      exact Goes.outZ X5 hx hlk hret rfl (hb hby d3_42) e5 ⟨by unfold reF; rw [if_neg c12, if_pos c34], N0, rfl⟩ (by decide) (by decide)
    · skip
      refine Goes.go (fun _ kk => XS.icmpYes X5.here hx rfl (pc0 := 34) (pc' := 41) rfl (hb hby d3_34) rfl (XT.ii_ge_t c34) (by decide) (by decide) kk) ?_
      show Goes _ _ _ _ _ _ _ (T5.setTop (mkF m 41 _ []))
      refine Goes.go (fun _ kk => XS.iconst X5.here hx rfl (hb hby d3_41) kk) ?_
      show Goes _ _ _ _ _ _ _ (T5.setTop (mkF m 42 _ [(.int (0 : Int32))]))
      exact Goes.outZ X5 hx hlk hret rfl (hb hby d3_42) e5 ⟨by unfold reF; rw [if_neg c12, if_neg c34], N0, rfl⟩ (by decide) (by decide)
theorem pn1 : plainName "com/example/log_into_queues/logintoqueues/service/KeyIndexChainsReachesPinLaw" = true := by first | (simp [plainName, overriddenIn]; done) | decide +kernel
theorem ef_rm0 (m : MethodId) (p0 : Int32) (p1 : Int32) (p2 : Int32) (p3 : Int32) (p4 : Int32) (p5 : Int32) : entryFrame m #[(.int p0), (.int p1), (.int p2), (.int p3), (.int p4), (.int p5)] maxLocals = mkF m 0 #[.val (.int p0), .val (.int p1), .val (.int p2), .val (.int p3), .val (.int p4), .val (.int p5), .unset, .unset, .unset, .unset, .unset, .unset, .unset, .unset, .unset, .unset, .unset, .unset, .unset, .unset, .unset, .unset] [] := by first | (simp [entryFrame, mkF, argsToLocals, Value.category, maxLocals]; done) | rfl
def Q_rm0 (Z : State) (p0 : Int32) (p1 : Int32) (p2 : Int32) (p3 : Int32) (p4 : Int32) (p5 : Int32) (h0 : Heap) (n0 : Nat) (v : Option Value) (h : Heap) (L : List Loc) : Prop := v = some (.int 1) ∧ Fr n0 L
set_option maxRecDepth 65536 in
set_option maxHeartbeats 40000000 in
theorem rm0 (l : Launch) (Z : State) (a0 : Array Value) (hw : ∀ d ∈ tables_1, d.before a0 Z = true) (ws : List Jvm.Cond) (p0 : Int32) (p1 : Int32) (p2 : Int32) (p3 : Int32) (p4 : Int32) (p5 : Int32) (h0 : Heap) (n0 : Nat) (Z0 : n0 ≤ h0.size)  :
    MetFree l x (head1 (Jvm.Cond.code x code maxLocals ret :: ws) room_1) (fun aa U => aa = #[(.int p0), (.int p1), (.int p2), (.int p3), (.int p4), (.int p5)] ∧ Z.Warmed39 U.vm ∧ U.heap = h0) (fun _ _ _ _ _ => True) (fun _ U oo U' => ∃ v L, oo = .returned v ∧ Q_rm0 Z p0 p1 p2 p3 p4 p5 h0 n0 v U'.heap L ∧ FrameEnd U oo U' L room_1.cells room_1.slots) := by
  refine MetFree.of_bodySF (plainFor_of_name pn1) hisR ?_
  intro p e s m args below meth c s₁ Bd hml0 hP hK
  obtain ⟨rfl, hZ, hh⟩ := hP
  have hx := Bd.exec
  have hby := Bd.bytes
  have hml : c.maxLocals = 22 := hml0
  have hown : s.vm.findClass "com/example/log_into_queues/logintoqueues/service/KeyIndexChainsReachesPinLaw" = some m.cls := findClass_of_methodNamed Bd.named
  have hnm := (name_of_methodNamed Bd.named Bd.method).1
  have hlk : meth.locks = false := Bd.notSynchronized
  have hret := Bd.returns
  have X0 : Stand p l e room_1 s m #[(.int p0), (.int p1), (.int p2), (.int p3), (.int p4), (.int p5)] below meth c s₁ [] 0 0 := Stand.of_body Bd
  have e0 : s₁.heap = h0 := by rw [← hh, Bd.state]; rfl
  have N0 := Fr.nil n0
  have K0 : Keep h0 h0 [] := Keep.refl _ _
  show Goes p e below s (Q_rm0 Z p0 p1 p2 p3 p4 p5 h0 n0) room_1.cells room_1.slots _
  refine Goes.go (fun _ kk => castTop (ef_rm0 m p0 p1 p2 p3 p4 p5) kk) ?_
  show Goes _ _ _ _ _ _ _ (s₁.setTop (mkF m 0 #[.val (.int p0), .val (.int p1), .val (.int p2), .val (.int p3), .val (.int p4), .val (.int p5), .unset, .unset, .unset, .unset, .unset, .unset, .unset, .unset, .unset, .unset, .unset, .unset, .unset, .unset, .unset, .unset] []))
  refine Goes.go (fun _ kk => XS.iloadN X0.here hx rfl (hb hby at_0) rfl kk) ?_
  show Goes _ _ _ _ _ _ _ (s₁.setTop (mkF m 1 _ [(.int p0)]))
  refine Goes.go (fun _ kk => X0.ldcI hx (v := (2147483647 : Int32)) hown (mvT hZ (hw _ (List.mem_of_getElem? (i := 0) rfl))) rfl (hb hby at_1) kk) ?_
  show Goes _ _ _ _ _ _ _ (s₁.setTop (mkF m 3 _ [(.int (2147483647 : Int32)), (.int p0)]))
  refine Goes.go (fun _ kk => XS.iand X0.here hx rfl (hb hby at_3) rfl kk) ?_
  show Goes _ _ _ _ _ _ _ (s₁.setTop (mkF m 4 _ [(.int (p0 &&& (2147483647 : Int32)))]))
  refine Goes.go (fun _ kk => XS.iconst X0.here hx rfl (hb hby at_4) kk) ?_
  show Goes _ _ _ _ _ _ _ (s₁.setTop (mkF m 5 _ [(.int (2 : Int32)), (.int (p0 &&& (2147483647 : Int32)))]))
  refine Goes.go (fun _ kk => iremM X0 hx rfl (hb hby at_5) rfl (by decide) kk) ?_
  show Goes _ _ _ _ _ _ _ (s₁.setTop (mkF m 6 _ [(.int ((p0 &&& (2147483647 : Int32)) % (2 : Int32)))]))
  generalize hv6 : ((p0 &&& (2147483647 : Int32)) % (2 : Int32)) = v6
  refine Goes.go (fun _ kk => XS.istore X0.here hx rfl (hb hby at_6) rfl (l' := #[.val (.int p0), .val (.int p1), .val (.int p2), .val (.int p3), .val (.int p4), .val (.int p5), .val (.int v6), .unset, .unset, .unset, .unset, .unset, .unset, .unset, .unset, .unset, .unset, .unset, .unset, .unset, .unset, .unset]) rfl kk) ?_
  show Goes _ _ _ _ _ _ _ (s₁.setTop (mkF m 8 #[.val (.int p0), .val (.int p1), .val (.int p2), .val (.int p3), .val (.int p4), .val (.int p5), .val (.int v6), .unset, .unset, .unset, .unset, .unset, .unset, .unset, .unset, .unset, .unset, .unset, .unset, .unset, .unset, .unset] []))
  refine Goes.go (fun _ kk => XS.iloadN X0.here hx rfl (hb hby at_8) rfl kk) ?_
  show Goes _ _ _ _ _ _ _ (s₁.setTop (mkF m 9 _ [(.int p1)]))
  refine Goes.go (fun _ kk => X0.ldcI hx (v := (2147483647 : Int32)) hown (mvT hZ (hw _ (List.mem_of_getElem? (i := 0) rfl))) rfl (hb hby at_9) kk) ?_
  show Goes _ _ _ _ _ _ _ (s₁.setTop (mkF m 11 _ [(.int (2147483647 : Int32)), (.int p1)]))
  refine Goes.go (fun _ kk => XS.iand X0.here hx rfl (hb hby at_11) rfl kk) ?_
  show Goes _ _ _ _ _ _ _ (s₁.setTop (mkF m 12 _ [(.int (p1 &&& (2147483647 : Int32)))]))
  refine Goes.go (fun _ kk => XS.iconst X0.here hx rfl (hb hby at_12) kk) ?_
  show Goes _ _ _ _ _ _ _ (s₁.setTop (mkF m 13 _ [(.int (3 : Int32)), (.int (p1 &&& (2147483647 : Int32)))]))
  refine Goes.go (fun _ kk => iremM X0 hx rfl (hb hby at_13) rfl (by decide) kk) ?_
  show Goes _ _ _ _ _ _ _ (s₁.setTop (mkF m 14 _ [(.int ((p1 &&& (2147483647 : Int32)) % (3 : Int32)))]))
  generalize hv14 : ((p1 &&& (2147483647 : Int32)) % (3 : Int32)) = v14
  refine Goes.go (fun _ kk => XS.istore X0.here hx rfl (hb hby at_14) rfl (l' := #[.val (.int p0), .val (.int p1), .val (.int p2), .val (.int p3), .val (.int p4), .val (.int p5), .val (.int v6), .val (.int v14), .unset, .unset, .unset, .unset, .unset, .unset, .unset, .unset, .unset, .unset, .unset, .unset, .unset, .unset]) rfl kk) ?_
  show Goes _ _ _ _ _ _ _ (s₁.setTop (mkF m 16 #[.val (.int p0), .val (.int p1), .val (.int p2), .val (.int p3), .val (.int p4), .val (.int p5), .val (.int v6), .val (.int v14), .unset, .unset, .unset, .unset, .unset, .unset, .unset, .unset, .unset, .unset, .unset, .unset, .unset, .unset] []))
  refine Goes.go (fun _ kk => XS.iloadN X0.here hx rfl (hb hby at_16) rfl kk) ?_
  show Goes _ _ _ _ _ _ _ (s₁.setTop (mkF m 17 _ [(.int p2)]))
  refine Goes.go (fun _ kk => X0.ldcI hx (v := (2147483647 : Int32)) hown (mvT hZ (hw _ (List.mem_of_getElem? (i := 0) rfl))) rfl (hb hby at_17) kk) ?_
  show Goes _ _ _ _ _ _ _ (s₁.setTop (mkF m 19 _ [(.int (2147483647 : Int32)), (.int p2)]))
  refine Goes.go (fun _ kk => XS.iand X0.here hx rfl (hb hby at_19) rfl kk) ?_
  show Goes _ _ _ _ _ _ _ (s₁.setTop (mkF m 20 _ [(.int (p2 &&& (2147483647 : Int32)))]))
  refine Goes.go (fun _ kk => XS.iconst X0.here hx rfl (hb hby at_20) kk) ?_
  show Goes _ _ _ _ _ _ _ (s₁.setTop (mkF m 21 _ [(.int (4 : Int32)), (.int (p2 &&& (2147483647 : Int32)))]))
  refine Goes.go (fun _ kk => iremM X0 hx rfl (hb hby at_21) rfl (by decide) kk) ?_
  show Goes _ _ _ _ _ _ _ (s₁.setTop (mkF m 22 _ [(.int ((p2 &&& (2147483647 : Int32)) % (4 : Int32)))]))
  generalize hv22 : ((p2 &&& (2147483647 : Int32)) % (4 : Int32)) = v22
  refine Goes.go (fun _ kk => XS.istore X0.here hx rfl (hb hby at_22) rfl (l' := #[.val (.int p0), .val (.int p1), .val (.int p2), .val (.int p3), .val (.int p4), .val (.int p5), .val (.int v6), .val (.int v14), .val (.int v22), .unset, .unset, .unset, .unset, .unset, .unset, .unset, .unset, .unset, .unset, .unset, .unset, .unset]) rfl kk) ?_
  show Goes _ _ _ _ _ _ _ (s₁.setTop (mkF m 24 #[.val (.int p0), .val (.int p1), .val (.int p2), .val (.int p3), .val (.int p4), .val (.int p5), .val (.int v6), .val (.int v14), .val (.int v22), .unset, .unset, .unset, .unset, .unset, .unset, .unset, .unset, .unset, .unset, .unset, .unset, .unset] []))
  refine Goes.go (fun _ kk => XS.iloadN X0.here hx rfl (hb hby at_24) rfl kk) ?_
  show Goes _ _ _ _ _ _ _ (s₁.setTop (mkF m 25 _ [(.int p3)]))
  refine Goes.go (fun _ kk => X0.ldcI hx (v := (2147483647 : Int32)) hown (mvT hZ (hw _ (List.mem_of_getElem? (i := 0) rfl))) rfl (hb hby at_25) kk) ?_
  show Goes _ _ _ _ _ _ _ (s₁.setTop (mkF m 27 _ [(.int (2147483647 : Int32)), (.int p3)]))
  refine Goes.go (fun _ kk => XS.iand X0.here hx rfl (hb hby at_27) rfl kk) ?_
  show Goes _ _ _ _ _ _ _ (s₁.setTop (mkF m 28 _ [(.int (p3 &&& (2147483647 : Int32)))]))
  refine Goes.go (fun _ kk => XS.iconst X0.here hx rfl (hb hby at_28) kk) ?_
  show Goes _ _ _ _ _ _ _ (s₁.setTop (mkF m 29 _ [(.int (5 : Int32)), (.int (p3 &&& (2147483647 : Int32)))]))
  refine Goes.go (fun _ kk => iremM X0 hx rfl (hb hby at_29) rfl (by decide) kk) ?_
  show Goes _ _ _ _ _ _ _ (s₁.setTop (mkF m 30 _ [(.int ((p3 &&& (2147483647 : Int32)) % (5 : Int32)))]))
  generalize hv30 : ((p3 &&& (2147483647 : Int32)) % (5 : Int32)) = v30
  refine Goes.go (fun _ kk => XS.istore X0.here hx rfl (hb hby at_30) rfl (l' := #[.val (.int p0), .val (.int p1), .val (.int p2), .val (.int p3), .val (.int p4), .val (.int p5), .val (.int v6), .val (.int v14), .val (.int v22), .val (.int v30), .unset, .unset, .unset, .unset, .unset, .unset, .unset, .unset, .unset, .unset, .unset, .unset]) rfl kk) ?_
  show Goes _ _ _ _ _ _ _ (s₁.setTop (mkF m 32 #[.val (.int p0), .val (.int p1), .val (.int p2), .val (.int p3), .val (.int p4), .val (.int p5), .val (.int v6), .val (.int v14), .val (.int v22), .val (.int v30), .unset, .unset, .unset, .unset, .unset, .unset, .unset, .unset, .unset, .unset, .unset, .unset] []))
  refine Goes.go (fun _ kk => XS.iload X0.here hx rfl (hb hby at_32) rfl kk) ?_
  show Goes _ _ _ _ _ _ _ (s₁.setTop (mkF m 34 _ [(.int p4)]))
  refine Goes.go (fun _ kk => X0.ldcI hx (v := (2147483647 : Int32)) hown (mvT hZ (hw _ (List.mem_of_getElem? (i := 0) rfl))) rfl (hb hby at_34) kk) ?_
  show Goes _ _ _ _ _ _ _ (s₁.setTop (mkF m 36 _ [(.int (2147483647 : Int32)), (.int p4)]))
  refine Goes.go (fun _ kk => XS.iand X0.here hx rfl (hb hby at_36) rfl kk) ?_
  show Goes _ _ _ _ _ _ _ (s₁.setTop (mkF m 37 _ [(.int (p4 &&& (2147483647 : Int32)))]))
  refine Goes.go (fun _ kk => XS.iconst X0.here hx rfl (hb hby at_37) kk) ?_
  show Goes _ _ _ _ _ _ _ (s₁.setTop (mkF m 38 _ [(.int (5 : Int32)), (.int (p4 &&& (2147483647 : Int32)))]))
  refine Goes.go (fun _ kk => iremM X0 hx rfl (hb hby at_38) rfl (by decide) kk) ?_
  show Goes _ _ _ _ _ _ _ (s₁.setTop (mkF m 39 _ [(.int ((p4 &&& (2147483647 : Int32)) % (5 : Int32)))]))
  refine Goes.go (fun _ kk => XS.iconst X0.here hx rfl (hb hby at_39) kk) ?_
  show Goes _ _ _ _ _ _ _ (s₁.setTop (mkF m 40 _ [(.int (1 : Int32)), (.int ((p4 &&& (2147483647 : Int32)) % (5 : Int32)))]))
  refine Goes.go (fun _ kk => XS.iadd X0.here hx rfl (hb hby at_40) rfl kk) ?_
  show Goes _ _ _ _ _ _ _ (s₁.setTop (mkF m 41 _ [(.int (((p4 &&& (2147483647 : Int32)) % (5 : Int32)) + (1 : Int32)))]))
  generalize hv41 : (((p4 &&& (2147483647 : Int32)) % (5 : Int32)) + (1 : Int32)) = v41
  refine Goes.go (fun _ kk => XS.istore X0.here hx rfl (hb hby at_41) rfl (l' := #[.val (.int p0), .val (.int p1), .val (.int p2), .val (.int p3), .val (.int p4), .val (.int p5), .val (.int v6), .val (.int v14), .val (.int v22), .val (.int v30), .val (.int v41), .unset, .unset, .unset, .unset, .unset, .unset, .unset, .unset, .unset, .unset, .unset]) rfl kk) ?_
  show Goes _ _ _ _ _ _ _ (s₁.setTop (mkF m 43 #[.val (.int p0), .val (.int p1), .val (.int p2), .val (.int p3), .val (.int p4), .val (.int p5), .val (.int v6), .val (.int v14), .val (.int v22), .val (.int v30), .val (.int v41), .unset, .unset, .unset, .unset, .unset, .unset, .unset, .unset, .unset, .unset, .unset] []))
  refine Goes.go (fun _ kk => XS.iload X0.here hx rfl (hb hby at_43) rfl kk) ?_
  show Goes _ _ _ _ _ _ _ (s₁.setTop (mkF m 45 _ [(.int p5)]))
  refine Goes.go (fun _ kk => X0.ldcI hx (v := (2147483647 : Int32)) hown (mvT hZ (hw _ (List.mem_of_getElem? (i := 0) rfl))) rfl (hb hby at_45) kk) ?_
  show Goes _ _ _ _ _ _ _ (s₁.setTop (mkF m 47 _ [(.int (2147483647 : Int32)), (.int p5)]))
  refine Goes.go (fun _ kk => XS.iand X0.here hx rfl (hb hby at_47) rfl kk) ?_
  show Goes _ _ _ _ _ _ _ (s₁.setTop (mkF m 48 _ [(.int (p5 &&& (2147483647 : Int32)))]))
  refine Goes.go (fun _ kk => XS.iconst X0.here hx rfl (hb hby at_48) kk) ?_
  show Goes _ _ _ _ _ _ _ (s₁.setTop (mkF m 49 _ [(.int (5 : Int32)), (.int (p5 &&& (2147483647 : Int32)))]))
  refine Goes.go (fun _ kk => iremM X0 hx rfl (hb hby at_49) rfl (by decide) kk) ?_
  show Goes _ _ _ _ _ _ _ (s₁.setTop (mkF m 50 _ [(.int ((p5 &&& (2147483647 : Int32)) % (5 : Int32)))]))
  refine Goes.go (fun _ kk => XS.iconst X0.here hx rfl (hb hby at_50) kk) ?_
  show Goes _ _ _ _ _ _ _ (s₁.setTop (mkF m 51 _ [(.int (1 : Int32)), (.int ((p5 &&& (2147483647 : Int32)) % (5 : Int32)))]))
  refine Goes.go (fun _ kk => XS.iadd X0.here hx rfl (hb hby at_51) rfl kk) ?_
  show Goes _ _ _ _ _ _ _ (s₁.setTop (mkF m 52 _ [(.int (((p5 &&& (2147483647 : Int32)) % (5 : Int32)) + (1 : Int32)))]))
  generalize hv52 : (((p5 &&& (2147483647 : Int32)) % (5 : Int32)) + (1 : Int32)) = v52
  refine Goes.go (fun _ kk => XS.istore X0.here hx rfl (hb hby at_52) rfl (l' := #[.val (.int p0), .val (.int p1), .val (.int p2), .val (.int p3), .val (.int p4), .val (.int p5), .val (.int v6), .val (.int v14), .val (.int v22), .val (.int v30), .val (.int v41), .val (.int v52), .unset, .unset, .unset, .unset, .unset, .unset, .unset, .unset, .unset, .unset]) rfl kk) ?_
  show Goes _ _ _ _ _ _ _ (s₁.setTop (mkF m 54 #[.val (.int p0), .val (.int p1), .val (.int p2), .val (.int p3), .val (.int p4), .val (.int p5), .val (.int v6), .val (.int v14), .val (.int v22), .val (.int v30), .val (.int v41), .val (.int v52), .unset, .unset, .unset, .unset, .unset, .unset, .unset, .unset, .unset, .unset] []))
  obtain ⟨i2, li2, ei2, -⟩ := own_mod 2 2 (by decide) (by decide) hv6
  obtain ⟨i3, li3, ei3, -⟩ := own_mod 3 3 (by decide) (by decide) hv14
  obtain ⟨i4, li4, ei4, -⟩ := own_mod 4 4 (by decide) (by decide) hv22
  obtain ⟨i5, li5, ei5, -⟩ := own_mod 5 5 (by decide) (by decide) hv30
  obtain ⟨f, lf, ef⟩ := own_mod1 rfl hv41
  obtain ⟨t, lt, et⟩ := own_mod1 rfl hv52
  have eL : [0, 0, v6, v14, v22, v30] = LK i2 i3 i4 i5 := by rw [ei2, ei3, ei4, ei5]; rfl
  obtain ⟨hpre, hck⟩ := big ⟨i2, li2⟩ ⟨i3, li3⟩ ⟨i4, li4⟩ ⟨i5, li5⟩
  have hck := hck ⟨f, lf⟩ ⟨t, lt⟩
  dsimp only at hpre hck
  rw [← eL] at hpre hck
  rw [← ef, ← et] at hck
  obtain ⟨ck1, hck⟩ := own_and hck
  obtain ⟨ck2, hck⟩ := own_and hck
  obtain ⟨ck3, hck⟩ := own_and hck
  obtain ⟨ck4, hck⟩ := own_and hck
  obtain ⟨ck5, hck⟩ := own_and hck
  have hfin := of_decide_eq_true hck
  have hlk6 : ([0, 0, v6, v14, v22, v30] : List Int32).length = 6 := rfl
  have hsz6 : (szF [0, 0, v6, v14, v22, v30]).length = 6 := s1_len (s1_len (s1_len (s1_len (s1_len rfl))))
  have hpl6 : (plF [0, 0, v6, v14, v22, v30]).length = 6 := p2_len (p2_len (p2_len (p2_len (p2_len rfl))))
  refine Goes.go (fun _ kk => XS.bipush X0.here hx rfl (hb hby at_54) kk) ?_
  show Goes _ _ _ _ _ _ _ (s₁.setTop (mkF m 56 _ [(.int (6 : Int32))]))
  obtain ⟨T1, h1, X1, e1, E1, A1, st1⟩ := own_newP X0 hx hZ (aty := .int) (hw _ (List.mem_of_getElem? (i := 1) rfl)) e0 (g := (mkF m 56 #[.val (.int p0), .val (.int p1), .val (.int p2), .val (.int p3), .val (.int p4), .val (.int p5), .val (.int v6), .val (.int v14), .val (.int v22), .val (.int v30), .val (.int v41), .val (.int v52), .unset, .unset, .unset, .unset, .unset, .unset, .unset, .unset, .unset, .unset] [(.int (6 : Int32))])) rfl (hb hby at_56) rfl (n := (6 : Int32)) (by decide) (cap := 6) (by decide) (by decide) (by decide) (by decide)
  obtain ⟨ar56, gar56⟩ : ∃ z, z = h0.size := ⟨_, rfl⟩
  rw [← gar56] at A1 st1
  have Z1 : n0 ≤ h1.size := Nat.le_trans Z0 E1.1
  have ge_ar56 : n0 ≤ ar56 := Nat.le_trans Z0 (Nat.le_of_eq gar56.symm)
  have f : Arl Z h1 ar56 .int [(.int (0 : Int32)), (.int (0 : Int32)), (.int (0 : Int32)), (.int (0 : Int32)), (.int (0 : Int32)), (.int (0 : Int32))] := A1
  refine Goes.go (st1) ?_
  show Goes _ _ _ _ _ _ _ (T1.setTop (mkF m 58 _ [(.ref ar56)]))
  refine Goes.go (fun _ kk => XS.dup X1.here hx rfl (hb hby at_58) rfl rfl kk) ?_
  show Goes _ _ _ _ _ _ _ (T1.setTop (mkF m 59 _ [(.ref ar56), (.ref ar56)]))
  refine Goes.go (fun _ kk => XS.iconst X1.here hx rfl (hb hby at_59) kk) ?_
  show Goes _ _ _ _ _ _ _ (T1.setTop (mkF m 60 _ [(.int (0 : Int32)), (.ref ar56), (.ref ar56)]))
  refine Goes.go (fun _ kk => XS.iconst X1.here hx rfl (hb hby at_60) kk) ?_
  show Goes _ _ _ _ _ _ _ (T1.setTop (mkF m 61 _ [(.int (0 : Int32)), (.int (0 : Int32)), (.ref ar56), (.ref ar56)]))
  obtain ⟨T2, h2, X2, e2, W2, A2, st2⟩ := own_stI X1 hx hZ e1 f (j := (0 : Int32)) (x := (0 : Int32)) (by decide) (show (0 : Nat) < 6 by decide) (g := (mkF m 61 #[.val (.int p0), .val (.int p1), .val (.int p2), .val (.int p3), .val (.int p4), .val (.int p5), .val (.int v6), .val (.int v14), .val (.int v22), .val (.int v30), .val (.int v41), .val (.int v52), .unset, .unset, .unset, .unset, .unset, .unset, .unset, .unset, .unset, .unset] [(.int (0 : Int32)), (.int (0 : Int32)), (.ref ar56), (.ref ar56)])) rfl rfl (hb hby at_61)
  have N2 := Fr.snoc X2 N0 ge_ar56
  have Z2 : n0 ≤ h2.size := by rw [W2.size]; exact Z1
  have f_1 : Arl Z h2 ar56 .int [(.int (0 : Int32)), (.int (0 : Int32)), (.int (0 : Int32)), (.int (0 : Int32)), (.int (0 : Int32)), (.int (0 : Int32))] := A2
  refine Goes.go (st2) ?_
  show Goes _ _ _ _ _ _ _ (T2.setTop (mkF m 62 _ [(.ref ar56)]))
  refine Goes.go (fun _ kk => XS.dup X2.here hx rfl (hb hby at_62) rfl rfl kk) ?_
  show Goes _ _ _ _ _ _ _ (T2.setTop (mkF m 63 _ [(.ref ar56), (.ref ar56)]))
  refine Goes.go (fun _ kk => XS.iconst X2.here hx rfl (hb hby at_63) kk) ?_
  show Goes _ _ _ _ _ _ _ (T2.setTop (mkF m 64 _ [(.int (1 : Int32)), (.ref ar56), (.ref ar56)]))
  refine Goes.go (fun _ kk => XS.iconst X2.here hx rfl (hb hby at_64) kk) ?_
  show Goes _ _ _ _ _ _ _ (T2.setTop (mkF m 65 _ [(.int (0 : Int32)), (.int (1 : Int32)), (.ref ar56), (.ref ar56)]))
  obtain ⟨T3, h3, X3, e3, W3, A3, st3⟩ := own_stI X2 hx hZ e2 f_1 (j := (1 : Int32)) (x := (0 : Int32)) (by decide) (show (1 : Nat) < 6 by decide) (g := (mkF m 65 #[.val (.int p0), .val (.int p1), .val (.int p2), .val (.int p3), .val (.int p4), .val (.int p5), .val (.int v6), .val (.int v14), .val (.int v22), .val (.int v30), .val (.int v41), .val (.int v52), .unset, .unset, .unset, .unset, .unset, .unset, .unset, .unset, .unset, .unset] [(.int (0 : Int32)), (.int (1 : Int32)), (.ref ar56), (.ref ar56)])) rfl rfl (hb hby at_65)
  have N3 := Fr.snoc X3 N2 ge_ar56
  have Z3 : n0 ≤ h3.size := by rw [W3.size]; exact Z2
  have f_2 : Arl Z h3 ar56 .int [(.int (0 : Int32)), (.int (0 : Int32)), (.int (0 : Int32)), (.int (0 : Int32)), (.int (0 : Int32)), (.int (0 : Int32))] := A3
  refine Goes.go (st3) ?_
  show Goes _ _ _ _ _ _ _ (T3.setTop (mkF m 66 _ [(.ref ar56)]))
  refine Goes.go (fun _ kk => XS.dup X3.here hx rfl (hb hby at_66) rfl rfl kk) ?_
  show Goes _ _ _ _ _ _ _ (T3.setTop (mkF m 67 _ [(.ref ar56), (.ref ar56)]))
  refine Goes.go (fun _ kk => XS.iconst X3.here hx rfl (hb hby at_67) kk) ?_
  show Goes _ _ _ _ _ _ _ (T3.setTop (mkF m 68 _ [(.int (2 : Int32)), (.ref ar56), (.ref ar56)]))
  refine Goes.go (fun _ kk => XS.iload X3.here hx rfl (hb hby at_68) rfl kk) ?_
  show Goes _ _ _ _ _ _ _ (T3.setTop (mkF m 70 _ [(.int v6), (.int (2 : Int32)), (.ref ar56), (.ref ar56)]))
  obtain ⟨T4, h4, X4, e4, W4, A4, st4⟩ := own_stI X3 hx hZ e3 f_2 (j := (2 : Int32)) (x := v6) (by decide) (show (2 : Nat) < 6 by decide) (g := (mkF m 70 #[.val (.int p0), .val (.int p1), .val (.int p2), .val (.int p3), .val (.int p4), .val (.int p5), .val (.int v6), .val (.int v14), .val (.int v22), .val (.int v30), .val (.int v41), .val (.int v52), .unset, .unset, .unset, .unset, .unset, .unset, .unset, .unset, .unset, .unset] [(.int v6), (.int (2 : Int32)), (.ref ar56), (.ref ar56)])) rfl rfl (hb hby at_70)
  have N4 := Fr.snoc X4 N3 ge_ar56
  have Z4 : n0 ≤ h4.size := by rw [W4.size]; exact Z3
  have f_3 : Arl Z h4 ar56 .int [(.int (0 : Int32)), (.int (0 : Int32)), (.int v6), (.int (0 : Int32)), (.int (0 : Int32)), (.int (0 : Int32))] := A4
  refine Goes.go (st4) ?_
  show Goes _ _ _ _ _ _ _ (T4.setTop (mkF m 71 _ [(.ref ar56)]))
  refine Goes.go (fun _ kk => XS.dup X4.here hx rfl (hb hby at_71) rfl rfl kk) ?_
  show Goes _ _ _ _ _ _ _ (T4.setTop (mkF m 72 _ [(.ref ar56), (.ref ar56)]))
  refine Goes.go (fun _ kk => XS.iconst X4.here hx rfl (hb hby at_72) kk) ?_
  show Goes _ _ _ _ _ _ _ (T4.setTop (mkF m 73 _ [(.int (3 : Int32)), (.ref ar56), (.ref ar56)]))
  refine Goes.go (fun _ kk => XS.iload X4.here hx rfl (hb hby at_73) rfl kk) ?_
  show Goes _ _ _ _ _ _ _ (T4.setTop (mkF m 75 _ [(.int v14), (.int (3 : Int32)), (.ref ar56), (.ref ar56)]))
  obtain ⟨T5, h5, X5, e5, W5, A5, st5⟩ := own_stI X4 hx hZ e4 f_3 (j := (3 : Int32)) (x := v14) (by decide) (show (3 : Nat) < 6 by decide) (g := (mkF m 75 #[.val (.int p0), .val (.int p1), .val (.int p2), .val (.int p3), .val (.int p4), .val (.int p5), .val (.int v6), .val (.int v14), .val (.int v22), .val (.int v30), .val (.int v41), .val (.int v52), .unset, .unset, .unset, .unset, .unset, .unset, .unset, .unset, .unset, .unset] [(.int v14), (.int (3 : Int32)), (.ref ar56), (.ref ar56)])) rfl rfl (hb hby at_75)
  have N5 := Fr.snoc X5 N4 ge_ar56
  have Z5 : n0 ≤ h5.size := by rw [W5.size]; exact Z4
  have f_4 : Arl Z h5 ar56 .int [(.int (0 : Int32)), (.int (0 : Int32)), (.int v6), (.int v14), (.int (0 : Int32)), (.int (0 : Int32))] := A5
  refine Goes.go (st5) ?_
  show Goes _ _ _ _ _ _ _ (T5.setTop (mkF m 76 _ [(.ref ar56)]))
  refine Goes.go (fun _ kk => XS.dup X5.here hx rfl (hb hby at_76) rfl rfl kk) ?_
  show Goes _ _ _ _ _ _ _ (T5.setTop (mkF m 77 _ [(.ref ar56), (.ref ar56)]))
  refine Goes.go (fun _ kk => XS.iconst X5.here hx rfl (hb hby at_77) kk) ?_
  show Goes _ _ _ _ _ _ _ (T5.setTop (mkF m 78 _ [(.int (4 : Int32)), (.ref ar56), (.ref ar56)]))
  refine Goes.go (fun _ kk => XS.iload X5.here hx rfl (hb hby at_78) rfl kk) ?_
  show Goes _ _ _ _ _ _ _ (T5.setTop (mkF m 80 _ [(.int v22), (.int (4 : Int32)), (.ref ar56), (.ref ar56)]))
  obtain ⟨T6, h6, X6, e6, W6, A6, st6⟩ := own_stI X5 hx hZ e5 f_4 (j := (4 : Int32)) (x := v22) (by decide) (show (4 : Nat) < 6 by decide) (g := (mkF m 80 #[.val (.int p0), .val (.int p1), .val (.int p2), .val (.int p3), .val (.int p4), .val (.int p5), .val (.int v6), .val (.int v14), .val (.int v22), .val (.int v30), .val (.int v41), .val (.int v52), .unset, .unset, .unset, .unset, .unset, .unset, .unset, .unset, .unset, .unset] [(.int v22), (.int (4 : Int32)), (.ref ar56), (.ref ar56)])) rfl rfl (hb hby at_80)
  have N6 := Fr.snoc X6 N5 ge_ar56
  have Z6 : n0 ≤ h6.size := by rw [W6.size]; exact Z5
  have f_5 : Arl Z h6 ar56 .int [(.int (0 : Int32)), (.int (0 : Int32)), (.int v6), (.int v14), (.int v22), (.int (0 : Int32))] := A6
  refine Goes.go (st6) ?_
  show Goes _ _ _ _ _ _ _ (T6.setTop (mkF m 81 _ [(.ref ar56)]))
  refine Goes.go (fun _ kk => XS.dup X6.here hx rfl (hb hby at_81) rfl rfl kk) ?_
  show Goes _ _ _ _ _ _ _ (T6.setTop (mkF m 82 _ [(.ref ar56), (.ref ar56)]))
  refine Goes.go (fun _ kk => XS.iconst X6.here hx rfl (hb hby at_82) kk) ?_
  show Goes _ _ _ _ _ _ _ (T6.setTop (mkF m 83 _ [(.int (5 : Int32)), (.ref ar56), (.ref ar56)]))
  refine Goes.go (fun _ kk => XS.iload X6.here hx rfl (hb hby at_83) rfl kk) ?_
  show Goes _ _ _ _ _ _ _ (T6.setTop (mkF m 85 _ [(.int v30), (.int (5 : Int32)), (.ref ar56), (.ref ar56)]))
  obtain ⟨T7, h7, X7, e7, W7, A7, st7⟩ := own_stI X6 hx hZ e6 f_5 (j := (5 : Int32)) (x := v30) (by decide) (show (5 : Nat) < 6 by decide) (g := (mkF m 85 #[.val (.int p0), .val (.int p1), .val (.int p2), .val (.int p3), .val (.int p4), .val (.int p5), .val (.int v6), .val (.int v14), .val (.int v22), .val (.int v30), .val (.int v41), .val (.int v52), .unset, .unset, .unset, .unset, .unset, .unset, .unset, .unset, .unset, .unset] [(.int v30), (.int (5 : Int32)), (.ref ar56), (.ref ar56)])) rfl rfl (hb hby at_85)
  have N7 := Fr.snoc X7 N6 ge_ar56
  have Z7 : n0 ≤ h7.size := by rw [W7.size]; exact Z6
  have f_6 : Arl Z h7 ar56 .int [(.int (0 : Int32)), (.int (0 : Int32)), (.int v6), (.int v14), (.int v22), (.int v30)] := A7
  refine Goes.go (st7) ?_
  show Goes _ _ _ _ _ _ _ (T7.setTop (mkF m 86 _ [(.ref ar56)]))
  refine Goes.go (fun _ kk => XS.astore X7.here hx rfl (hb hby at_86) rfl rfl (l' := #[.val (.int p0), .val (.int p1), .val (.int p2), .val (.int p3), .val (.int p4), .val (.int p5), .val (.int v6), .val (.int v14), .val (.int v22), .val (.int v30), .val (.int v41), .val (.int v52), .val (.ref ar56), .unset, .unset, .unset, .unset, .unset, .unset, .unset, .unset, .unset]) rfl kk) ?_
  show Goes _ _ _ _ _ _ _ (T7.setTop (mkF m 88 #[.val (.int p0), .val (.int p1), .val (.int p2), .val (.int p3), .val (.int p4), .val (.int p5), .val (.int v6), .val (.int v14), .val (.int v22), .val (.int v30), .val (.int v41), .val (.int v52), .val (.ref ar56), .unset, .unset, .unset, .unset, .unset, .unset, .unset, .unset, .unset] []))
  refine Goes.go (fun _ kk => XS.bipush X7.here hx rfl (hb hby at_88) kk) ?_
  show Goes _ _ _ _ _ _ _ (T7.setTop (mkF m 90 _ [(.int (6 : Int32))]))
  obtain ⟨T8, h8, X8, e8, E8, A8, st8⟩ := own_newP X7 hx hZ (aty := .int) (hw _ (List.mem_of_getElem? (i := 1) rfl)) e7 (g := (mkF m 90 #[.val (.int p0), .val (.int p1), .val (.int p2), .val (.int p3), .val (.int p4), .val (.int p5), .val (.int v6), .val (.int v14), .val (.int v22), .val (.int v30), .val (.int v41), .val (.int v52), .val (.ref ar56), .unset, .unset, .unset, .unset, .unset, .unset, .unset, .unset, .unset] [(.int (6 : Int32))])) rfl (hb hby at_90) rfl (n := (6 : Int32)) (by decide) (cap := 6) (by decide) (by decide) (by decide) (by decide)
  obtain ⟨ar90, gar90⟩ : ∃ z, z = h7.size := ⟨_, rfl⟩
  rw [← gar90] at A8 st8
  have ne_ar56_ar90 : ar56 ≠ ar90 := by rw [gar90]; exact Nat.ne_of_lt f_6.lt
  have f_7 := f_6.ext E8
  have Z8 : n0 ≤ h8.size := Nat.le_trans Z7 E8.1
  have ge_ar90 : n0 ≤ ar90 := Nat.le_trans Z7 (Nat.le_of_eq gar90.symm)
  have f_8 : Arl Z h8 ar90 .int [(.int (0 : Int32)), (.int (0 : Int32)), (.int (0 : Int32)), (.int (0 : Int32)), (.int (0 : Int32)), (.int (0 : Int32))] := A8
  refine Goes.go (st8) ?_
  show Goes _ _ _ _ _ _ _ (T8.setTop (mkF m 92 _ [(.ref ar90)]))
  refine Goes.go (fun _ kk => XS.dup X8.here hx rfl (hb hby at_92) rfl rfl kk) ?_
  show Goes _ _ _ _ _ _ _ (T8.setTop (mkF m 93 _ [(.ref ar90), (.ref ar90)]))
  refine Goes.go (fun _ kk => XS.iconst X8.here hx rfl (hb hby at_93) kk) ?_
  show Goes _ _ _ _ _ _ _ (T8.setTop (mkF m 94 _ [(.int (0 : Int32)), (.ref ar90), (.ref ar90)]))
  refine Goes.go (fun _ kk => XS.iconst X8.here hx rfl (hb hby at_94) kk) ?_
  show Goes _ _ _ _ _ _ _ (T8.setTop (mkF m 95 _ [(.int (0 : Int32)), (.int (0 : Int32)), (.ref ar90), (.ref ar90)]))
  obtain ⟨T9, h9, X9, e9, W9, A9, st9⟩ := own_stI X8 hx hZ e8 f_8 (j := (0 : Int32)) (x := (0 : Int32)) (by decide) (show (0 : Nat) < 6 by decide) (g := (mkF m 95 #[.val (.int p0), .val (.int p1), .val (.int p2), .val (.int p3), .val (.int p4), .val (.int p5), .val (.int v6), .val (.int v14), .val (.int v22), .val (.int v30), .val (.int v41), .val (.int v52), .val (.ref ar56), .unset, .unset, .unset, .unset, .unset, .unset, .unset, .unset, .unset] [(.int (0 : Int32)), (.int (0 : Int32)), (.ref ar90), (.ref ar90)])) rfl rfl (hb hby at_95)
  have N9 := Fr.snoc X9 N7 ge_ar90
  have f_9 := Arl.other f_7 W9 ne_ar56_ar90
  have Z9 : n0 ≤ h9.size := by rw [W9.size]; exact Z8
  have f_10 : Arl Z h9 ar90 .int [(.int (0 : Int32)), (.int (0 : Int32)), (.int (0 : Int32)), (.int (0 : Int32)), (.int (0 : Int32)), (.int (0 : Int32))] := A9
  refine Goes.go (st9) ?_
  show Goes _ _ _ _ _ _ _ (T9.setTop (mkF m 96 _ [(.ref ar90)]))
  refine Goes.go (fun _ kk => XS.dup X9.here hx rfl (hb hby at_96) rfl rfl kk) ?_
  show Goes _ _ _ _ _ _ _ (T9.setTop (mkF m 97 _ [(.ref ar90), (.ref ar90)]))
  refine Goes.go (fun _ kk => XS.iconst X9.here hx rfl (hb hby at_97) kk) ?_
  show Goes _ _ _ _ _ _ _ (T9.setTop (mkF m 98 _ [(.int (1 : Int32)), (.ref ar90), (.ref ar90)]))
  refine Goes.go (fun _ kk => XS.iconst X9.here hx rfl (hb hby at_98) kk) ?_
  show Goes _ _ _ _ _ _ _ (T9.setTop (mkF m 99 _ [(.int (0 : Int32)), (.int (1 : Int32)), (.ref ar90), (.ref ar90)]))
  obtain ⟨T10, h10, X10, e10, W10, A10, st10⟩ := own_stI X9 hx hZ e9 f_10 (j := (1 : Int32)) (x := (0 : Int32)) (by decide) (show (1 : Nat) < 6 by decide) (g := (mkF m 99 #[.val (.int p0), .val (.int p1), .val (.int p2), .val (.int p3), .val (.int p4), .val (.int p5), .val (.int v6), .val (.int v14), .val (.int v22), .val (.int v30), .val (.int v41), .val (.int v52), .val (.ref ar56), .unset, .unset, .unset, .unset, .unset, .unset, .unset, .unset, .unset] [(.int (0 : Int32)), (.int (1 : Int32)), (.ref ar90), (.ref ar90)])) rfl rfl (hb hby at_99)
  have N10 := Fr.snoc X10 N9 ge_ar90
  have f_11 := Arl.other f_9 W10 ne_ar56_ar90
  have Z10 : n0 ≤ h10.size := by rw [W10.size]; exact Z9
  have f_12 : Arl Z h10 ar90 .int [(.int (0 : Int32)), (.int (0 : Int32)), (.int (0 : Int32)), (.int (0 : Int32)), (.int (0 : Int32)), (.int (0 : Int32))] := A10
  refine Goes.go (st10) ?_
  show Goes _ _ _ _ _ _ _ (T10.setTop (mkF m 100 _ [(.ref ar90)]))
  refine Goes.go (fun _ kk => XS.dup X10.here hx rfl (hb hby at_100) rfl rfl kk) ?_
  show Goes _ _ _ _ _ _ _ (T10.setTop (mkF m 101 _ [(.ref ar90), (.ref ar90)]))
  refine Goes.go (fun _ kk => XS.iconst X10.here hx rfl (hb hby at_101) kk) ?_
  show Goes _ _ _ _ _ _ _ (T10.setTop (mkF m 102 _ [(.int (2 : Int32)), (.ref ar90), (.ref ar90)]))
  refine Goes.go (fun _ kk => XS.iload X10.here hx rfl (hb hby at_102) rfl kk) ?_
  show Goes _ _ _ _ _ _ _ (T10.setTop (mkF m 104 _ [(.int v6), (.int (2 : Int32)), (.ref ar90), (.ref ar90)]))
  obtain ⟨T11, h11, X11, e11, W11, A11, st11⟩ := own_stI X10 hx hZ e10 f_12 (j := (2 : Int32)) (x := v6) (by decide) (show (2 : Nat) < 6 by decide) (g := (mkF m 104 #[.val (.int p0), .val (.int p1), .val (.int p2), .val (.int p3), .val (.int p4), .val (.int p5), .val (.int v6), .val (.int v14), .val (.int v22), .val (.int v30), .val (.int v41), .val (.int v52), .val (.ref ar56), .unset, .unset, .unset, .unset, .unset, .unset, .unset, .unset, .unset] [(.int v6), (.int (2 : Int32)), (.ref ar90), (.ref ar90)])) rfl rfl (hb hby at_104)
  have N11 := Fr.snoc X11 N10 ge_ar90
  have f_13 := Arl.other f_11 W11 ne_ar56_ar90
  have Z11 : n0 ≤ h11.size := by rw [W11.size]; exact Z10
  have f_14 : Arl Z h11 ar90 .int [(.int (0 : Int32)), (.int (0 : Int32)), (.int v6), (.int (0 : Int32)), (.int (0 : Int32)), (.int (0 : Int32))] := A11
  refine Goes.go (st11) ?_
  show Goes _ _ _ _ _ _ _ (T11.setTop (mkF m 105 _ [(.ref ar90)]))
  refine Goes.go (fun _ kk => XS.dup X11.here hx rfl (hb hby at_105) rfl rfl kk) ?_
  show Goes _ _ _ _ _ _ _ (T11.setTop (mkF m 106 _ [(.ref ar90), (.ref ar90)]))
  refine Goes.go (fun _ kk => XS.iconst X11.here hx rfl (hb hby at_106) kk) ?_
  show Goes _ _ _ _ _ _ _ (T11.setTop (mkF m 107 _ [(.int (3 : Int32)), (.ref ar90), (.ref ar90)]))
  refine Goes.go (fun _ kk => XS.iload X11.here hx rfl (hb hby at_107) rfl kk) ?_
  show Goes _ _ _ _ _ _ _ (T11.setTop (mkF m 109 _ [(.int v14), (.int (3 : Int32)), (.ref ar90), (.ref ar90)]))
  obtain ⟨T12, h12, X12, e12, W12, A12, st12⟩ := own_stI X11 hx hZ e11 f_14 (j := (3 : Int32)) (x := v14) (by decide) (show (3 : Nat) < 6 by decide) (g := (mkF m 109 #[.val (.int p0), .val (.int p1), .val (.int p2), .val (.int p3), .val (.int p4), .val (.int p5), .val (.int v6), .val (.int v14), .val (.int v22), .val (.int v30), .val (.int v41), .val (.int v52), .val (.ref ar56), .unset, .unset, .unset, .unset, .unset, .unset, .unset, .unset, .unset] [(.int v14), (.int (3 : Int32)), (.ref ar90), (.ref ar90)])) rfl rfl (hb hby at_109)
  have N12 := Fr.snoc X12 N11 ge_ar90
  have f_15 := Arl.other f_13 W12 ne_ar56_ar90
  have Z12 : n0 ≤ h12.size := by rw [W12.size]; exact Z11
  have f_16 : Arl Z h12 ar90 .int [(.int (0 : Int32)), (.int (0 : Int32)), (.int v6), (.int v14), (.int (0 : Int32)), (.int (0 : Int32))] := A12
  refine Goes.go (st12) ?_
  show Goes _ _ _ _ _ _ _ (T12.setTop (mkF m 110 _ [(.ref ar90)]))
  refine Goes.go (fun _ kk => XS.dup X12.here hx rfl (hb hby at_110) rfl rfl kk) ?_
  show Goes _ _ _ _ _ _ _ (T12.setTop (mkF m 111 _ [(.ref ar90), (.ref ar90)]))
  refine Goes.go (fun _ kk => XS.iconst X12.here hx rfl (hb hby at_111) kk) ?_
  show Goes _ _ _ _ _ _ _ (T12.setTop (mkF m 112 _ [(.int (4 : Int32)), (.ref ar90), (.ref ar90)]))
  refine Goes.go (fun _ kk => XS.iload X12.here hx rfl (hb hby at_112) rfl kk) ?_
  show Goes _ _ _ _ _ _ _ (T12.setTop (mkF m 114 _ [(.int v22), (.int (4 : Int32)), (.ref ar90), (.ref ar90)]))
  obtain ⟨T13, h13, X13, e13, W13, A13, st13⟩ := own_stI X12 hx hZ e12 f_16 (j := (4 : Int32)) (x := v22) (by decide) (show (4 : Nat) < 6 by decide) (g := (mkF m 114 #[.val (.int p0), .val (.int p1), .val (.int p2), .val (.int p3), .val (.int p4), .val (.int p5), .val (.int v6), .val (.int v14), .val (.int v22), .val (.int v30), .val (.int v41), .val (.int v52), .val (.ref ar56), .unset, .unset, .unset, .unset, .unset, .unset, .unset, .unset, .unset] [(.int v22), (.int (4 : Int32)), (.ref ar90), (.ref ar90)])) rfl rfl (hb hby at_114)
  have N13 := Fr.snoc X13 N12 ge_ar90
  have f_17 := Arl.other f_15 W13 ne_ar56_ar90
  have Z13 : n0 ≤ h13.size := by rw [W13.size]; exact Z12
  have f_18 : Arl Z h13 ar90 .int [(.int (0 : Int32)), (.int (0 : Int32)), (.int v6), (.int v14), (.int v22), (.int (0 : Int32))] := A13
  refine Goes.go (st13) ?_
  show Goes _ _ _ _ _ _ _ (T13.setTop (mkF m 115 _ [(.ref ar90)]))
  refine Goes.go (fun _ kk => XS.dup X13.here hx rfl (hb hby at_115) rfl rfl kk) ?_
  show Goes _ _ _ _ _ _ _ (T13.setTop (mkF m 116 _ [(.ref ar90), (.ref ar90)]))
  refine Goes.go (fun _ kk => XS.iconst X13.here hx rfl (hb hby at_116) kk) ?_
  show Goes _ _ _ _ _ _ _ (T13.setTop (mkF m 117 _ [(.int (5 : Int32)), (.ref ar90), (.ref ar90)]))
  refine Goes.go (fun _ kk => XS.iload X13.here hx rfl (hb hby at_117) rfl kk) ?_
  show Goes _ _ _ _ _ _ _ (T13.setTop (mkF m 119 _ [(.int v30), (.int (5 : Int32)), (.ref ar90), (.ref ar90)]))
  obtain ⟨T14, h14, X14, e14, W14, A14, st14⟩ := own_stI X13 hx hZ e13 f_18 (j := (5 : Int32)) (x := v30) (by decide) (show (5 : Nat) < 6 by decide) (g := (mkF m 119 #[.val (.int p0), .val (.int p1), .val (.int p2), .val (.int p3), .val (.int p4), .val (.int p5), .val (.int v6), .val (.int v14), .val (.int v22), .val (.int v30), .val (.int v41), .val (.int v52), .val (.ref ar56), .unset, .unset, .unset, .unset, .unset, .unset, .unset, .unset, .unset] [(.int v30), (.int (5 : Int32)), (.ref ar90), (.ref ar90)])) rfl rfl (hb hby at_119)
  have N14 := Fr.snoc X14 N13 ge_ar90
  have f_19 := Arl.other f_17 W14 ne_ar56_ar90
  have Z14 : n0 ≤ h14.size := by rw [W14.size]; exact Z13
  have f_20 : Arl Z h14 ar90 .int [(.int (0 : Int32)), (.int (0 : Int32)), (.int v6), (.int v14), (.int v22), (.int v30)] := A14
  refine Goes.go (st14) ?_
  show Goes _ _ _ _ _ _ _ (T14.setTop (mkF m 120 _ [(.ref ar90)]))
  refine Goes.go (fun _ kk => XS.astore X14.here hx rfl (hb hby at_120) rfl rfl (l' := #[.val (.int p0), .val (.int p1), .val (.int p2), .val (.int p3), .val (.int p4), .val (.int p5), .val (.int v6), .val (.int v14), .val (.int v22), .val (.int v30), .val (.int v41), .val (.int v52), .val (.ref ar56), .val (.ref ar90), .unset, .unset, .unset, .unset, .unset, .unset, .unset, .unset]) rfl kk) ?_
  show Goes _ _ _ _ _ _ _ (T14.setTop (mkF m 122 #[.val (.int p0), .val (.int p1), .val (.int p2), .val (.int p3), .val (.int p4), .val (.int p5), .val (.int v6), .val (.int v14), .val (.int v22), .val (.int v30), .val (.int v41), .val (.int v52), .val (.ref ar56), .val (.ref ar90), .unset, .unset, .unset, .unset, .unset, .unset, .unset, .unset] []))
  obtain ⟨T15, h15, X15, e15, E15, A15, D15, -, st15⟩ := newO X14 hx hZ hown (hw _ (List.mem_of_getElem? (i := 2) rfl)) (hw _ (List.mem_of_getElem? (i := 3) rfl)) (hw _ (List.mem_of_getElem? (i := 4) rfl)) e14 (g := (mkF m 122 #[.val (.int p0), .val (.int p1), .val (.int p2), .val (.int p3), .val (.int p4), .val (.int p5), .val (.int v6), .val (.int v14), .val (.int v22), .val (.int v30), .val (.int v41), .val (.int v52), .val (.ref ar56), .val (.ref ar90), .unset, .unset, .unset, .unset, .unset, .unset, .unset, .unset] [])) rfl (hb hby at_122) (by decide) (by decide)
  obtain ⟨ob122, gob122⟩ : ∃ z, z = h14.size := ⟨_, rfl⟩
  rw [← gob122] at A15 D15 st15
  have ne_ar56_ob122 : ar56 ≠ ob122 := by rw [gob122]; exact Nat.ne_of_lt f_19.lt
  have ne_ar90_ob122 : ar90 ≠ ob122 := by rw [gob122]; exact Nat.ne_of_lt f_20.lt
  have f_21 := f_19.ext E15
  have f_22 := f_20.ext E15
  have Z15 : n0 ≤ h15.size := Nat.le_trans Z14 E15.1
  have ge_ob122 : n0 ≤ ob122 := Nat.le_trans Z14 (Nat.le_of_eq gob122.symm)
  have f_23 : Fld Z h15 ob122 "com/example/log_into_queues/logintoqueues/service/KeyIndexChains" "place" "[I" .null := D15 (Or.inr (hw _ (List.mem_of_getElem? (i := 12) rfl))) (ty := (.array .int)) (by decide)
  have f_24 : Fld Z h15 ob122 "com/example/log_into_queues/logintoqueues/service/KeyIndexChains" "size" "[I" .null := D15 (Or.inr (hw _ (List.mem_of_getElem? (i := 14) rfl))) (ty := (.array .int)) (by decide)
  refine Goes.go (st15) ?_
  show Goes _ _ _ _ _ _ _ (T15.setTop (mkF m 125 _ [(.ref ob122)]))
  refine Goes.go (fun _ kk => XS.dup X15.here hx rfl (hb hby at_125) rfl rfl kk) ?_
  show Goes _ _ _ _ _ _ _ (T15.setTop (mkF m 126 _ [(.ref ob122), (.ref ob122)]))
  refine Goes.go (fun _ kk => XS.aload X15.here hx rfl (hb hby at_126) rfl rfl kk) ?_
  show Goes _ _ _ _ _ _ _ (T15.setTop (mkF m 128 _ [(.ref ar56), (.ref ob122), (.ref ob122)]))
  obtain ⟨_, _, ⟨T16, L16, k16, n16⟩, -, X16, ⟨Lc16, hQ16, l16, y16, z16⟩, st16⟩ := X15.specialBack hx (y := (⟨"com/example/log_into_queues/logintoqueues/service/KeyIndexChains", "<init>", "([I)V"⟩ : MethodName)) rfl hown (mvT hZ (hw _ (List.mem_of_getElem? (i := 5) rfl))) (mvT hZ (hw _ (List.mem_of_getElem? (i := 6) rfl))) (mvT hZ (hw _ (List.mem_of_getElem? (i := 7) rfl))) (by decide) (backOf (W := 1) (rm1 l Z a0 hw [] ob122 ar56 [0, 0, v6, v14, v22, v30] h15 n0 Z15 A15 f_23 f_24 ge_ob122 f_21 ge_ar56 hpre) hZ (hw _ (List.mem_of_getElem? (i := 7) rfl)) (hw _ (List.mem_of_getElem? (i := 4) rfl)) (by decide) (by decide)) (g := (mkF m 128 #[.val (.int p0), .val (.int p1), .val (.int p2), .val (.int p3), .val (.int p4), .val (.int p5), .val (.int v6), .val (.int v14), .val (.int v22), .val (.int v30), .val (.int v41), .val (.int v52), .val (.ref ar56), .val (.ref ar90), .unset, .unset, .unset, .unset, .unset, .unset, .unset, .unset] [(.ref ar56), (.ref ob122), (.ref ob122)])) rfl (by rw [hml]; rfl) (Steps.refl _) (a := ob122) (argsL := [(.ref ar56)]) (rest := [(.ref ob122)]) (lenOf pd0 rfl) rfl (by show 2 * 0 + _ ≤ _; exact Nat.le_of_eq rfl) (hb hby at_128) (fun _ _ => ⟨rfl, e15, (by decide : 3 + 2 ≤ _), (by decide : 14 + 12 ≤ _)⟩)
  dsimp only [Pt.U, Pt.locs, Pt.cells, Pt.slots] at X16 l16 y16 z16 st16 hQ16
  subst l16 y16 z16
  obtain ⟨rfl, Nq16, Kq16, Eq16, pa, sa, Fp16, Fs16, As16, Ap16⟩ := hQ16
  have N16 := Fr.app N14 Nq16
  have Z16 : n0 ≤ T16.heap.size := Nat.le_trans Z15 Kq16.1
  have f_25 := Arl.keep f_22 Kq16 (ninS ne_ar90_ob122 (ninS ne_ar56_ar90.symm nin0))
  refine Goes.go (fun _ kk => st16.trans kk) ?_
  show Goes _ _ _ _ _ _ _ (T16.setTop (mkF m 131 _ [(.ref ob122)]))
  refine Goes.go (fun _ kk => XS.astore X16.here hx rfl (hb hby at_131) rfl rfl (l' := #[.val (.int p0), .val (.int p1), .val (.int p2), .val (.int p3), .val (.int p4), .val (.int p5), .val (.int v6), .val (.int v14), .val (.int v22), .val (.int v30), .val (.int v41), .val (.int v52), .val (.ref ar56), .val (.ref ar90), .val (.ref ob122), .unset, .unset, .unset, .unset, .unset, .unset, .unset]) rfl kk) ?_
  show Goes _ _ _ _ _ _ _ (T16.setTop (mkF m 133 #[.val (.int p0), .val (.int p1), .val (.int p2), .val (.int p3), .val (.int p4), .val (.int p5), .val (.int v6), .val (.int v14), .val (.int v22), .val (.int v30), .val (.int v41), .val (.int v52), .val (.ref ar56), .val (.ref ar90), .val (.ref ob122), .unset, .unset, .unset, .unset, .unset, .unset, .unset] []))
  refine Goes.go (fun _ kk => XS.aload X16.here hx rfl (hb hby at_133) rfl rfl kk) ?_
  show Goes _ _ _ _ _ _ _ (T16.setTop (mkF m 135 _ [(.ref ob122)]))
  refine Goes.go (fun _ kk => XS.iload X16.here hx rfl (hb hby at_135) rfl kk) ?_
  show Goes _ _ _ _ _ _ _ (T16.setTop (mkF m 137 _ [(.int v41), (.ref ob122)]))
  refine Goes.go (fun _ kk => XS.iload X16.here hx rfl (hb hby at_137) rfl kk) ?_
  show Goes _ _ _ _ _ _ _ (T16.setTop (mkF m 139 _ [(.int v52), (.int v41), (.ref ob122)]))
  obtain ⟨cq17, kq17, qa17, qb17, qc17⟩ := isOf hZ rfl Eq16
  obtain ⟨_, _, ⟨T17, L17, k17, n17⟩, -, X17, ⟨Lc17, hQ17, l17, y17, z17⟩, st17⟩ := X16.virtualBack hx (y := (⟨"com/example/log_into_queues/logintoqueues/service/KeyIndexChains", "reaches", "(II)Z"⟩ : MethodName)) (z := (⟨"com/example/log_into_queues/logintoqueues/service/KeyIndexChains", "reaches", "(II)Z"⟩ : MethodName)) hown (mvT hZ (hw _ (List.mem_of_getElem? (i := 15) rfl))) (mvT hZ (hw _ (List.mem_of_getElem? (i := 16) rfl))) (notFace_of_selects (args := #[]) (mvT hZ (hw _ (List.mem_of_getElem? (i := 18) rfl)))) (mvT hZ (hw _ (List.mem_of_getElem? (i := 18) rfl))) (mvT hZ (hw _ (List.mem_of_getElem? (i := 17) rfl))) (by decide) (backOf (W := 0) (rm2 l Z a0 hw [] ob122 v41 v52 pa sa (plF [0, 0, v6, v14, v22, v30]) (szF [0, 0, v6, v14, v22, v30]) T16.heap n0 Z16 Fp16 Fs16 Ap16 As16 hpl6 hsz6 ck1 ck2) hZ (hw _ (List.mem_of_getElem? (i := 19) rfl)) (hw _ (List.mem_of_getElem? (i := 4) rfl)) (by decide) (by decide)) qa17 qc17 (g := (mkF m 139 #[.val (.int p0), .val (.int p1), .val (.int p2), .val (.int p3), .val (.int p4), .val (.int p5), .val (.int v6), .val (.int v14), .val (.int v22), .val (.int v30), .val (.int v41), .val (.int v52), .val (.ref ar56), .val (.ref ar90), .val (.ref ob122), .unset, .unset, .unset, .unset, .unset, .unset, .unset] [(.int v52), (.int v41), (.ref ob122)])) rfl (by rw [hml]; rfl) (Steps.refl _) (argsL := [(.int v41), (.int v52)]) (rest := []) (lenOf pd2 rfl) rfl (by show 2 * 0 + _ ≤ _; exact Nat.le_of_eq rfl) (hb hby at_139) (fun _ _ => ⟨rfl, rfl, (by decide : 5 + 0 ≤ _), (by decide : 26 + 0 ≤ _)⟩)
  dsimp only [Pt.U, Pt.locs, Pt.cells, Pt.slots] at X17 l17 y17 z17 st17 hQ17
  subst l17 y17 z17
  obtain ⟨rfl, Nq17, hh17⟩ := hQ17
  have N17 := Fr.app N16 Nq17
  refine Goes.go (fun _ kk => st17.trans kk) ?_
  show Goes _ _ _ _ _ _ _ (T17.setTop (mkF m 142 _ [(.int (reF (plF [0, 0, v6, v14, v22, v30]) (szF [0, 0, v6, v14, v22, v30]) v41 v52))]))
  generalize hv142 : (reF (plF [0, 0, v6, v14, v22, v30]) (szF [0, 0, v6, v14, v22, v30]) v41 v52) = v142
  refine Goes.go (fun _ kk => XS.istore X17.here hx rfl (hb hby at_142) rfl (l' := #[.val (.int p0), .val (.int p1), .val (.int p2), .val (.int p3), .val (.int p4), .val (.int p5), .val (.int v6), .val (.int v14), .val (.int v22), .val (.int v30), .val (.int v41), .val (.int v52), .val (.ref ar56), .val (.ref ar90), .val (.ref ob122), .val (.int v142), .unset, .unset, .unset, .unset, .unset, .unset]) rfl kk) ?_
  show Goes _ _ _ _ _ _ _ (T17.setTop (mkF m 144 #[.val (.int p0), .val (.int p1), .val (.int p2), .val (.int p3), .val (.int p4), .val (.int p5), .val (.int v6), .val (.int v14), .val (.int v22), .val (.int v30), .val (.int v41), .val (.int v52), .val (.ref ar56), .val (.ref ar90), .val (.ref ob122), .val (.int v142), .unset, .unset, .unset, .unset, .unset, .unset] []))
  refine Goes.go (fun _ kk => XS.iload X17.here hx rfl (hb hby at_144) rfl kk) ?_
  show Goes _ _ _ _ _ _ _ (T17.setTop (mkF m 146 _ [(.int v41)]))
  refine Goes.go (fun _ kk => XS.istore X17.here hx rfl (hb hby at_146) rfl (l' := #[.val (.int p0), .val (.int p1), .val (.int p2), .val (.int p3), .val (.int p4), .val (.int p5), .val (.int v6), .val (.int v14), .val (.int v22), .val (.int v30), .val (.int v41), .val (.int v52), .val (.ref ar56), .val (.ref ar90), .val (.ref ob122), .val (.int v142), .val (.int v41), .unset, .unset, .unset, .unset, .unset]) rfl kk) ?_
  show Goes _ _ _ _ _ _ _ (T17.setTop (mkF m 148 #[.val (.int p0), .val (.int p1), .val (.int p2), .val (.int p3), .val (.int p4), .val (.int p5), .val (.int v6), .val (.int v14), .val (.int v22), .val (.int v30), .val (.int v41), .val (.int v52), .val (.ref ar56), .val (.ref ar90), .val (.ref ob122), .val (.int v142), .val (.int v41), .unset, .unset, .unset, .unset, .unset] []))
  refine Goes.go (fun _ kk => XS.aload X17.here hx rfl (hb hby at_148) rfl rfl kk) ?_
  show Goes _ _ _ _ _ _ _ (T17.setTop (mkF m 150 _ [(.ref ar90)]))
  refine Goes.go (fun _ kk => XS.iload X17.here hx rfl (hb hby at_150) rfl kk) ?_
  show Goes _ _ _ _ _ _ _ (T17.setTop (mkF m 152 _ [(.int v41), (.ref ar90)]))
  refine Goes.go (own_ldI X17 hx hZ hh17 f_25 (j := v41) (v := (.int (gi [0, 0, v6, v14, v22, v30] v41))) (okB_0 ck1) (own_ati (xs := [0, 0, v6, v14, v22, v30]) (gi_at hlk6 ck1)) rfl rfl (hb hby at_152)) ?_
  show Goes _ _ _ _ _ _ _ (T17.setTop (mkF m 153 _ [(.int (gi [0, 0, v6, v14, v22, v30] v41))]))
  generalize hv153 : (gi [0, 0, v6, v14, v22, v30] v41) = v153
  refine Goes.go (fun _ kk => XS.istore X17.here hx rfl (hb hby at_153) rfl (l' := #[.val (.int p0), .val (.int p1), .val (.int p2), .val (.int p3), .val (.int p4), .val (.int p5), .val (.int v6), .val (.int v14), .val (.int v22), .val (.int v30), .val (.int v41), .val (.int v52), .val (.ref ar56), .val (.ref ar90), .val (.ref ob122), .val (.int v142), .val (.int v41), .val (.int v153), .unset, .unset, .unset, .unset]) rfl kk) ?_
  show Goes _ _ _ _ _ _ _ (T17.setTop (mkF m 155 #[.val (.int p0), .val (.int p1), .val (.int p2), .val (.int p3), .val (.int p4), .val (.int p5), .val (.int v6), .val (.int v14), .val (.int v22), .val (.int v30), .val (.int v41), .val (.int v52), .val (.ref ar56), .val (.ref ar90), .val (.ref ob122), .val (.int v142), .val (.int v41), .val (.int v153), .unset, .unset, .unset, .unset] []))
  refine Goes.go (fun _ kk => XS.aload X17.here hx rfl (hb hby at_155) rfl rfl kk) ?_
  show Goes _ _ _ _ _ _ _ (T17.setTop (mkF m 157 _ [(.ref ar90)]))
  refine Goes.go (fun _ kk => XS.iload X17.here hx rfl (hb hby at_157) rfl kk) ?_
  show Goes _ _ _ _ _ _ _ (T17.setTop (mkF m 159 _ [(.int v153), (.ref ar90)]))
  refine Goes.go (own_ldI X17 hx hZ hh17 f_25 (j := v153) (v := (.int (gi [0, 0, v6, v14, v22, v30] v153))) (okB_0 (by rw [hv153] at ck3; exact ck3)) (own_ati (xs := [0, 0, v6, v14, v22, v30]) (gi_at hlk6 (by rw [hv153] at ck3; exact ck3))) rfl rfl (hb hby at_159)) ?_
  show Goes _ _ _ _ _ _ _ (T17.setTop (mkF m 160 _ [(.int (gi [0, 0, v6, v14, v22, v30] v153))]))
  generalize hv160 : (gi [0, 0, v6, v14, v22, v30] v153) = v160
  refine Goes.go (fun _ kk => XS.istore X17.here hx rfl (hb hby at_160) rfl (l' := #[.val (.int p0), .val (.int p1), .val (.int p2), .val (.int p3), .val (.int p4), .val (.int p5), .val (.int v6), .val (.int v14), .val (.int v22), .val (.int v30), .val (.int v41), .val (.int v52), .val (.ref ar56), .val (.ref ar90), .val (.ref ob122), .val (.int v142), .val (.int v41), .val (.int v153), .val (.int v160), .unset, .unset, .unset]) rfl kk) ?_
  show Goes _ _ _ _ _ _ _ (T17.setTop (mkF m 162 #[.val (.int p0), .val (.int p1), .val (.int p2), .val (.int p3), .val (.int p4), .val (.int p5), .val (.int v6), .val (.int v14), .val (.int v22), .val (.int v30), .val (.int v41), .val (.int v52), .val (.ref ar56), .val (.ref ar90), .val (.ref ob122), .val (.int v142), .val (.int v41), .val (.int v153), .val (.int v160), .unset, .unset, .unset] []))
  refine Goes.go (fun _ kk => XS.aload X17.here hx rfl (hb hby at_162) rfl rfl kk) ?_
  show Goes _ _ _ _ _ _ _ (T17.setTop (mkF m 164 _ [(.ref ar90)]))
  refine Goes.go (fun _ kk => XS.iload X17.here hx rfl (hb hby at_164) rfl kk) ?_
  show Goes _ _ _ _ _ _ _ (T17.setTop (mkF m 166 _ [(.int v160), (.ref ar90)]))
  refine Goes.go (own_ldI X17 hx hZ hh17 f_25 (j := v160) (v := (.int (gi [0, 0, v6, v14, v22, v30] v160))) (okB_0 (by rw [hv153, hv160] at ck4; exact ck4)) (own_ati (xs := [0, 0, v6, v14, v22, v30]) (gi_at hlk6 (by rw [hv153, hv160] at ck4; exact ck4))) rfl rfl (hb hby at_166)) ?_
  show Goes _ _ _ _ _ _ _ (T17.setTop (mkF m 167 _ [(.int (gi [0, 0, v6, v14, v22, v30] v160))]))
  generalize hv167 : (gi [0, 0, v6, v14, v22, v30] v160) = v167
  refine Goes.go (fun _ kk => XS.istore X17.here hx rfl (hb hby at_167) rfl (l' := #[.val (.int p0), .val (.int p1), .val (.int p2), .val (.int p3), .val (.int p4), .val (.int p5), .val (.int v6), .val (.int v14), .val (.int v22), .val (.int v30), .val (.int v41), .val (.int v52), .val (.ref ar56), .val (.ref ar90), .val (.ref ob122), .val (.int v142), .val (.int v41), .val (.int v153), .val (.int v160), .val (.int v167), .unset, .unset]) rfl kk) ?_
  show Goes _ _ _ _ _ _ _ (T17.setTop (mkF m 169 #[.val (.int p0), .val (.int p1), .val (.int p2), .val (.int p3), .val (.int p4), .val (.int p5), .val (.int v6), .val (.int v14), .val (.int v22), .val (.int v30), .val (.int v41), .val (.int v52), .val (.ref ar56), .val (.ref ar90), .val (.ref ob122), .val (.int v142), .val (.int v41), .val (.int v153), .val (.int v160), .val (.int v167), .unset, .unset] []))
  refine Goes.go (fun _ kk => XS.aload X17.here hx rfl (hb hby at_169) rfl rfl kk) ?_
  show Goes _ _ _ _ _ _ _ (T17.setTop (mkF m 171 _ [(.ref ar90)]))
  refine Goes.go (fun _ kk => XS.iload X17.here hx rfl (hb hby at_171) rfl kk) ?_
  show Goes _ _ _ _ _ _ _ (T17.setTop (mkF m 173 _ [(.int v167), (.ref ar90)]))
  refine Goes.go (own_ldI X17 hx hZ hh17 f_25 (j := v167) (v := (.int (gi [0, 0, v6, v14, v22, v30] v167))) (okB_0 (by rw [hv153, hv160, hv167] at ck5; exact ck5)) (own_ati (xs := [0, 0, v6, v14, v22, v30]) (gi_at hlk6 (by rw [hv153, hv160, hv167] at ck5; exact ck5))) rfl rfl (hb hby at_173)) ?_
  show Goes _ _ _ _ _ _ _ (T17.setTop (mkF m 174 _ [(.int (gi [0, 0, v6, v14, v22, v30] v167))]))
  generalize hv174 : (gi [0, 0, v6, v14, v22, v30] v167) = v174
  refine Goes.go (fun _ kk => XS.istore X17.here hx rfl (hb hby at_174) rfl (l' := #[.val (.int p0), .val (.int p1), .val (.int p2), .val (.int p3), .val (.int p4), .val (.int p5), .val (.int v6), .val (.int v14), .val (.int v22), .val (.int v30), .val (.int v41), .val (.int v52), .val (.ref ar56), .val (.ref ar90), .val (.ref ob122), .val (.int v142), .val (.int v41), .val (.int v153), .val (.int v160), .val (.int v167), .val (.int v174), .unset]) rfl kk) ?_
  show Goes _ _ _ _ _ _ _ (T17.setTop (mkF m 176 #[.val (.int p0), .val (.int p1), .val (.int p2), .val (.int p3), .val (.int p4), .val (.int p5), .val (.int v6), .val (.int v14), .val (.int v22), .val (.int v30), .val (.int v41), .val (.int v52), .val (.ref ar56), .val (.ref ar90), .val (.ref ob122), .val (.int v142), .val (.int v41), .val (.int v153), .val (.int v160), .val (.int v167), .val (.int v174), .unset] []))
  refine Goes.go (fun _ kk => XS.iload X17.here hx rfl (hb hby at_176) rfl kk) ?_
  show Goes _ _ _ _ _ _ _ (T17.setTop (mkF m 178 _ [(.int v41)]))
  refine Goes.go (fun _ kk => XS.iload X17.here hx rfl (hb hby at_178) rfl kk) ?_
  show Goes _ _ _ _ _ _ _ (T17.setTop (mkF m 180 _ [(.int v52), (.int v41)]))
  by_cases c180 : v41 = v52
  · skip
    refine Goes.go (fun _ kk => XS.icmpYes X17.here hx rfl (pc0 := 180) (pc' := 211) rfl (hb hby at_180) rfl (XT.ii_eq_t c180) (by decide) (by decide) kk) ?_
    show Goes _ _ _ _ _ _ _ (T17.setTop (mkF m 211 _ []))
    refine Goes.go (fun _ kk => XS.iconst X17.here hx rfl (hb hby at_211) kk) ?_
    show Goes _ _ _ _ _ _ _ (T17.setTop (mkF m 212 _ [(.int (1 : Int32))]))
    refine Goes.go (fun _ kk => XS.goto X17.here hx rfl (pc0 := 212) (pc' := 216) rfl (hb hby at_212) (by decide) (by decide) kk) ?_
    show Goes _ _ _ _ _ _ _ (T17.setTop (mkF m 216 _ [(.int (1 : Int32))]))
    refine Goes.go (fun _ kk => XS.istore X17.here hx rfl (hb hby at_216) rfl (l' := #[.val (.int p0), .val (.int p1), .val (.int p2), .val (.int p3), .val (.int p4), .val (.int p5), .val (.int v6), .val (.int v14), .val (.int v22), .val (.int v30), .val (.int v41), .val (.int v52), .val (.ref ar56), .val (.ref ar90), .val (.ref ob122), .val (.int v142), .val (.int v41), .val (.int v153), .val (.int v160), .val (.int v167), .val (.int v174), .val (.int (1 : Int32))]) rfl kk) ?_
    show Goes _ _ _ _ _ _ _ (T17.setTop (mkF m 218 #[.val (.int p0), .val (.int p1), .val (.int p2), .val (.int p3), .val (.int p4), .val (.int p5), .val (.int v6), .val (.int v14), .val (.int v22), .val (.int v30), .val (.int v41), .val (.int v52), .val (.ref ar56), .val (.ref ar90), .val (.ref ob122), .val (.int v142), .val (.int v41), .val (.int v153), .val (.int v160), .val (.int v167), .val (.int v174), .val (.int (1 : Int32))] []))
    refine Goes.go (fun _ kk => XS.iload X17.here hx rfl (hb hby at_218) rfl kk) ?_
    show Goes _ _ _ _ _ _ _ (T17.setTop (mkF m 220 _ [(.int v142)]))
    refine Goes.go (fun _ kk => XS.iload X17.here hx rfl (hb hby at_220) rfl kk) ?_
    show Goes _ _ _ _ _ _ _ (T17.setTop (mkF m 222 _ [(.int (1 : Int32)), (.int v142)]))
    refine Goes.go (fun _ kk => XS.icmpNo X17.here hx rfl (hb hby at_222) rfl (XT.ii_ne_f (by rw [← hv142, hfin]; unfold exF; rw [hv153, hv160, hv167, hv174, if_pos c180])) kk) ?_
    show Goes _ _ _ _ _ _ _ (T17.setTop (mkF m 225 _ []))
    refine Goes.go (fun _ kk => XS.iconst X17.here hx rfl (hb hby at_225) kk) ?_
    show Goes _ _ _ _ _ _ _ (T17.setTop (mkF m 226 _ [(.int (1 : Int32))]))
    refine Goes.go (fun _ kk => XS.goto X17.here hx rfl (pc0 := 226) (pc' := 230) rfl (hb hby at_226) (by decide) (by decide) kk) ?_
    show Goes _ _ _ _ _ _ _ (T17.setTop (mkF m 230 _ [(.int (1 : Int32))]))
    exact Goes.outZ X17 hx hlk hret rfl (hb hby at_230) hh17 ⟨rfl, N17⟩ (by decide) (by decide)
  · skip
    refine Goes.go (fun _ kk => XS.icmpNo X17.here hx rfl (hb hby at_180) rfl (XT.ii_eq_f c180) kk) ?_
    show Goes _ _ _ _ _ _ _ (T17.setTop (mkF m 183 _ []))
    refine Goes.go (fun _ kk => XS.iload X17.here hx rfl (hb hby at_183) rfl kk) ?_
    show Goes _ _ _ _ _ _ _ (T17.setTop (mkF m 185 _ [(.int v153)]))
    refine Goes.go (fun _ kk => XS.iload X17.here hx rfl (hb hby at_185) rfl kk) ?_
    show Goes _ _ _ _ _ _ _ (T17.setTop (mkF m 187 _ [(.int v52), (.int v153)]))
    by_cases c187 : v153 = v52
    · skip
      refine Goes.go (fun _ kk => XS.icmpYes X17.here hx rfl (pc0 := 187) (pc' := 211) rfl (hb hby at_187) rfl (XT.ii_eq_t c187) (by decide) (by decide) kk) ?_
      show Goes _ _ _ _ _ _ _ (T17.setTop (mkF m 211 _ []))
      refine Goes.go (fun _ kk => XS.iconst X17.here hx rfl (hb hby at_211) kk) ?_
      show Goes _ _ _ _ _ _ _ (T17.setTop (mkF m 212 _ [(.int (1 : Int32))]))
      refine Goes.go (fun _ kk => XS.goto X17.here hx rfl (pc0 := 212) (pc' := 216) rfl (hb hby at_212) (by decide) (by decide) kk) ?_
      show Goes _ _ _ _ _ _ _ (T17.setTop (mkF m 216 _ [(.int (1 : Int32))]))
      refine Goes.go (fun _ kk => XS.istore X17.here hx rfl (hb hby at_216) rfl (l' := #[.val (.int p0), .val (.int p1), .val (.int p2), .val (.int p3), .val (.int p4), .val (.int p5), .val (.int v6), .val (.int v14), .val (.int v22), .val (.int v30), .val (.int v41), .val (.int v52), .val (.ref ar56), .val (.ref ar90), .val (.ref ob122), .val (.int v142), .val (.int v41), .val (.int v153), .val (.int v160), .val (.int v167), .val (.int v174), .val (.int (1 : Int32))]) rfl kk) ?_
      show Goes _ _ _ _ _ _ _ (T17.setTop (mkF m 218 #[.val (.int p0), .val (.int p1), .val (.int p2), .val (.int p3), .val (.int p4), .val (.int p5), .val (.int v6), .val (.int v14), .val (.int v22), .val (.int v30), .val (.int v41), .val (.int v52), .val (.ref ar56), .val (.ref ar90), .val (.ref ob122), .val (.int v142), .val (.int v41), .val (.int v153), .val (.int v160), .val (.int v167), .val (.int v174), .val (.int (1 : Int32))] []))
      refine Goes.go (fun _ kk => XS.iload X17.here hx rfl (hb hby at_218) rfl kk) ?_
      show Goes _ _ _ _ _ _ _ (T17.setTop (mkF m 220 _ [(.int v142)]))
      refine Goes.go (fun _ kk => XS.iload X17.here hx rfl (hb hby at_220) rfl kk) ?_
      show Goes _ _ _ _ _ _ _ (T17.setTop (mkF m 222 _ [(.int (1 : Int32)), (.int v142)]))
      refine Goes.go (fun _ kk => XS.icmpNo X17.here hx rfl (hb hby at_222) rfl (XT.ii_ne_f (by rw [← hv142, hfin]; unfold exF; rw [hv153, hv160, hv167, hv174, if_neg c180, if_pos c187])) kk) ?_
      show Goes _ _ _ _ _ _ _ (T17.setTop (mkF m 225 _ []))
      refine Goes.go (fun _ kk => XS.iconst X17.here hx rfl (hb hby at_225) kk) ?_
      show Goes _ _ _ _ _ _ _ (T17.setTop (mkF m 226 _ [(.int (1 : Int32))]))
      refine Goes.go (fun _ kk => XS.goto X17.here hx rfl (pc0 := 226) (pc' := 230) rfl (hb hby at_226) (by decide) (by decide) kk) ?_
      show Goes _ _ _ _ _ _ _ (T17.setTop (mkF m 230 _ [(.int (1 : Int32))]))
      exact Goes.outZ X17 hx hlk hret rfl (hb hby at_230) hh17 ⟨rfl, N17⟩ (by decide) (by decide)
    · skip
      refine Goes.go (fun _ kk => XS.icmpNo X17.here hx rfl (hb hby at_187) rfl (XT.ii_eq_f c187) kk) ?_
      show Goes _ _ _ _ _ _ _ (T17.setTop (mkF m 190 _ []))
      refine Goes.go (fun _ kk => XS.iload X17.here hx rfl (hb hby at_190) rfl kk) ?_
      show Goes _ _ _ _ _ _ _ (T17.setTop (mkF m 192 _ [(.int v160)]))
      refine Goes.go (fun _ kk => XS.iload X17.here hx rfl (hb hby at_192) rfl kk) ?_
      show Goes _ _ _ _ _ _ _ (T17.setTop (mkF m 194 _ [(.int v52), (.int v160)]))
      by_cases c194 : v160 = v52
      · skip
        refine Goes.go (fun _ kk => XS.icmpYes X17.here hx rfl (pc0 := 194) (pc' := 211) rfl (hb hby at_194) rfl (XT.ii_eq_t c194) (by decide) (by decide) kk) ?_
        show Goes _ _ _ _ _ _ _ (T17.setTop (mkF m 211 _ []))
        refine Goes.go (fun _ kk => XS.iconst X17.here hx rfl (hb hby at_211) kk) ?_
        show Goes _ _ _ _ _ _ _ (T17.setTop (mkF m 212 _ [(.int (1 : Int32))]))
        refine Goes.go (fun _ kk => XS.goto X17.here hx rfl (pc0 := 212) (pc' := 216) rfl (hb hby at_212) (by decide) (by decide) kk) ?_
        show Goes _ _ _ _ _ _ _ (T17.setTop (mkF m 216 _ [(.int (1 : Int32))]))
        refine Goes.go (fun _ kk => XS.istore X17.here hx rfl (hb hby at_216) rfl (l' := #[.val (.int p0), .val (.int p1), .val (.int p2), .val (.int p3), .val (.int p4), .val (.int p5), .val (.int v6), .val (.int v14), .val (.int v22), .val (.int v30), .val (.int v41), .val (.int v52), .val (.ref ar56), .val (.ref ar90), .val (.ref ob122), .val (.int v142), .val (.int v41), .val (.int v153), .val (.int v160), .val (.int v167), .val (.int v174), .val (.int (1 : Int32))]) rfl kk) ?_
        show Goes _ _ _ _ _ _ _ (T17.setTop (mkF m 218 #[.val (.int p0), .val (.int p1), .val (.int p2), .val (.int p3), .val (.int p4), .val (.int p5), .val (.int v6), .val (.int v14), .val (.int v22), .val (.int v30), .val (.int v41), .val (.int v52), .val (.ref ar56), .val (.ref ar90), .val (.ref ob122), .val (.int v142), .val (.int v41), .val (.int v153), .val (.int v160), .val (.int v167), .val (.int v174), .val (.int (1 : Int32))] []))
        refine Goes.go (fun _ kk => XS.iload X17.here hx rfl (hb hby at_218) rfl kk) ?_
        show Goes _ _ _ _ _ _ _ (T17.setTop (mkF m 220 _ [(.int v142)]))
        refine Goes.go (fun _ kk => XS.iload X17.here hx rfl (hb hby at_220) rfl kk) ?_
        show Goes _ _ _ _ _ _ _ (T17.setTop (mkF m 222 _ [(.int (1 : Int32)), (.int v142)]))
        refine Goes.go (fun _ kk => XS.icmpNo X17.here hx rfl (hb hby at_222) rfl (XT.ii_ne_f (by rw [← hv142, hfin]; unfold exF; rw [hv153, hv160, hv167, hv174, if_neg c180, if_neg c187, if_pos c194])) kk) ?_
        show Goes _ _ _ _ _ _ _ (T17.setTop (mkF m 225 _ []))
        refine Goes.go (fun _ kk => XS.iconst X17.here hx rfl (hb hby at_225) kk) ?_
        show Goes _ _ _ _ _ _ _ (T17.setTop (mkF m 226 _ [(.int (1 : Int32))]))
        refine Goes.go (fun _ kk => XS.goto X17.here hx rfl (pc0 := 226) (pc' := 230) rfl (hb hby at_226) (by decide) (by decide) kk) ?_
        show Goes _ _ _ _ _ _ _ (T17.setTop (mkF m 230 _ [(.int (1 : Int32))]))
        exact Goes.outZ X17 hx hlk hret rfl (hb hby at_230) hh17 ⟨rfl, N17⟩ (by decide) (by decide)
      · skip
        refine Goes.go (fun _ kk => XS.icmpNo X17.here hx rfl (hb hby at_194) rfl (XT.ii_eq_f c194) kk) ?_
        show Goes _ _ _ _ _ _ _ (T17.setTop (mkF m 197 _ []))
        refine Goes.go (fun _ kk => XS.iload X17.here hx rfl (hb hby at_197) rfl kk) ?_
        show Goes _ _ _ _ _ _ _ (T17.setTop (mkF m 199 _ [(.int v167)]))
        refine Goes.go (fun _ kk => XS.iload X17.here hx rfl (hb hby at_199) rfl kk) ?_
        show Goes _ _ _ _ _ _ _ (T17.setTop (mkF m 201 _ [(.int v52), (.int v167)]))
        by_cases c201 : v167 = v52
        · skip
          refine Goes.go (fun _ kk => XS.icmpYes X17.here hx rfl (pc0 := 201) (pc' := 211) rfl (hb hby at_201) rfl (XT.ii_eq_t c201) (by decide) (by decide) kk) ?_
          show Goes _ _ _ _ _ _ _ (T17.setTop (mkF m 211 _ []))
          refine Goes.go (fun _ kk => XS.iconst X17.here hx rfl (hb hby at_211) kk) ?_
          show Goes _ _ _ _ _ _ _ (T17.setTop (mkF m 212 _ [(.int (1 : Int32))]))
          refine Goes.go (fun _ kk => XS.goto X17.here hx rfl (pc0 := 212) (pc' := 216) rfl (hb hby at_212) (by decide) (by decide) kk) ?_
          show Goes _ _ _ _ _ _ _ (T17.setTop (mkF m 216 _ [(.int (1 : Int32))]))
          refine Goes.go (fun _ kk => XS.istore X17.here hx rfl (hb hby at_216) rfl (l' := #[.val (.int p0), .val (.int p1), .val (.int p2), .val (.int p3), .val (.int p4), .val (.int p5), .val (.int v6), .val (.int v14), .val (.int v22), .val (.int v30), .val (.int v41), .val (.int v52), .val (.ref ar56), .val (.ref ar90), .val (.ref ob122), .val (.int v142), .val (.int v41), .val (.int v153), .val (.int v160), .val (.int v167), .val (.int v174), .val (.int (1 : Int32))]) rfl kk) ?_
          show Goes _ _ _ _ _ _ _ (T17.setTop (mkF m 218 #[.val (.int p0), .val (.int p1), .val (.int p2), .val (.int p3), .val (.int p4), .val (.int p5), .val (.int v6), .val (.int v14), .val (.int v22), .val (.int v30), .val (.int v41), .val (.int v52), .val (.ref ar56), .val (.ref ar90), .val (.ref ob122), .val (.int v142), .val (.int v41), .val (.int v153), .val (.int v160), .val (.int v167), .val (.int v174), .val (.int (1 : Int32))] []))
          refine Goes.go (fun _ kk => XS.iload X17.here hx rfl (hb hby at_218) rfl kk) ?_
          show Goes _ _ _ _ _ _ _ (T17.setTop (mkF m 220 _ [(.int v142)]))
          refine Goes.go (fun _ kk => XS.iload X17.here hx rfl (hb hby at_220) rfl kk) ?_
          show Goes _ _ _ _ _ _ _ (T17.setTop (mkF m 222 _ [(.int (1 : Int32)), (.int v142)]))
          refine Goes.go (fun _ kk => XS.icmpNo X17.here hx rfl (hb hby at_222) rfl (XT.ii_ne_f (by rw [← hv142, hfin]; unfold exF; rw [hv153, hv160, hv167, hv174, if_neg c180, if_neg c187, if_neg c194, if_pos c201])) kk) ?_
          show Goes _ _ _ _ _ _ _ (T17.setTop (mkF m 225 _ []))
          refine Goes.go (fun _ kk => XS.iconst X17.here hx rfl (hb hby at_225) kk) ?_
          show Goes _ _ _ _ _ _ _ (T17.setTop (mkF m 226 _ [(.int (1 : Int32))]))
          refine Goes.go (fun _ kk => XS.goto X17.here hx rfl (pc0 := 226) (pc' := 230) rfl (hb hby at_226) (by decide) (by decide) kk) ?_
          show Goes _ _ _ _ _ _ _ (T17.setTop (mkF m 230 _ [(.int (1 : Int32))]))
          exact Goes.outZ X17 hx hlk hret rfl (hb hby at_230) hh17 ⟨rfl, N17⟩ (by decide) (by decide)
        · skip
          refine Goes.go (fun _ kk => XS.icmpNo X17.here hx rfl (hb hby at_201) rfl (XT.ii_eq_f c201) kk) ?_
          show Goes _ _ _ _ _ _ _ (T17.setTop (mkF m 204 _ []))
          refine Goes.go (fun _ kk => XS.iload X17.here hx rfl (hb hby at_204) rfl kk) ?_
          show Goes _ _ _ _ _ _ _ (T17.setTop (mkF m 206 _ [(.int v174)]))
          refine Goes.go (fun _ kk => XS.iload X17.here hx rfl (hb hby at_206) rfl kk) ?_
          show Goes _ _ _ _ _ _ _ (T17.setTop (mkF m 208 _ [(.int v52), (.int v174)]))
          by_cases c208 : v174 = v52
          · skip
            refine Goes.go (fun _ kk => XS.icmpNo X17.here hx rfl (hb hby at_208) rfl (XT.ii_ne_f c208) kk) ?_
            show Goes _ _ _ _ _ _ _ (T17.setTop (mkF m 211 _ []))
            refine Goes.go (fun _ kk => XS.iconst X17.here hx rfl (hb hby at_211) kk) ?_
            show Goes _ _ _ _ _ _ _ (T17.setTop (mkF m 212 _ [(.int (1 : Int32))]))
            refine Goes.go (fun _ kk => XS.goto X17.here hx rfl (pc0 := 212) (pc' := 216) rfl (hb hby at_212) (by decide) (by decide) kk) ?_
            show Goes _ _ _ _ _ _ _ (T17.setTop (mkF m 216 _ [(.int (1 : Int32))]))
            refine Goes.go (fun _ kk => XS.istore X17.here hx rfl (hb hby at_216) rfl (l' := #[.val (.int p0), .val (.int p1), .val (.int p2), .val (.int p3), .val (.int p4), .val (.int p5), .val (.int v6), .val (.int v14), .val (.int v22), .val (.int v30), .val (.int v41), .val (.int v52), .val (.ref ar56), .val (.ref ar90), .val (.ref ob122), .val (.int v142), .val (.int v41), .val (.int v153), .val (.int v160), .val (.int v167), .val (.int v174), .val (.int (1 : Int32))]) rfl kk) ?_
            show Goes _ _ _ _ _ _ _ (T17.setTop (mkF m 218 #[.val (.int p0), .val (.int p1), .val (.int p2), .val (.int p3), .val (.int p4), .val (.int p5), .val (.int v6), .val (.int v14), .val (.int v22), .val (.int v30), .val (.int v41), .val (.int v52), .val (.ref ar56), .val (.ref ar90), .val (.ref ob122), .val (.int v142), .val (.int v41), .val (.int v153), .val (.int v160), .val (.int v167), .val (.int v174), .val (.int (1 : Int32))] []))
            refine Goes.go (fun _ kk => XS.iload X17.here hx rfl (hb hby at_218) rfl kk) ?_
            show Goes _ _ _ _ _ _ _ (T17.setTop (mkF m 220 _ [(.int v142)]))
            refine Goes.go (fun _ kk => XS.iload X17.here hx rfl (hb hby at_220) rfl kk) ?_
            show Goes _ _ _ _ _ _ _ (T17.setTop (mkF m 222 _ [(.int (1 : Int32)), (.int v142)]))
            refine Goes.go (fun _ kk => XS.icmpNo X17.here hx rfl (hb hby at_222) rfl (XT.ii_ne_f (by rw [← hv142, hfin]; unfold exF; rw [hv153, hv160, hv167, hv174, if_neg c180, if_neg c187, if_neg c194, if_neg c201, if_pos c208])) kk) ?_
            show Goes _ _ _ _ _ _ _ (T17.setTop (mkF m 225 _ []))
            refine Goes.go (fun _ kk => XS.iconst X17.here hx rfl (hb hby at_225) kk) ?_
            show Goes _ _ _ _ _ _ _ (T17.setTop (mkF m 226 _ [(.int (1 : Int32))]))
            refine Goes.go (fun _ kk => XS.goto X17.here hx rfl (pc0 := 226) (pc' := 230) rfl (hb hby at_226) (by decide) (by decide) kk) ?_
            show Goes _ _ _ _ _ _ _ (T17.setTop (mkF m 230 _ [(.int (1 : Int32))]))
            exact Goes.outZ X17 hx hlk hret rfl (hb hby at_230) hh17 ⟨rfl, N17⟩ (by decide) (by decide)
          · skip
            refine Goes.go (fun _ kk => XS.icmpYes X17.here hx rfl (pc0 := 208) (pc' := 215) rfl (hb hby at_208) rfl (XT.ii_ne_t c208) (by decide) (by decide) kk) ?_
            show Goes _ _ _ _ _ _ _ (T17.setTop (mkF m 215 _ []))
            refine Goes.go (fun _ kk => XS.iconst X17.here hx rfl (hb hby at_215) kk) ?_
            show Goes _ _ _ _ _ _ _ (T17.setTop (mkF m 216 _ [(.int (0 : Int32))]))
            refine Goes.go (fun _ kk => XS.istore X17.here hx rfl (hb hby at_216) rfl (l' := #[.val (.int p0), .val (.int p1), .val (.int p2), .val (.int p3), .val (.int p4), .val (.int p5), .val (.int v6), .val (.int v14), .val (.int v22), .val (.int v30), .val (.int v41), .val (.int v52), .val (.ref ar56), .val (.ref ar90), .val (.ref ob122), .val (.int v142), .val (.int v41), .val (.int v153), .val (.int v160), .val (.int v167), .val (.int v174), .val (.int (0 : Int32))]) rfl kk) ?_
            show Goes _ _ _ _ _ _ _ (T17.setTop (mkF m 218 #[.val (.int p0), .val (.int p1), .val (.int p2), .val (.int p3), .val (.int p4), .val (.int p5), .val (.int v6), .val (.int v14), .val (.int v22), .val (.int v30), .val (.int v41), .val (.int v52), .val (.ref ar56), .val (.ref ar90), .val (.ref ob122), .val (.int v142), .val (.int v41), .val (.int v153), .val (.int v160), .val (.int v167), .val (.int v174), .val (.int (0 : Int32))] []))
            refine Goes.go (fun _ kk => XS.iload X17.here hx rfl (hb hby at_218) rfl kk) ?_
            show Goes _ _ _ _ _ _ _ (T17.setTop (mkF m 220 _ [(.int v142)]))
            refine Goes.go (fun _ kk => XS.iload X17.here hx rfl (hb hby at_220) rfl kk) ?_
            show Goes _ _ _ _ _ _ _ (T17.setTop (mkF m 222 _ [(.int (0 : Int32)), (.int v142)]))
            refine Goes.go (fun _ kk => XS.icmpNo X17.here hx rfl (hb hby at_222) rfl (XT.ii_ne_f (by rw [← hv142, hfin]; unfold exF; rw [hv153, hv160, hv167, hv174, if_neg c180, if_neg c187, if_neg c194, if_neg c201, if_neg c208])) kk) ?_
            show Goes _ _ _ _ _ _ _ (T17.setTop (mkF m 225 _ []))
            refine Goes.go (fun _ kk => XS.iconst X17.here hx rfl (hb hby at_225) kk) ?_
            show Goes _ _ _ _ _ _ _ (T17.setTop (mkF m 226 _ [(.int (1 : Int32))]))
            refine Goes.go (fun _ kk => XS.goto X17.here hx rfl (pc0 := 226) (pc' := 230) rfl (hb hby at_226) (by decide) (by decide) kk) ?_
            show Goes _ _ _ _ _ _ _ (T17.setTop (mkF m 230 _ [(.int (1 : Int32))]))
            exact Goes.outZ X17 hx hlk hret rfl (hb hby at_230) hh17 ⟨rfl, N17⟩ (by decide) (by decide)
set_option maxRecDepth 65536 in
set_option maxHeartbeats 40000000 in
theorem comes_1 {Post : Tables → Env → Array Value → State → Outcome → State → Prop} (hpost : ∀ tb e args s v u, (limb_1_1.after args s (.returned v) u = true ∧ limb_1_2.after args s (.returned v) u = true ∧ True) → FrameEnd s (.returned v) u (Jvm.fieldLocs frame_1_writes args s ++ Jvm.arrayLocs frame_1_arrays args s ++ Jvm.staticLocs frame_1_statics s) 24 128 → Post tb e args s (.returned v) u) :
    ArmFor flags0 classFile x code maxLocals ret World_1 tables_1 room_1 Calls_1 rest_1 Pre_1 Post := by
  intro l hfl _ _ p e ha hc hk s m args below hf hA hF happ hP
  obtain ⟨hcalls, hrest, hpre⟩ := hP
  obtain ⟨-, -, -, hnamed, -, -, -, hat⟩ := (Spec.applies_iff hf).mp happ
  obtain ⟨hg, hn⟩ := and_e (Cond.before_iff.mp (show (Jvm.Cond.and given_1 narrow_1).before args s = true from hpre))
  obtain ⟨gc, gr0⟩ := and_e hg
  obtain ⟨g0, gr1⟩ := and_e gr0
  obtain ⟨g1, gr2⟩ := and_e gr1
  obtain ⟨g2, gr3⟩ := and_e gr2
  obtain ⟨g3, gr4⟩ := and_e gr3
  obtain ⟨g4, gr5⟩ := and_e gr4
  obtain ⟨w0, w1, w2, w3, w4, w5, rfl⟩ : ∃ w0 w1 w2 w3 w4 w5 : Value, args = #[w0, w1, w2, w3, w4, w5] := by
    have hs : args.size = 6 := by simpa [Cond.value, given_1] using gc
    obtain ⟨L⟩ := args
    match L, hs with
    | [w0, w1, w2, w3, w4, w5], _ => exact ⟨w0, w1, w2, w3, w4, w5, rfl⟩
  have hw := fun d (hd : d ∈ tables_1) => atoms_spec (ws := Jvm.Cond.code x code maxLocals ret :: tables_1) hat d (List.mem_cons_of_mem _ hd)
  obtain ⟨i0, ei0⟩ := is_v g0
  obtain rfl : w0 = (.int i0) := Option.some.inj ei0
  obtain ⟨i1, ei1⟩ := is_v g1
  obtain rfl : w1 = (.int i1) := Option.some.inj ei1
  obtain ⟨i2, ei2⟩ := is_v g2
  obtain rfl : w2 = (.int i2) := Option.some.inj ei2
  obtain ⟨i3, ei3⟩ := is_v g3
  obtain rfl : w3 = (.int i3) := Option.some.inj ei3
  obtain ⟨i4, ei4⟩ := is_v g4
  obtain rfl : w4 = (.int i4) := Option.some.inj ei4
  obtain ⟨i5, ei5⟩ := is_v gr5
  obtain rfl : w5 = (.int i5) := Option.some.inj ei5
  obtain ⟨n, o, h1, h2, h3, _, L, rfl, ⟨rfl, N⟩, hq⟩ := rm0 l s _ hw tables_1 i0 i1 i2 i3 i4 i5 s.heap s.heap.size (Nat.le_refl _)  p e ha hc hk s m _ below hf ((Spec.applies_iff_loose hf).mp happ).1 ⟨rfl, State.Warmed39.refl s, rfl⟩ trivial
  refine ⟨n, _, h1, h2, h3, hpost _ _ _ _ _ _ ⟨Cond.after_iff.mpr rfl, Cond.after_iff.mpr (eq_i res_at (Term.int_eval (1)) rfl), trivial⟩ ⟨hq.1, hq.2.1, (hq.2.2.sift fun y hy => Or.inr (N y hy)).mono (by decide) (by decide)⟩⟩
theorem main_1_1 : Claimed_1_1 := comes_1 fun _ _ _ _ _ _ h hF => ⟨h.1, hF⟩
theorem main_1_2 : Claimed_1_2 := comes_1 fun _ _ _ _ _ _ h hF => ⟨h.2.1, hF⟩
end Jvm.Pilot.@@N@@
namespace Jvm.Pilot.@@N@@
open Jvm Jvm.ClassFile Sem Op Lib Jvm.Free Jvm.Stand Jvm.Pilot.@@N@@.Jvm.D
/-! MADE BY PROGRAM (witnessworld.py) out of the Statement's table words and the real class files: 9 classes; the members and pool entries that the words name. The judged class is class 1, her method 1. -/
namespace start1
open Jvm.ClassFile
def u (s : String) : CpInfo := .utf8 (stringToUtf16 s)
/-- a pool by its gaps: so many unusable entries, then the entry; so many at the end -/
def gap : Nat → List CpInfo → List CpInfo
  | 0, r => r
  | n + 1, r => .unusable :: gap n r
def poolList (es : List (Nat × CpInfo)) (last : Nat) : List CpInfo := es.foldr (fun e r => gap e.1 (e.2 :: r)) (gap last [])
def pool (es : List (Nat × CpInfo)) (last : Nat) : Array CpInfo := ⟨poolList es last⟩
def fileOf (pool : Array CpInfo) (this : Nat) (attrs : Array Attribute := #[]) (ms : Array MethodInfo := #[]) (fl : Nat := 33) (sup : Nat := 0) (ifs : Array Nat := #[]) (fds : Array FieldInfo := #[]) : ClassFile where
  minorVersion := 0
  majorVersion := 65
  constantPool := pool
  accessFlags := fl
  thisClass := this
  superClass := sup
  interfaces := ifs
  fields := fds
  methods := ms
  attributes := attrs
def plain (name : String) (sup : Option ClassId) : Class where
  name := name
  kind := .ordinary
  loader := none
  accessFlags := 33
  super := sup
  interfaces := #[]
  cf := none
  fields := #[]
  methods := #[]
  instanceTypes := #[]
  staticTypes := #[]
  resolved := #[]
  callSites := []
  init := .initialized
  statics := none
  mirror := none

def pool0 : Array CpInfo := pool [(5, u "<init>"), (0, u "()V"), (1, .class_ 10), (1, u "java/lang/Object")] 113

def k0c0 : Code := { maxStack := 0, maxLocals := 1, code := object_method_1_code, exceptionTable := #[], attributes := #[] }
def k0m0 : Method := { name := "<init>", desc := "()V", sig := { parameters := [], returnType := none }, accessFlags := 1, code := some k0c0 }
/-- java/lang/Object -/
def k0 : Class := { plain "java/lang/Object" none with
  accessFlags := 33
  interfaces := #[]
  cf := some (fileOf pool0 8 #[] #[{ accessFlags := 1, nameIndex := 5, descriptorIndex := 6, attributes := #[] }] 33 0 #[] #[])
  fields := #[]
  methods := #[k0m0]
  instanceTypes := #[]
  staticTypes := #[]
  resolved := Array.replicate 124 none
  statics := none }

def pool1 : Array CpInfo := pool [(2, .class_ 4), (1, u "java/lang/Object"), (0, u "<init>"), (0, u "()V"), (0, .integer 2147483647), (0, .class_ 9), (0, u "com/example/log_into_queues/logintoqueues/service/KeyIndexChains"), (0, .methodref 8 11), (0, .nameAndType 5 12), (0, u "([I)V"), (0, .methodref 8 14), (0, .nameAndType 15 16), (0, u "reaches"), (0, u "(II)Z"), (0, .class_ 18), (0, u "com/example/log_into_queues/logintoqueues/service/KeyIndexChainsReachesPinLaw"), (2, u "law"), (0, u "(IIIIII)Z")] 5

def k1m0 : Method := { name := "<init>", desc := "()V", sig := { parameters := [], returnType := none }, accessFlags := 1, code := none }
def k1c1 : Code := { maxStack := 4, maxLocals := 22, code := code, exceptionTable := #[], attributes := #[] }
def k1m1 : Method := { name := "law", desc := "(IIIIII)Z", sig := { parameters := [.int, .int, .int, .int, .int, .int], returnType := some .boolean }, accessFlags := 9, code := some k1c1 }
/-- com/example/log_into_queues/logintoqueues/service/KeyIndexChainsReachesPinLaw -/
def k1 : Class := { plain "com/example/log_into_queues/logintoqueues/service/KeyIndexChainsReachesPinLaw" (some 0) with
  accessFlags := 49
  interfaces := #[]
  cf := some (fileOf pool1 17 #[] #[{ accessFlags := 1, nameIndex := 5, descriptorIndex := 6, attributes := #[] }, { accessFlags := 9, nameIndex := 21, descriptorIndex := 22, attributes := #[] }] 49 2 #[] #[])
  fields := #[]
  methods := #[k1m0, k1m1]
  instanceTypes := #[]
  staticTypes := #[]
  resolved := Array.replicate 28 none
  statics := none }

def pool2 : Array CpInfo := pool [(1, .methodref 2 3), (0, .class_ 4), (0, .nameAndType 5 6), (0, u "java/lang/Object"), (0, u "<init>"), (0, u "()V"), (0, .fieldref 8 9), (0, .class_ 10), (0, .nameAndType 11 12), (0, u "com/example/log_into_queues/logintoqueues/service/KeyIndexChains"), (0, u "place"), (0, u "[I"), (0, .fieldref 8 14), (0, .nameAndType 15 12), (0, u "size"), (0, u "([I)V"), (4, u "reaches"), (0, u "(II)Z")] 2

def k2c0 : Code := { maxStack := 5, maxLocals := 5, code := prog_90_method_1_code, exceptionTable := #[], attributes := #[] }
def k2m0 : Method := { name := "<init>", desc := "([I)V", sig := { parameters := [(.array .int)], returnType := none }, accessFlags := 0, code := some k2c0 }
def k2c1 : Code := { maxStack := 4, maxLocals := 3, code := prog_90_method_2_code, exceptionTable := #[], attributes := #[] }
def k2m1 : Method := { name := "reaches", desc := "(II)Z", sig := { parameters := [.int, .int], returnType := some .boolean }, accessFlags := 0, code := some k2c1 }
/-- com/example/log_into_queues/logintoqueues/service/KeyIndexChains -/
def k2 : Class := { plain "com/example/log_into_queues/logintoqueues/service/KeyIndexChains" (some 0) with
  accessFlags := 48
  interfaces := #[]
  cf := some (fileOf pool2 8 #[] #[{ accessFlags := 0, nameIndex := 5, descriptorIndex := 16, attributes := #[] }, { accessFlags := 0, nameIndex := 21, descriptorIndex := 22, attributes := #[] }] 48 2 #[] #[{ accessFlags := 18, nameIndex := 11, descriptorIndex := 12, attributes := #[] }, { accessFlags := 18, nameIndex := 15, descriptorIndex := 12, attributes := #[] }])
  fields := #[{ name := "place", type := (.array .int), accessFlags := 18, slot := 0, constantValue := 0 }, { name := "size", type := (.array .int), accessFlags := 18, slot := 1, constantValue := 0 }]
  methods := #[k2m0, k2m1]
  instanceTypes := #[(.array .int), (.array .int)]
  staticTypes := #[]
  resolved := Array.replicate 25 none
  statics := none }

def pool3 : Array CpInfo := pool [(1, u "java/lang/Cloneable"), (0, .class_ 1), (0, u "java/lang/Object"), (0, .class_ 3)] 3

/-- java/lang/Cloneable -/
def k3 : Class := { plain "java/lang/Cloneable" (some 0) with
  accessFlags := 1537
  interfaces := #[]
  cf := some (fileOf pool3 2 #[] #[] 1537 4 #[] #[])
  fields := #[]
  methods := #[]
  instanceTypes := #[]
  staticTypes := #[]
  resolved := Array.replicate 8 none
  statics := none }

def pool4 : Array CpInfo := pool [(1, u "java/io/Serializable"), (0, .class_ 1), (0, u "java/lang/Object"), (0, .class_ 3)] 3

/-- java/io/Serializable -/
def k4 : Class := { plain "java/io/Serializable" (some 0) with
  accessFlags := 1537
  interfaces := #[]
  cf := some (fileOf pool4 2 #[] #[] 1537 4 #[] #[])
  fields := #[]
  methods := #[]
  instanceTypes := #[]
  staticTypes := #[]
  resolved := Array.replicate 8 none
  statics := none }

/-- the primitive byte -/
def k5 : Class := { plain "byte" none with kind := .primitive 'B', accessFlags := 0x411 }
/-- [B -/
def k6 : Class := { plain "[B" (some 0) with kind := .array 5 .byte, interfaces := #[3, 4], accessFlags := 1041 }

/-- the primitive int -/
def k7 : Class := { plain "int" none with kind := .primitive 'I', accessFlags := 0x411 }
/-- [I -/
def k8 : Class := { plain "[I" (some 0) with kind := .array 7 .int, interfaces := #[3, 4], accessFlags := 1041 }

def heap : Heap := #[]
def classes : Array Class := #[k0, k1, k2, k3, k4, k5, k6, k7, k8]
def interned : List (Array UInt16 × Addr) := []
def slotsUsed : Nat := 0
def theMethod : MethodId := ⟨1, 1⟩
def args0 : Array Value := #[.int 5, .int 7, .int 8, .int 11, .int 2, .int 3]
def aboutOver (below : List Frame) : State where
  vm := { classes := classes, interned := interned.toArray }
  heap := heap
  slotsUsed := slotsUsed
  threads := #[{ frames := .invoking theMethod args0 :: below }]
def below0 : List Frame := [.native { method := ⟨0, 0⟩, args := #[] }]
def about1 : State := aboutOver below0
def p0 : Program := .bare "" "" ""
def e0 : Env := launch0.env 0 0 0
theorem w_frames : about1.frames = Frame.invoking theMethod args0 :: below0 := rfl
set_option maxRecDepth 65536 in
theorem w_args : argsFit about1.vm theMethod args0 = true := by decide +kernel
set_option maxRecDepth 65536 in
theorem w_heap : heapFits about1 = true := by decide +kernel
set_option maxRecDepth 65536 in
theorem w_runnable : about1.curStatus? = some .runnable := by decide +kernel
set_option maxRecDepth 65536 in
theorem w_alone : about1.alone = true := by decide +kernel
set_option maxRecDepth 65536 in
theorem w_named : about1.methodNamed? x = some theMethod := by decide +kernel
set_option maxRecDepth 65536 in
theorem w_hears : about1.hears theMethod below0 = true := by decide +kernel
set_option maxRecDepth 65536 in
theorem w_ripe : about1.ripe theMethod args0 below0 = true := by decide +kernel
theorem w_running : about1.status = .running := rfl
set_option maxRecDepth 65536 in
theorem w_room : about1.hasRoom e0.platform room_1 = true :=
  launch0.hasRoom_least _ room_1 (by decide +kernel) (by decide +kernel) (by decide +kernel) (by decide +kernel) (by decide +kernel) (by decide +kernel)
theorem allAtoms_all (ts : List Jvm.Cond) (a : Array Jvm.Value) (st : Jvm.State) : (allAtoms ts).before a st = ts.all (fun c => c.before a st) := by
  induction ts with
  | nil => rfl
  | cons c t ih =>
    show (Jvm.Cond.and c (allAtoms t)).before a st = _
    rw [Jvm.Cond.before_and, ih, List.all_cons]
def words1 : List Jvm.Cond := Jvm.Cond.code x code maxLocals ret :: tables_1
/-- a 'code' word, met by the world's own term for the bytes: nothing is compared byte by byte -/
theorem code_word {y : MethodName} {bytes : ByteArray} {mx : Nat} {rt : Option FieldType} {a : Array Value} {s : State} {m : MethodId} {meth : Method} {c : Code} (h1 : s.methodNamed? y = some m) (h2 : s.vm.method? m = some meth) (h3 : meth.code = some c) (h4 : c.code = bytes)
    (h5 : (c.maxLocals == mx && c.exceptionTable.isEmpty && decide (c.maxStack ≤ mostOperands) && decide (meth.sig.returnType = rt) && !meth.locks && decide (parseMethodDescriptor y.desc = some meth.sig)) = true) : (Jvm.Cond.code y bytes mx rt).before a s = true := by
  simp only [Bool.and_eq_true, beq_iff_eq, Bool.not_eq_true', decide_eq_true_eq] at h5
  obtain ⟨⟨⟨⟨⟨g1, g2⟩, g3⟩, g4⟩, g5⟩, g6⟩ := h5
  simp [Cond.before, Cond.holds, Cond.value, h1, h2, h3, h4, g1, g2, g3, g4, g5, g6]
def isCode : Jvm.Cond → Bool
  | .code _ _ _ _ => true
  | _ => false
theorem all_split {L : List Jvm.Cond} {P : Jvm.Cond → Bool} (h1 : L.all (fun c => isCode c || P c) = true) (h2 : ∀ c ∈ L.filter isCode, P c = true) : L.all P = true := by
  refine List.all_eq_true.mpr fun c hc => ?_
  have h := List.all_eq_true.mp h1 c hc
  rcases Bool.eq_false_or_eq_true (isCode c) with hi | hi
  · exact h2 c (List.mem_filter.mpr ⟨hc, hi⟩)
  · simpa [hi] using h
set_option maxRecDepth 65536 in
theorem w_c0 : (Jvm.Cond.code x code maxLocals ret).before args0 about1 = true := code_word (m := ⟨1, 1⟩) (meth := k1m1) (c := k1c1) (by decide +kernel) rfl rfl rfl (by decide +kernel)
set_option maxRecDepth 65536 in
theorem w_c1 : (Jvm.Cond.code ({ cls := "com/example/log_into_queues/logintoqueues/service/KeyIndexChains", name := "<init>", desc := "([I)V" } : Jvm.MethodName) prog_90_method_1_code (5 : Nat) (Option.none : Option Jvm.ClassFile.FieldType)).before args0 about1 = true := code_word (m := ⟨2, 0⟩) (meth := k2m0) (c := k2c0) (by decide +kernel) rfl rfl rfl (by decide +kernel)
set_option maxRecDepth 65536 in
theorem w_c2 : (Jvm.Cond.code ({ cls := "java/lang/Object", name := "<init>", desc := "()V" } : Jvm.MethodName) object_method_1_code (1 : Nat) (Option.none : Option Jvm.ClassFile.FieldType)).before args0 about1 = true := code_word (m := ⟨0, 0⟩) (meth := k0m0) (c := k0c0) (by decide +kernel) rfl rfl rfl (by decide +kernel)
set_option maxRecDepth 65536 in
theorem w_c3 : (Jvm.Cond.code ({ cls := "com/example/log_into_queues/logintoqueues/service/KeyIndexChains", name := "reaches", desc := "(II)Z" } : Jvm.MethodName) prog_90_method_2_code (3 : Nat) (Option.some Jvm.ClassFile.FieldType.boolean)).before args0 about1 = true := code_word (m := ⟨2, 1⟩) (meth := k2m1) (c := k2c1) (by decide +kernel) rfl rfl rfl (by decide +kernel)
def codes1 : List Jvm.Cond := [Jvm.Cond.code x code maxLocals ret, Jvm.Cond.code ({ cls := "com/example/log_into_queues/logintoqueues/service/KeyIndexChains", name := "<init>", desc := "([I)V" } : Jvm.MethodName) prog_90_method_1_code (5 : Nat) (Option.none : Option Jvm.ClassFile.FieldType), Jvm.Cond.code ({ cls := "java/lang/Object", name := "<init>", desc := "()V" } : Jvm.MethodName) object_method_1_code (1 : Nat) (Option.none : Option Jvm.ClassFile.FieldType), Jvm.Cond.code ({ cls := "com/example/log_into_queues/logintoqueues/service/KeyIndexChains", name := "reaches", desc := "(II)Z" } : Jvm.MethodName) prog_90_method_2_code (3 : Nat) (Option.some Jvm.ClassFile.FieldType.boolean)]
set_option maxRecDepth 65536 in
theorem codes_eq : words1.filter isCode = codes1 := rfl
theorem w_codes : ∀ c ∈ words1.filter isCode, c.before args0 about1 = true := by
  rw [codes_eq]
  intro c hc
  simp only [codes1, List.mem_cons, List.not_mem_nil, or_false] at hc
  rcases hc with rfl | rfl | rfl | rfl
  · exact w_c0
  · exact w_c1
  · exact w_c2
  · exact w_c3
set_option maxRecDepth 65536 in
theorem w_t1 : words1.all (fun c => isCode c || c.before args0 about1) = true := by decide +kernel
theorem w_tables : (allAtoms (Jvm.Cond.code x code maxLocals ret :: tables_1)).before args0 about1 = true := by
  rw [allAtoms_all]
  show words1.all (fun c => c.before args0 about1) = true
  refine all_split ?_ w_codes
  rw [w_t1]
set_option maxRecDepth 65536 in
theorem w_case : (Jvm.Cond.and given_1 narrow_1).before args0 about1 = true := by decide +kernel
theorem w_applies : (headSpec (Jvm.Cond.code x code maxLocals ret :: tables_1) room_1).applies x e0.platform about1 = true :=
  (Spec.applies_iff w_frames).mpr ⟨w_running, w_runnable, w_alone, w_named, w_hears, w_ripe, w_room, w_tables⟩
theorem atStart : AtStart classFile x code maxLocals ret World_1 tables_1 room_1 Calls_1 rest_1 Pre_1 launch0 p0 e0 about1 theMethod args0 below0 :=
  ⟨lists_1, trivial, launch0.admits_env _ _ _, launch0.least_env, fairChoices_fair.cas, fairChoices_fair.clock, w_frames, w_args, w_heap, w_applies, trivial, trivial, w_case⟩
end start1
theorem witness_1 : WitnessClaimed_1 := ⟨start1.p0, start1.e0, start1.about1, start1.theMethod, start1.args0, start1.below0, start1.atStart⟩
end Jvm.Pilot.@@N@@
