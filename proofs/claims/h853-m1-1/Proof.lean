import JvmDerived
import JvmDerived.Pilot.@@N@@Statement
import JvmDerived.Pilot.@@N@@Code
set_option linter.unusedVariables false
set_option linter.unusedSimpArgs false
namespace Jvm.Pilot.@@N@@
open Jvm Jvm.ClassFile Sem Op Lib Jvm.Free Jvm.Stand Jvm.LawKit Jvm.RoadKit Bundle Jvm.Pilot.@@N@@.Jvm.D
section Own
variable {p : Program} {l : Launch} {e : Env} {R : Room} {s : State} {m : MethodId} {args : Array Value} {below : List Frame} {meth : Method} {c : Code} {T : State} {locs : List Loc} {cells slots : Nat} {Z : State} {a0 : Array Value} {h h' : Heap} {Q : Option Value → Heap → List Loc → Prop} {k n : Nat}
/-- from U the walk comes to a return of which Q holds -/
def Goes (p : Program) (e : Env) (below : List Frame) (s : State) (Q : Option Value → Heap → List Loc → Prop) (k n : Nat) (U : State) : Prop :=
  ∃ s₂ o, Steps p.tables e below U s₂ ∧ s₂.status = .running ∧ Ended s₂ below o ∧ ∃ v L, o = .returned v ∧ Q v s₂.heap L ∧ FrameEnd s o s₂ L k n
theorem Goes.go {U U' : State} (h : ∀ t, Steps p.tables e below U' t → Steps p.tables e below U t) (r : Goes p e below s Q k n U') : Goes p e below s Q k n U := by
  obtain ⟨s₂, o, h1, r⟩ := r
  exact ⟨s₂, o, h _ h1, r⟩
theorem Goes.outI (X : Stand p l e R s m args below meth c T locs cells slots) (hx : p.tables.exec = Jvm.exec) (hlk : meth.locks = false) (hret : meth.sig.returnType = some .int) {pc : Nat} {Ls : Array Slot} {z : Int32} (hd : decode c.code pc = .ok (.ireturn, 1)) (eT : T.heap = h) (hq : Q (some (.int z)) h locs) (hk : cells ≤ k) (hn : slots ≤ n) :
    Goes p e below s Q k n (T.setTop (mkF m pc Ls [.int z])) := by
  obtain ⟨fs, hr, hrun, hended, hW, hsame⟩ := X.leave (v := some (.int z)) (fun h => by rw [hret] at h; cases h) hlk
  refine ⟨_, _, X.ireturnOut hx hret rfl (Or.inl rfl) hd hr, hrun, hended, _, _, rfl, ?_, ⟨_, rfl⟩, hW, hsame.mono hk hn⟩
  show Q _ T.heap _
  rw [eT]; exact hq
theorem Goes.outZ (X : Stand p l e R s m args below meth c T locs cells slots) (hx : p.tables.exec = Jvm.exec) (hlk : meth.locks = false) (hret : meth.sig.returnType = some .boolean) {pc : Nat} {Ls : Array Slot} {z : Int32} (hz : narrow .boolean (.int z) = .int z) (hd : decode c.code pc = .ok (.ireturn, 1)) (eT : T.heap = h) (hq : Q (some (.int z)) h locs) (hk : cells ≤ k) (hn : slots ≤ n) :
    Goes p e below s Q k n (T.setTop (mkF m pc Ls [.int z])) := by
  obtain ⟨fs, hr, hrun, hended, hW, hsame⟩ := X.leave (v := some (.int z)) (fun h => by rw [hret] at h; cases h) hlk
  refine ⟨_, _, X.ireturnOut hx hret hz (Or.inr (Or.inl rfl)) hd hr, hrun, hended, _, _, rfl, ?_, ⟨_, rfl⟩, hW, hsame.mono hk hn⟩
  show Q _ T.heap _
  rw [eT]; exact hq
theorem Goes.outJ (X : Stand p l e R s m args below meth c T locs cells slots) (hx : p.tables.exec = Jvm.exec) (hlk : meth.locks = false) (hret : meth.sig.returnType = some .long) {pc : Nat} {Ls : Array Slot} {z : Int64} (hd : decode c.code pc = .ok (.lreturn, 1)) (eT : T.heap = h) (hq : Q (some (.long z)) h locs) (hk : cells ≤ k) (hn : slots ≤ n) :
    Goes p e below s Q k n (T.setTop (mkF m pc Ls [.long z])) := by
  obtain ⟨fs, hr, hrun, hended, hW, hsame⟩ := X.leave (v := some (.long z)) (fun h => by rw [hret] at h; cases h) hlk
  refine ⟨_, _, X.lreturnOut hx hret hd hr, hrun, hended, _, _, rfl, ?_, ⟨_, rfl⟩, hW, hsame.mono hk hn⟩
  show Q _ T.heap _
  rw [eT]; exact hq
theorem Goes.outA (X : Stand p l e R s m args below meth c T locs cells slots) (hx : p.tables.exec = Jvm.exec) (hlk : meth.locks = false) {t : FieldType} (hret : meth.sig.returnType = some t) (ht : t.isReference = true) {pc : Nat} {Ls : Array Slot} {w : Value} (hw : w.isRef = true) (hd : decode c.code pc = .ok (.areturn, 1)) (eT : T.heap = h) (hq : Q (some w) h locs) (hk : cells ≤ k) (hn : slots ≤ n) :
    Goes p e below s Q k n (T.setTop (mkF m pc Ls [w])) := by
  obtain ⟨fs, hr, hrun, hended, hW, hsame⟩ := X.leave (v := some w) (fun h => by rw [hret] at h; cases h) hlk
  refine ⟨_, _, X.areturnOut hx hw hret ht hd hr, hrun, hended, _, _, rfl, ?_, ⟨_, rfl⟩, hW, hsame.mono hk hn⟩
  show Q _ T.heap _
  rw [eT]; exact hq
theorem Goes.outV (X : Stand p l e R s m args below meth c T locs cells slots) (hx : p.tables.exec = Jvm.exec) (hlk : meth.locks = false) (hret : meth.sig.returnType = none) {pc : Nat} {Ls : Array Slot} (hd : decode c.code pc = .ok (.return_, 1)) (eT : T.heap = h) (hq : Q none h locs) (hk : cells ≤ k) (hn : slots ≤ n) :
    Goes p e below s Q k n (T.setTop (mkF m pc Ls [])) := by
  obtain ⟨fs, hr, hrun, hended, hW, hsame⟩ := X.leave (v := none) (fun _ => rfl) hlk
  refine ⟨_, _, X.returnOut hx hret hd hr, hrun, hended, _, _, rfl, ?_, ⟨_, rfl⟩, hW, hsame.mono hk hn⟩
  show Q _ T.heap _
  rw [eT]; exact hq
/-- an array, by the list of what it holds -/
def Arl (Z : State) (h : Heap) (a : Addr) (ty : FieldType) (vs : List Value) : Prop := ∃ c : Cell, Arr Z h a c ty ∧ c.slots.toList = vs
section Arls
variable {a b : Addr} {ty : FieldType} {vs : List Value} {v : Value} {sl : Nat} {ws : List Addr} {j : Int32}
theorem Arl.lt (F : Arl Z h a ty vs) : a < h.size := by obtain ⟨c, A, -⟩ := F; exact A.lt
theorem Arl.ext (F : Arl Z h a ty vs) (E : Ext h h') : Arl Z h' a ty vs := by obtain ⟨c, A, r⟩ := F; exact ⟨c, A.ext E, r⟩
theorem Arl.other (F : Arl Z h b ty vs) (W : Wr h h' a sl v) (q : b ≠ a) : Arl Z h' b ty vs := by obtain ⟨c, A, r⟩ := F; exact ⟨c, A.other W q, r⟩
theorem Arl.keep (F : Arl Z h a ty vs) (K : Keep h h' ws) (q : a ∉ ws) : Arl Z h' a ty vs := by obtain ⟨c, A, r⟩ := F; exact ⟨c, ⟨K.2.1 a c A.1 q, A.2⟩, r⟩
theorem Arl.set (F : Arl Z h a ty vs) (W : Wr h h' a sl v) : Arl Z h' a ty (vs.set sl v) := by
  obtain ⟨c, A, r⟩ := F
  refine ⟨_, A.same W, ?_⟩
  subst r
  simp [Cell.setSlot]
theorem Arl.eq {vs' : List Value} (F : Arl Z h a ty vs) (e : vs = vs') : Arl Z h a ty vs' := e ▸ F
theorem own_in {c : Cell} (r : c.slots.toList = vs) (h0 : ¬ j < 0) (h1 : j.toNatClampNeg < vs.length) : ¬ (j < 0 ∨ c.slots.size ≤ j.toNatClampNeg) := by
  subst r
  intro q
  rcases q with q | q
  · exact h0 q
  · rw [Array.length_toList] at h1; omega
theorem own_lt (hv : vs[sl]? = some v) : sl < vs.length := (List.getElem?_eq_some_iff.mp hv).1
end Arls
theorem own_ati {xs : List Int32} {j : Nat} {w : Int32} (h : xs[j]? = some w) : (xs.map Value.int)[j]? = some (.int w) := by
  rw [List.getElem?_map, h]; rfl
theorem own_lni {xs : List Int32} {j k : Nat} (hl : xs.length = k) (h : j < k) : j < (xs.map Value.int).length := by
  rw [List.length_map, hl]; exact h
theorem own_sti {a : Addr} {xs : List Int32} {j : Nat} {w : Int32} (A : Arl Z h a .int ((xs.map Value.int).set j (.int w))) : Arl Z h a .int ((xs.set j w).map Value.int) := A.eq List.map_set.symm
theorem own_selP {C : String} {y y' : MethodName} (hs : (Cond.selects C y' y').before args s = true) (hcls : y'.cls = y.cls) (hpriv : s.PrivateAt y) (hinst : (Cond.instanceMethod y).before args s = true) (hy : y.cls ≠ "java/lang/invoke/MethodHandle" ∧ y.cls ≠ "java/lang/invoke/VarHandle") : (Cond.selects y.cls y y).before args s = true := by
  obtain ⟨c2, r2, m2, -, -, q3, -, kP, hkP, hkPi⟩ := Cond.selects_spec hs
  have hc : s.vm.findClass y.cls = some m2.cls := hcls ▸ findClass_of_methodNamed q3
  exact selects_self_of_private hc hkP hkPi hpriv hinst hy
theorem own_neA {a b : Addr} {C : String} {k : Nat} {ty : FieldType} {vs : List Value} (F : Exa Z h a C) (wi : (Cond.instantiable C k).before a0 Z = true) (G : Arl Z h b ty vs) : a ≠ b := by
  obtain ⟨c', A', -⟩ := G
  exact ne_arr F wi A'
theorem own_newP (X : Stand p l e R s m args below meth c T locs cells slots) (hx : p.tables.exec = Jvm.exec) (hZ : Z.Warmed39 s.vm) {aty : ArrayType} (w : (Cond.arrayClass (newarray.typeOf aty)).before a0 Z = true) (eT : T.heap = h) {g : JFrame} (hg : g.method = m) (hd : decode c.code g.pc = .ok (.newarray aty, 2)) {n : Int32} {rest : List Value} (hs : g.stack = .int n :: rest)
    (hn : ¬ n < 0) {cap : Nat} (hcap : n.toNatClampNeg ≤ cap) (hb : cap * 8 ≤ 536870912) (hc : cells + 1 ≤ R.cells) (hl : slots + cap ≤ R.slots) :
    ∃ T' h', Stand p l e R s m args below meth c T' locs (cells + 1) (slots + cap) ∧ T'.heap = h' ∧ Ext h h' ∧ Arl Z h' h.size (newarray.typeOf aty) (List.replicate n.toNatClampNeg (defaultValue (newarray.typeOf aty))) ∧
      ∀ target, Steps p.tables e below (T'.setTop { g with pc := g.pc + 2, stack := .ref h.size :: rest }) target → Steps p.tables e below (T.setTop g) target := by
  obtain ⟨T', h', cA, X', e', E', A', st⟩ := newP X hx hZ w eT hg hd hs hn hcap hb hc hl
  exact ⟨T', h', X', e', E', ⟨_, A', by simp [newA]⟩, st⟩
theorem own_stB (X : Stand p l e R s m args below meth c T locs cells slots) (hx : p.tables.exec = Jvm.exec) (hZ : Z.Warmed39 s.vm) (eT : T.heap = h) {a : Addr} {vs : List Value} (A : Arl Z h a .byte vs) {j x : Int32} (hj : ¬ j < 0) (hj' : j.toNatClampNeg < vs.length) {g : JFrame} (hg : g.method = m) {rest : List Value} (hs : g.stack = .int x :: .int j :: .ref a :: rest) (hd : decode c.code g.pc = .ok (.bastore, 1)) :
    ∃ T' h', Stand p l e R s m args below meth c T' (locs ++ [⟨a, j.toNatClampNeg⟩]) cells slots ∧ T'.heap = h' ∧ Wr h h' a j.toNatClampNeg (.int x.toInt8.toInt32) ∧ Arl Z h' a .byte (vs.set j.toNatClampNeg (.int x.toInt8.toInt32)) ∧ ∀ target, Steps p.tables e below (T'.setTop { g with pc := g.pc + 1, stack := rest }) target → Steps p.tables e below (T.setTop g) target := by
  obtain ⟨c', A', r⟩ := A
  obtain ⟨T', h', X', e', W, st⟩ := stB X hx hZ eT A' (own_in r hj hj') hg hs hd
  exact ⟨T', h', X', e', W, Arl.set ⟨c', A', r⟩ W, st⟩
theorem own_stI (X : Stand p l e R s m args below meth c T locs cells slots) (hx : p.tables.exec = Jvm.exec) (hZ : Z.Warmed39 s.vm) (eT : T.heap = h) {a : Addr} {vs : List Value} (A : Arl Z h a .int vs) {j x : Int32} (hj : ¬ j < 0) (hj' : j.toNatClampNeg < vs.length) {g : JFrame} (hg : g.method = m) {rest : List Value} (hs : g.stack = .int x :: .int j :: .ref a :: rest) (hd : decode c.code g.pc = .ok (.iastore, 1)) :
    ∃ T' h', Stand p l e R s m args below meth c T' (locs ++ [⟨a, j.toNatClampNeg⟩]) cells slots ∧ T'.heap = h' ∧ Wr h h' a j.toNatClampNeg (.int x) ∧ Arl Z h' a .int (vs.set j.toNatClampNeg (.int x)) ∧ ∀ target, Steps p.tables e below (T'.setTop { g with pc := g.pc + 1, stack := rest }) target → Steps p.tables e below (T.setTop g) target := by
  obtain ⟨c', A', r⟩ := A
  obtain ⟨T', h', X', e', W, st⟩ := stI X hx hZ eT A' (own_in r hj hj') hg hs hd
  exact ⟨T', h', X', e', W, Arl.set ⟨c', A', r⟩ W, st⟩
theorem own_stJ (X : Stand p l e R s m args below meth c T locs cells slots) (hx : p.tables.exec = Jvm.exec) (hZ : Z.Warmed39 s.vm) (eT : T.heap = h) {a : Addr} {vs : List Value} (A : Arl Z h a .long vs) {j : Int32} {x : Int64} (hj : ¬ j < 0) (hj' : j.toNatClampNeg < vs.length) {g : JFrame} (hg : g.method = m) {rest : List Value} (hs : g.stack = .long x :: .int j :: .ref a :: rest) (hd : decode c.code g.pc = .ok (.lastore, 1)) :
    ∃ T' h', Stand p l e R s m args below meth c T' (locs ++ [⟨a, j.toNatClampNeg⟩]) cells slots ∧ T'.heap = h' ∧ Wr h h' a j.toNatClampNeg (.long x) ∧ Arl Z h' a .long (vs.set j.toNatClampNeg (.long x)) ∧ ∀ target, Steps p.tables e below (T'.setTop { g with pc := g.pc + 1, stack := rest }) target → Steps p.tables e below (T.setTop g) target := by
  obtain ⟨c', A', r⟩ := A
  obtain ⟨T', h', X', e', W, st⟩ := stJ X hx hZ eT A' (own_in r hj hj') hg hs hd
  exact ⟨T', h', X', e', W, Arl.set ⟨c', A', r⟩ W, st⟩
theorem own_at {a : Addr} {c' : Cell} {vs : List Value} {v : Value} {j : Int32} (r : c'.slots.toList = vs) (hv : vs[j.toNatClampNeg]? = some v) : c'.slots[j.toNatClampNeg]? = some v := by
  subst r; simpa using hv
theorem own_ldB (X : Stand p l e R s m args below meth c T locs cells slots) (hx : p.tables.exec = Jvm.exec) (hZ : Z.Warmed39 s.vm) (eT : T.heap = h) {a : Addr} {vs : List Value} {v : Value} (A : Arl Z h a .byte vs) {j : Int32} (hj : ¬ j < 0) (hv : vs[j.toNatClampNeg]? = some v) {g : JFrame} (hg : g.method = m) {rest : List Value} (hs : g.stack = .int j :: .ref a :: rest) (hd : decode c.code g.pc = .ok (.baload, 1)) :
    ∀ target, Steps p.tables e below (T.setTop { g with pc := g.pc + 1, stack := v :: rest }) target → Steps p.tables e below (T.setTop g) target := by
  obtain ⟨c', A', r⟩ := A
  exact fun t k => X.baloadBytes hx (by rw [eT]; exact A'.1) (State.isArrayOf_alike hZ.alike A'.2.1) A'.2.2 (own_in r hj (own_lt hv)) (own_at (a := a) r hv) hg hs hd t k
theorem own_ldI (X : Stand p l e R s m args below meth c T locs cells slots) (hx : p.tables.exec = Jvm.exec) (hZ : Z.Warmed39 s.vm) (eT : T.heap = h) {a : Addr} {vs : List Value} {v : Value} (A : Arl Z h a .int vs) {j : Int32} (hj : ¬ j < 0) (hv : vs[j.toNatClampNeg]? = some v) {g : JFrame} (hg : g.method = m) {rest : List Value} (hs : g.stack = .int j :: .ref a :: rest) (hd : decode c.code g.pc = .ok (.iaload, 1)) :
    ∀ target, Steps p.tables e below (T.setTop { g with pc := g.pc + 1, stack := v :: rest }) target → Steps p.tables e below (T.setTop g) target := by
  obtain ⟨c', A', r⟩ := A
  exact fun t k => X.iaload hx (by rw [eT]; exact A'.1) (State.isArrayOf_alike hZ.alike A'.2.1) A'.2.2 (own_in r hj (own_lt hv)) (own_at (a := a) r hv) hg hs hd t k
theorem own_ldJ (X : Stand p l e R s m args below meth c T locs cells slots) (hx : p.tables.exec = Jvm.exec) (hZ : Z.Warmed39 s.vm) (eT : T.heap = h) {a : Addr} {vs : List Value} {v : Value} (A : Arl Z h a .long vs) {j : Int32} (hj : ¬ j < 0) (hv : vs[j.toNatClampNeg]? = some v) {g : JFrame} (hg : g.method = m) {rest : List Value} (hs : g.stack = .int j :: .ref a :: rest) (hd : decode c.code g.pc = .ok (.laload, 1)) :
    ∀ target, Steps p.tables e below (T.setTop { g with pc := g.pc + 1, stack := v :: rest }) target → Steps p.tables e below (T.setTop g) target := by
  obtain ⟨c', A', r⟩ := A
  exact fun t k => X.laload hx (by rw [eT]; exact A'.1) (State.isArrayOf_alike hZ.alike A'.2.1) A'.2.2 (own_in r hj (own_lt hv)) (own_at (a := a) r hv) hg hs hd t k
theorem own_len (X : Stand p l e R s m args below meth c T locs cells slots) (hx : p.tables.exec = Jvm.exec) (hZ : Z.Warmed39 s.vm) (eT : T.heap = h) {a : Addr} {ty : FieldType} {vs : List Value} (A : Arl Z h a ty vs) {n : Int32} (hn : vs.length.toInt32 = n) {g : JFrame} (hg : g.method = m) {rest : List Value} (hs : g.stack = .ref a :: rest) (hd : decode c.code g.pc = .ok (.arraylength, 1)) :
    ∀ target, Steps p.tables e below (T.setTop { g with pc := g.pc + 1, stack := .int n :: rest }) target → Steps p.tables e below (T.setTop g) target := by
  obtain ⟨c', A', r⟩ := A
  have q : c'.slots.size.toInt32 = n := by rw [← hn, ← r, Array.length_toList]
  exact fun t k => X.arraylength hx (ty := ty) (by rw [eT]; exact A'.1) (State.isArrayOf_alike hZ.alike A'.2.1) hg hs hd t (q.symm ▸ k)
end Own
theorem own_nar8 (x : Int32) : x.toInt8.toInt32.toInt8.toInt32 = x.toInt8.toInt32 := by simp
def gi (xs : List Int32) (j : Int32) : Int32 := xs.getD j.toNatClampNeg 0
def fnF (len mn cp : Int32) : Int32 := if cp < mn then 0 else if cp < (55296 : Int32) then (if (1114111 : Int32) < cp then 0 else len) else if (57343 : Int32) < cp then (if (1114111 : Int32) < cp then 0 else len) else 0
def cpF (cp c : Int32) : Int32 := ((cp <<< ((6 : Int32) &&& 31)) ||| (c &&& (63 : Int32)))
def sq2 (u : List Int32) (n i cp : Int32) : Int32 := if n < i + (2 : Int32) then 0 else if (gi u (i + (1 : Int32)) &&& (192 : Int32)) = (128 : Int32) then fnF 2 128 (cpF cp (gi u (i + (1 : Int32)))) else 0
def sq3 (u : List Int32) (n i cp : Int32) : Int32 := if n < i + (3 : Int32) then 0 else if (gi u (i + (1 : Int32)) &&& (192 : Int32)) = (128 : Int32) then (if (gi u (i + (2 : Int32)) &&& (192 : Int32)) = (128 : Int32) then fnF 3 2048 (cpF (cpF cp (gi u (i + (1 : Int32)))) (gi u (i + (2 : Int32)))) else 0) else 0
def sq4 (u : List Int32) (n i cp : Int32) : Int32 := if n < i + (4 : Int32) then 0 else if (gi u (i + (1 : Int32)) &&& (192 : Int32)) = (128 : Int32) then (if (gi u (i + (2 : Int32)) &&& (192 : Int32)) = (128 : Int32) then (if (gi u (i + (3 : Int32)) &&& (192 : Int32)) = (128 : Int32) then fnF 4 65536 (cpF (cpF (cpF cp (gi u (i + (1 : Int32)))) (gi u (i + (2 : Int32)))) (gi u (i + (3 : Int32)))) else 0) else 0) else 0
def seqF (u : List Int32) (n i : Int32) : Int32 :=
  if gi u i < (128 : Int32) then 1 else if (gi u i &&& (224 : Int32)) = (192 : Int32) then sq2 u n i (gi u i &&& (31 : Int32)) else if (gi u i &&& (240 : Int32)) = (224 : Int32) then sq3 u n i (gi u i &&& (15 : Int32)) else if (gi u i &&& (248 : Int32)) = (240 : Int32) then sq4 u n i (gi u i &&& (7 : Int32)) else 0
def ck1 (u : List Int32) (n i lo hi : Int32) : Int32 := if (1 : Int32) < n - i then (if gi u (i + (1 : Int32)) < lo then 0 else if hi < gi u (i + (1 : Int32)) then 0 else 2) else 0
def ck2 (u : List Int32) (n i lo hi : Int32) : Int32 := if (2 : Int32) < n - i then (if gi u (i + (1 : Int32)) < lo then 0 else if hi < gi u (i + (1 : Int32)) then 0 else if (gi u (i + (2 : Int32)) &&& (192 : Int32)) = (128 : Int32) then 3 else 0) else 0
def ck3 (u : List Int32) (n i lo hi : Int32) : Int32 := if (3 : Int32) < n - i then (if gi u (i + (1 : Int32)) < lo then 0 else if hi < gi u (i + (1 : Int32)) then 0 else if (gi u (i + (2 : Int32)) &&& (192 : Int32)) = (128 : Int32) then (if (gi u (i + (3 : Int32)) &&& (192 : Int32)) = (128 : Int32) then 4 else 0) else 0) else 0
def ut3 (u : List Int32) (n i : Int32) : Int32 := if gi u i < (240 : Int32) then 0 else if (244 : Int32) < gi u i then 0 else ck3 u n i (if gi u i = (240 : Int32) then 144 else 128) (if gi u i = (244 : Int32) then 143 else 191)
def ut2 (u : List Int32) (n i : Int32) : Int32 := if gi u i < (224 : Int32) then ut3 u n i else if (239 : Int32) < gi u i then ut3 u n i else ck2 u n i (if gi u i = (224 : Int32) then 160 else 128) (if gi u i = (237 : Int32) then 159 else 191)
def utF (u : List Int32) (n i : Int32) : Int32 := if gi u i < (128 : Int32) then 1 else if gi u i < (194 : Int32) then ut2 u n i else if (223 : Int32) < gi u i then ut2 u n i else ck1 u n i 128 191
theorem own_il (x y : Int32) : x < y ↔ x.toInt < y.toInt := Int32.lt_iff_toInt_lt
theorem own_ieq (x y : Int32) : x = y ↔ x.toInt = y.toInt := Int32.toInt_inj.symm
theorem mm1 : ∀ b : BitVec 8, ((Int32.ofNat b.toNat &&& (224 : Int32)) = (192 : Int32)) ↔ (192 ≤ b.toNat ∧ b.toNat < 224) := by decide +kernel
theorem mm2 : ∀ b : BitVec 8, ((Int32.ofNat b.toNat &&& (240 : Int32)) = (224 : Int32)) ↔ (224 ≤ b.toNat ∧ b.toNat < 240) := by decide +kernel
theorem mm3 : ∀ b : BitVec 8, ((Int32.ofNat b.toNat &&& (248 : Int32)) = (240 : Int32)) ↔ (240 ≤ b.toNat ∧ b.toNat < 248) := by decide +kernel
theorem mm4 : ∀ b : BitVec 8, ((Int32.ofNat b.toNat &&& (192 : Int32)) = (128 : Int32)) ↔ (128 ≤ b.toNat ∧ b.toNat < 192) := by decide +kernel
theorem mm5 : ∀ b : BitVec 8, ((Int32.ofNat b.toNat).toInt8.toInt32 &&& (255 : Int32)) = Int32.ofNat b.toNat ∧ ((Int32.ofNat b.toNat).toInt8.toInt32 &&& (192 : Int32)) = (Int32.ofNat b.toNat &&& (192 : Int32)) := by decide +kernel
def isB (x : Int32) : Prop := 0 ≤ x.toInt ∧ x.toInt ≤ 255
theorem isB_ex {x : Int32} (h : isB x) : ∃ b : BitVec 8, x = Int32.ofNat b.toNat ∧ x.toInt = b.toNat := by
  obtain ⟨h0, h1⟩ := h
  have e : (BitVec.ofNat 8 x.toInt.toNat).toNat = x.toInt.toNat := by rw [BitVec.toNat_ofNat]; omega
  refine ⟨BitVec.ofNat 8 x.toInt.toNat, Int32.toInt_inj.mp ?_, ?_⟩
  · rw [e, Int32.toInt_ofNat_of_lt (by omega)]; omega
  · rw [e]; omega
theorem m1 {x : Int32} (h : isB x) : ((x &&& (224 : Int32)) = (192 : Int32)) ↔ (192 ≤ x.toInt ∧ x.toInt < 224) := by
  obtain ⟨b, e, e'⟩ := isB_ex h
  have q := mm1 b
  rw [← e] at q; rw [q]; omega
theorem m2 {x : Int32} (h : isB x) : ((x &&& (240 : Int32)) = (224 : Int32)) ↔ (224 ≤ x.toInt ∧ x.toInt < 240) := by
  obtain ⟨b, e, e'⟩ := isB_ex h
  have q := mm2 b
  rw [← e] at q; rw [q]; omega
theorem m3 {x : Int32} (h : isB x) : ((x &&& (248 : Int32)) = (240 : Int32)) ↔ (240 ≤ x.toInt ∧ x.toInt < 248) := by
  obtain ⟨b, e, e'⟩ := isB_ex h
  have q := mm3 b
  rw [← e] at q; rw [q]; omega
theorem m4 {x : Int32} (h : isB x) : ((x &&& (192 : Int32)) = (128 : Int32)) ↔ (128 ≤ x.toInt ∧ x.toInt < 192) := by
  obtain ⟨b, e, e'⟩ := isB_ex h
  have q := mm4 b
  rw [← e] at q; rw [q]; omega
theorem m5 {x : Int32} (h : isB x) : (x.toInt8.toInt32 &&& (255 : Int32)) = x ∧ (x.toInt8.toInt32 &&& (192 : Int32)) = (x &&& (192 : Int32)) := by
  obtain ⟨b, e, e'⟩ := isB_ex h
  have q := mm5 b
  rw [← e] at q; exact q
theorem own_cp {cp c : Int32} (h0 : 0 ≤ cp.toInt) (h1 : cp.toInt < 1000000) : (cpF cp c).toInt = cp.toInt * 64 + c.toInt % 64 := by
  unfold cpF
  have a1 := c_mask c 63 6 (by decide) (by decide)
  generalize c &&& (63 : Int32) = d at *
  have a2 := c_ishl cp 6 6 (by decide)
  generalize cp <<< ((6 : Int32) &&& 31) = f at *
  have r := rng32 f
  have a3 := c_or f d 6 (by decide) 64 (by decide) (by omega) (by omega) (by omega)
  have r2 := rng32 (f ||| d)
  omega
theorem own_ad {i k : Int32} {m : Int} (hk : k.toInt = m) (h0 : 0 ≤ i.toInt) (h8 : i.toInt < 100) (m0 : 0 ≤ m) (m1 : m < 100) : (i + k).toInt = i.toInt + m := by
  have a := c_iadd i k
  have r := rng32 (i + k)
  omega
theorem own_sb {n i : Int32} (h0 : 0 ≤ i.toInt) (h8 : i.toInt < 100) (n0 : 0 ≤ n.toInt) (n8 : n.toInt < 100) : (n - i).toInt = n.toInt - i.toInt := by
  have a := c_isub n i
  have r := rng32 (n - i)
  omega
/-- what fnF says, in plain integers -/
theorem fn_val {len mn cp : Int32} : fnF len mn cp = if mn.toInt ≤ cp.toInt ∧ (cp.toInt < 55296 ∨ 57343 < cp.toInt) ∧ cp.toInt ≤ 1114111 then len else 0 := by
  unfold fnF
  simp only [own_il, Int32.reduceToInt]
  by_cases a : cp.toInt < mn.toInt
  · rw [if_pos a, if_neg (by omega)]
  · rw [if_neg a]
    by_cases b : cp.toInt < 55296
    · rw [if_pos b, if_neg (by omega), if_pos (by omega)]
    · rw [if_neg b]
      by_cases d : 57343 < cp.toInt
      · rw [if_pos d]
        by_cases f : 1114111 < cp.toInt
        · rw [if_pos f, if_neg (by omega)]
        · rw [if_neg f, if_pos (by omega)]
      · rw [if_neg d, if_neg (by omega)]
theorem own_ite {P Q : Prop} [Decidable P] [Decidable Q] {a : Int32} (h : P ↔ Q) : (if P then a else 0) = (if Q then a else 0) := by
  by_cases p : P
  · rw [if_pos p, if_pos (h.mp p)]
  · rw [if_neg p, if_neg fun q => p (h.mpr q)]
theorem sq2_val {u : List Int32} {n i cp : Int32} (hb : ∀ j, isB (gi u j)) (h0 : 0 ≤ i.toInt) (hn : i.toInt < n.toInt) (h8 : n.toInt ≤ 8) (c0 : 0 ≤ cp.toInt) (c1 : cp.toInt < 32) :
    sq2 u n i cp = if i.toInt + 2 ≤ n.toInt ∧ 128 ≤ (gi u (i + (1 : Int32))).toInt ∧ (gi u (i + (1 : Int32))).toInt < 192 ∧ 2 ≤ cp.toInt then 2 else 0 := by
  unfold sq2
  simp only [fn_val, own_il, own_ad (k := 2) (m := 2) (by decide) h0 (by omega) (by decide) (by decide), own_cp c0 (by omega : cp.toInt < 1000000), m4 (hb _), Int32.reduceToInt]
  by_cases a : n.toInt < i.toInt + 2
  · rw [if_pos a, if_neg (by omega)]
  · rw [if_neg a]
    by_cases b : 128 ≤ (gi u (i + (1 : Int32))).toInt ∧ (gi u (i + (1 : Int32))).toInt < 192
    · rw [if_pos b]; exact own_ite (by omega)
    · rw [if_neg b, if_neg (by omega)]
theorem sq3_val {u : List Int32} {n i cp : Int32} (hb : ∀ j, isB (gi u j)) (h0 : 0 ≤ i.toInt) (hn : i.toInt < n.toInt) (h8 : n.toInt ≤ 8) (c0 : 0 ≤ cp.toInt) (c1 : cp.toInt < 16) :
    sq3 u n i cp = if i.toInt + 3 ≤ n.toInt ∧ 128 ≤ (gi u (i + (1 : Int32))).toInt ∧ (gi u (i + (1 : Int32))).toInt < 192 ∧ 128 ≤ (gi u (i + (2 : Int32))).toInt ∧ (gi u (i + (2 : Int32))).toInt < 192 ∧ (cp.toInt = 0 → 160 ≤ (gi u (i + (1 : Int32))).toInt) ∧ (cp.toInt = 13 → (gi u (i + (1 : Int32))).toInt < 160) then 3 else 0 := by
  unfold sq3
  simp only [fn_val, own_il, own_ad (k := 3) (m := 3) (by decide) h0 (by omega) (by decide) (by decide), m4 (hb _)]
  have e1 : (cpF cp (gi u (i + (1 : Int32)))).toInt = _ := own_cp c0 (by omega)
  rw [own_cp (cp := cpF cp (gi u (i + (1 : Int32)))) (by omega) (by omega), e1]
  simp only [Int32.reduceToInt]
  by_cases a : n.toInt < i.toInt + 3
  · rw [if_pos a, if_neg (by omega)]
  · rw [if_neg a]
    by_cases b : 128 ≤ (gi u (i + (1 : Int32))).toInt ∧ (gi u (i + (1 : Int32))).toInt < 192
    · rw [if_pos b]
      by_cases d : 128 ≤ (gi u (i + (2 : Int32))).toInt ∧ (gi u (i + (2 : Int32))).toInt < 192
      · rw [if_pos d]; exact own_ite (by omega)
      · rw [if_neg d, if_neg (by omega)]
    · rw [if_neg b, if_neg (by omega)]
theorem sq4_val {u : List Int32} {n i cp : Int32} (hb : ∀ j, isB (gi u j)) (h0 : 0 ≤ i.toInt) (hn : i.toInt < n.toInt) (h8 : n.toInt ≤ 8) (c0 : 0 ≤ cp.toInt) (c1 : cp.toInt < 8) :
    sq4 u n i cp = if i.toInt + 4 ≤ n.toInt ∧ 128 ≤ (gi u (i + (1 : Int32))).toInt ∧ (gi u (i + (1 : Int32))).toInt < 192 ∧ 128 ≤ (gi u (i + (2 : Int32))).toInt ∧ (gi u (i + (2 : Int32))).toInt < 192 ∧ 128 ≤ (gi u (i + (3 : Int32))).toInt ∧ (gi u (i + (3 : Int32))).toInt < 192 ∧ (cp.toInt = 0 → 144 ≤ (gi u (i + (1 : Int32))).toInt) ∧ cp.toInt ≤ 4 ∧ (cp.toInt = 4 → (gi u (i + (1 : Int32))).toInt < 144) then 4 else 0 := by
  unfold sq4
  simp only [fn_val, own_il, own_ad (k := 4) (m := 4) (by decide) h0 (by omega) (by decide) (by decide), m4 (hb _)]
  have e1 : (cpF cp (gi u (i + (1 : Int32)))).toInt = _ := own_cp c0 (by omega)
  have e2 : (cpF (cpF cp (gi u (i + (1 : Int32)))) (gi u (i + (2 : Int32)))).toInt = _ := own_cp (by omega) (by omega)
  rw [own_cp (cp := cpF (cpF cp (gi u (i + (1 : Int32)))) (gi u (i + (2 : Int32)))) (by omega) (by omega), e2, e1]
  simp only [Int32.reduceToInt]
  by_cases a : n.toInt < i.toInt + 4
  · rw [if_pos a, if_neg (by omega)]
  · rw [if_neg a]
    by_cases b : 128 ≤ (gi u (i + (1 : Int32))).toInt ∧ (gi u (i + (1 : Int32))).toInt < 192
    · rw [if_pos b]
      by_cases d : 128 ≤ (gi u (i + (2 : Int32))).toInt ∧ (gi u (i + (2 : Int32))).toInt < 192
      · rw [if_pos d]
        by_cases f : 128 ≤ (gi u (i + (3 : Int32))).toInt ∧ (gi u (i + (3 : Int32))).toInt < 192
        · rw [if_pos f]; exact own_ite (by omega)
        · rw [if_neg f, if_neg (by omega)]
      · rw [if_neg d, if_neg (by omega)]
    · rw [if_neg b, if_neg (by omega)]
theorem ck1_val {u : List Int32} {n i lo hi : Int32} (h0 : 0 ≤ i.toInt) (hn : i.toInt < n.toInt) (h8 : n.toInt ≤ 8) :
    ck1 u n i lo hi = if i.toInt + 2 ≤ n.toInt ∧ lo.toInt ≤ (gi u (i + (1 : Int32))).toInt ∧ (gi u (i + (1 : Int32))).toInt ≤ hi.toInt then 2 else 0 := by
  unfold ck1
  simp only [own_il, own_sb h0 (by omega) (by omega : 0 ≤ n.toInt) (by omega), Int32.reduceToInt]
  by_cases a : 1 < n.toInt - i.toInt
  · rw [if_pos a]
    by_cases b : (gi u (i + (1 : Int32))).toInt < lo.toInt
    · rw [if_pos b, if_neg (by omega)]
    · rw [if_neg b]
      by_cases d : hi.toInt < (gi u (i + (1 : Int32))).toInt
      · rw [if_pos d, if_neg (by omega)]
      · rw [if_neg d, if_pos (by omega)]
  · rw [if_neg a, if_neg (by omega)]
theorem ck2_val {u : List Int32} {n i lo hi : Int32} (hb : ∀ j, isB (gi u j)) (h0 : 0 ≤ i.toInt) (hn : i.toInt < n.toInt) (h8 : n.toInt ≤ 8) :
    ck2 u n i lo hi = if i.toInt + 3 ≤ n.toInt ∧ lo.toInt ≤ (gi u (i + (1 : Int32))).toInt ∧ (gi u (i + (1 : Int32))).toInt ≤ hi.toInt ∧ 128 ≤ (gi u (i + (2 : Int32))).toInt ∧ (gi u (i + (2 : Int32))).toInt < 192 then 3 else 0 := by
  unfold ck2
  simp only [m4 (hb _), own_il, own_sb h0 (by omega) (by omega : 0 ≤ n.toInt) (by omega), Int32.reduceToInt]
  by_cases a : 2 < n.toInt - i.toInt
  · rw [if_pos a]
    by_cases b : (gi u (i + (1 : Int32))).toInt < lo.toInt
    · rw [if_pos b, if_neg (by omega)]
    · rw [if_neg b]
      by_cases d : hi.toInt < (gi u (i + (1 : Int32))).toInt
      · rw [if_pos d, if_neg (by omega)]
      · rw [if_neg d]; exact own_ite (by omega)
  · rw [if_neg a, if_neg (by omega)]
theorem ck3_val {u : List Int32} {n i lo hi : Int32} (hb : ∀ j, isB (gi u j)) (h0 : 0 ≤ i.toInt) (hn : i.toInt < n.toInt) (h8 : n.toInt ≤ 8) :
    ck3 u n i lo hi = if i.toInt + 4 ≤ n.toInt ∧ lo.toInt ≤ (gi u (i + (1 : Int32))).toInt ∧ (gi u (i + (1 : Int32))).toInt ≤ hi.toInt ∧ 128 ≤ (gi u (i + (2 : Int32))).toInt ∧ (gi u (i + (2 : Int32))).toInt < 192 ∧ 128 ≤ (gi u (i + (3 : Int32))).toInt ∧ (gi u (i + (3 : Int32))).toInt < 192 then 4 else 0 := by
  unfold ck3
  simp only [m4 (hb _), own_il, own_sb h0 (by omega) (by omega : 0 ≤ n.toInt) (by omega), Int32.reduceToInt]
  by_cases a : 3 < n.toInt - i.toInt
  · rw [if_pos a]
    by_cases b : (gi u (i + (1 : Int32))).toInt < lo.toInt
    · rw [if_pos b, if_neg (by omega)]
    · rw [if_neg b]
      by_cases d : hi.toInt < (gi u (i + (1 : Int32))).toInt
      · rw [if_pos d, if_neg (by omega)]
      · rw [if_neg d]
        by_cases f : 128 ≤ (gi u (i + (2 : Int32))).toInt ∧ (gi u (i + (2 : Int32))).toInt < 192
        · rw [if_pos f]; exact own_ite (by omega)
        · rw [if_neg f, if_neg (by omega)]
  · rw [if_neg a, if_neg (by omega)]
theorem own_sel {P : Prop} [Decidable P] {x y : Int32} : (if P then x else y).toInt = if P then x.toInt else y.toInt := by split <;> rfl
theorem seq_ut {u : List Int32} {n i : Int32} (hb : ∀ j, isB (gi u j)) (h0 : 0 ≤ i.toInt) (hn : i.toInt < n.toInt) (h8 : n.toInt ≤ 8) : seqF u n i = utF u n i := by
  have hB := hb i
  have k1 := c_mask (gi u i) 31 5 (by decide) (by decide)
  have k2 := c_mask (gi u i) 15 4 (by decide) (by decide)
  have k3 := c_mask (gi u i) 7 3 (by decide) (by decide)
  have d1 := m1 hB
  have d2 := m2 hB
  have d3 := m3 hB
  have hC := hb (i + (1 : Int32))
  unfold seqF utF ut2 ut3
  rw [sq2_val hb h0 hn h8 (by omega) (by omega), sq3_val hb h0 hn h8 (by omega) (by omega), sq4_val hb h0 hn h8 (by omega) (by omega), ck1_val h0 hn h8, ck2_val hb h0 hn h8, ck3_val hb h0 hn h8]
  simp only [d1, d2, d3, own_il, own_sel, Int32.reduceToInt, own_ieq (gi u i), k1, k2, k3]
  unfold isB at hB hC
  generalize (gi u i).toInt = B at *
  generalize (gi u (i + (1 : Int32))).toInt = C at *
  by_cases r1 : B < 128
  · rw [if_pos r1, if_pos r1]
  · rw [if_neg r1, if_neg r1]
    by_cases r2 : B < 192
    · rw [if_neg (by omega : ¬ (192 ≤ B ∧ B < 224)), if_neg (by omega : ¬ (224 ≤ B ∧ B < 240)), if_neg (by omega : ¬ (240 ≤ B ∧ B < 248)), if_pos (by omega : B < 194), if_pos (by omega : B < 224), if_pos (by omega : B < 240)]
    · by_cases r3 : B < 224
      · rw [if_pos (by omega : 192 ≤ B ∧ B < 224)]
        by_cases r4 : B < 194
        · rw [if_pos r4, if_pos r3, if_pos (by omega : B < 240), if_neg (by omega)]
        · rw [if_neg r4, if_neg (by omega : ¬ 223 < B)]; exact own_ite (by omega)
      · rw [if_neg (by omega : ¬ (192 ≤ B ∧ B < 224)), if_neg (by omega : ¬ B < 194), if_pos (by omega : 223 < B), if_neg r3]
        by_cases r4 : B < 240
        · rw [if_pos (by omega : 224 ≤ B ∧ B < 240), if_neg (by omega : ¬ 239 < B)]
          by_cases s1 : B = 224
          · rw [if_pos s1, if_neg (by omega : ¬ B = 237)]; exact own_ite (by omega)
          · by_cases s2 : B = 237
            · rw [if_neg s1, if_pos s2]; exact own_ite (by omega)
            · rw [if_neg s1, if_neg s2]; exact own_ite (by omega)
        · rw [if_neg (by omega : ¬ (224 ≤ B ∧ B < 240)), if_pos (by omega : 239 < B), if_neg r4]
          by_cases r5 : B < 248
          · rw [if_pos (by omega : 240 ≤ B ∧ B < 248)]
            by_cases r6 : 244 < B
            · rw [if_pos r6, if_neg (by omega)]
            · rw [if_neg r6]
              by_cases s1 : B = 240
              · rw [if_pos s1, if_neg (by omega : ¬ B = 244)]; exact own_ite (by omega)
              · by_cases s2 : B = 244
                · rw [if_neg s1, if_pos s2]; exact own_ite (by omega)
                · rw [if_neg s1, if_neg s2]; exact own_ite (by omega)
          · rw [if_neg (by omega : ¬ (240 ≤ B ∧ B < 248)), if_pos (by omega : 244 < B)]
def stF (u : List Int32) (n i : Int32) : Int32 := if i < 0 then (-1 : Int32) else if i < n then (if seqF u n i = 0 then (-1 : Int32) else i + seqF u n i) else i
def UF (u : List Int32) (n : Int32) : Nat → Int32 → Int32
  | 0, _ => 1
  | k + 1, i => if i < n then (if utF u n i = 0 then 0 else UF u n k (i + utF u n i)) else 1
def it (u : List Int32) (n : Int32) : Nat → Int32 → Int32
  | 0, i => i
  | k + 1, i => it u n k (stF u n i)
theorem ut_adv {u : List Int32} {n i : Int32} (hb : ∀ j, isB (gi u j)) (h0 : 0 ≤ i.toInt) (hn : i.toInt < n.toInt) (h8 : n.toInt ≤ 8) : utF u n i = 0 ∨ (1 ≤ (utF u n i).toInt ∧ i.toInt + (utF u n i).toInt ≤ n.toInt) := by
  have e1 : (1 : Int32).toInt = 1 := by decide
  have e2 : (2 : Int32).toInt = 2 := by decide
  have e3 : (3 : Int32).toInt = 3 := by decide
  have e4 : (4 : Int32).toInt = 4 := by decide
  have k1 : ∀ lo hi, ck1 u n i lo hi = 0 ∨ (1 ≤ (ck1 u n i lo hi).toInt ∧ i.toInt + (ck1 u n i lo hi).toInt ≤ n.toInt) := fun lo hi => by
    rw [ck1_val h0 hn h8]; split
    · right; omega
    · left; rfl
  have k2 : ∀ lo hi, ck2 u n i lo hi = 0 ∨ (1 ≤ (ck2 u n i lo hi).toInt ∧ i.toInt + (ck2 u n i lo hi).toInt ≤ n.toInt) := fun lo hi => by
    rw [ck2_val hb h0 hn h8]; split
    · right; omega
    · left; rfl
  have k3 : ∀ lo hi, ck3 u n i lo hi = 0 ∨ (1 ≤ (ck3 u n i lo hi).toInt ∧ i.toInt + (ck3 u n i lo hi).toInt ≤ n.toInt) := fun lo hi => by
    rw [ck3_val hb h0 hn h8]; split
    · right; omega
    · left; rfl
  have u3 : ut3 u n i = 0 ∨ (1 ≤ (ut3 u n i).toInt ∧ i.toInt + (ut3 u n i).toInt ≤ n.toInt) := by
    unfold ut3
    by_cases a : gi u i < (240 : Int32)
    · rw [if_pos a]; left; rfl
    · rw [if_neg a]
      by_cases b : (244 : Int32) < gi u i
      · rw [if_pos b]; left; rfl
      · rw [if_neg b]; exact k3 _ _
  have u2 : ut2 u n i = 0 ∨ (1 ≤ (ut2 u n i).toInt ∧ i.toInt + (ut2 u n i).toInt ≤ n.toInt) := by
    unfold ut2
    by_cases a : gi u i < (224 : Int32)
    · rw [if_pos a]; exact u3
    · rw [if_neg a]
      by_cases b : (239 : Int32) < gi u i
      · rw [if_pos b]; exact u3
      · rw [if_neg b]; exact k2 _ _
  unfold utF
  by_cases a : gi u i < (128 : Int32)
  · rw [if_pos a]; right; omega
  · rw [if_neg a]
    by_cases b : gi u i < (194 : Int32)
    · rw [if_pos b]; exact u2
    · rw [if_neg b]
      by_cases d : (223 : Int32) < gi u i
      · rw [if_pos d]; exact u2
      · rw [if_neg d]; exact k1 _ _
theorem it_neg (u : List Int32) (n : Int32) : ∀ k, it u n k (-1) = -1
  | 0 => rfl
  | k + 1 => by
    show it u n k (stF u n (-1)) = -1
    have : stF u n (-1) = -1 := if_pos (by decide)
    rw [this]; exact it_neg u n k
theorem st_n {u : List Int32} {n : Int32} (h0 : 0 ≤ n.toInt) : stF u n n = n := by
  unfold stF
  have e0 : (0 : Int32).toInt = 0 := by decide
  rw [if_neg (by rw [own_il]; omega), if_neg (by rw [own_il]; omega)]
theorem it_n {u : List Int32} {n : Int32} (h0 : 0 ≤ n.toInt) : ∀ k, it u n k n = n
  | 0 => rfl
  | k + 1 => by
    show it u n k (stF u n n) = n
    rw [st_n h0]; exact it_n h0 k
theorem own_both {u : List Int32} {n : Int32} (hb : ∀ j, isB (gi u j)) (h8 : n.toInt ≤ 8) (n0 : 0 ≤ n.toInt) : ∀ (k : Nat) (i : Int32), 0 ≤ i.toInt → i.toInt ≤ n.toInt → n.toInt - i.toInt ≤ k → (UF u n k i = 1 ∧ it u n k i = n) ∨ (UF u n k i = 0 ∧ it u n k i = -1)
  | 0, i, h0, hn, hk => by
    have : i = n := Int32.toInt_inj.mp (by omega)
    subst this; left; exact ⟨rfl, rfl⟩
  | k + 1, i, h0, hn, hk => by
    have e0 : (0 : Int32).toInt = 0 := by decide
    by_cases c : i < n
    · have c' := c
      rw [own_il] at c'
      have hs := seq_ut hb h0 c' h8
      show ((if i < n then (if utF u n i = 0 then 0 else UF u n k (i + utF u n i)) else 1) = 1 ∧ it u n k (stF u n i) = n) ∨ ((if i < n then (if utF u n i = 0 then 0 else UF u n k (i + utF u n i)) else 1) = 0 ∧ it u n k (stF u n i) = -1)
      unfold stF
      rw [if_pos c, if_neg (by rw [own_il]; omega : ¬ i < 0), if_pos c, hs]
      by_cases z : utF u n i = 0
      · rw [if_pos z, if_pos z]; right; exact ⟨rfl, it_neg u n k⟩
      · rw [if_neg z, if_neg z]
        obtain ⟨a1, a2⟩ := (ut_adv hb h0 c' h8).resolve_left z
        have a3 : (i + utF u n i).toInt = i.toInt + (utF u n i).toInt := own_ad rfl h0 (by omega) (by omega) (by omega)
        exact own_both hb h8 n0 k _ (by omega) (by omega) (by omega)
    · have c' := c
      rw [own_il] at c'
      have : i = n := Int32.toInt_inj.mp (by omega)
      subst this
      left
      exact ⟨if_neg c, it_n n0 (k + 1)⟩
theorem own_true {u : List Int32} {n r : Int32} (hb : ∀ j, isB (gi u j)) (h8 : n.toInt ≤ 8) (n0 : 0 ≤ n.toInt) (hr : it u n 8 0 = r) (h : r = n) : UF u n 8 0 = 1 := by
  have e0 : (0 : Int32).toInt = 0 := by decide
  rcases own_both hb h8 n0 8 0 (by omega) (by omega) (by omega) with q | q
  · exact q.1
  · exfalso
    rw [hr, h] at q
    have e : (-1 : Int32).toInt = -1 := by decide
    have := congrArg Int32.toInt q.2
    omega
theorem own_false {u : List Int32} {n r : Int32} (hb : ∀ j, isB (gi u j)) (h8 : n.toInt ≤ 8) (n0 : 0 ≤ n.toInt) (hr : it u n 8 0 = r) (h : ¬ r = n) : UF u n 8 0 = 0 := by
  have e0 : (0 : Int32).toInt = 0 := by decide
  rcases own_both hb h8 n0 8 0 (by omega) (by omega) (by omega) with q | q
  · exact absurd (hr.symm.trans q.2) h
  · exact q.1
theorem gi_ok {u : List Int32} {j : Int32} (hl : u.length = 8) (h0 : 0 ≤ j.toInt) (h8 : j.toInt < 8) : ¬ j < 0 ∧ u[j.toNatClampNeg]? = some (gi u j) := by
  have e0 : (0 : Int32).toInt = 0 := by decide
  have e : j.toNatClampNeg = j.toInt.toNat := rfl
  refine ⟨by rw [own_il]; omega, ?_⟩
  unfold gi
  rw [List.getD_eq_getElem?_getD, List.getElem?_eq_getElem (by omega)]; rfl
theorem gi_take {α : Type} {f : Int32 → α} {u : List Int32} {j : Int32} {N : Nat} (hl : u.length = 8) (hN : N ≤ 8) (h0 : 0 ≤ j.toInt) (h8 : j.toInt < N) : ¬ j < 0 ∧ ((u.take N).map f)[j.toNatClampNeg]? = some (f (gi u j)) := by
  obtain ⟨a, b⟩ := gi_ok hl h0 (by omega : j.toInt < 8)
  refine ⟨a, ?_⟩
  have e : j.toNatClampNeg = j.toInt.toNat := rfl
  rw [List.getElem?_map, List.getElem?_take, if_pos (by omega), b]; rfl
theorem own_hb {u : List Int32} (h : ∀ x ∈ u, isB x) : ∀ j, isB (gi u j) := fun j => by
  unfold gi
  rw [List.getD_eq_getElem?_getD]
  cases q : u[j.toNatClampNeg]? with
  | none => exact ⟨by decide, by decide⟩
  | some x => exact h x (List.mem_of_getElem? q)
theorem own_m8 (x : Int32) : isB (x &&& (255 : Int32)) := by
  have h := c_mask x 255 8 (by decide) (by decide)
  unfold isB; omega
theorem own_n9 {x n : Int32} (h : (x &&& (2147483647 : Int32)) % (9 : Int32) = n) : n = 0 ∨ n = 1 ∨ n = 2 ∨ n = 3 ∨ n = 4 ∨ n = 5 ∨ n = 6 ∨ n = 7 ∨ n = 8 := by
  have h1 := c_mask x 2147483647 31 (by decide) (by decide)
  have h2 := c_irem (x &&& 2147483647) 9 9 (by decide)
  rw [h] at h2
  simp only [own_ieq n, Int32.reduceToInt]
  omega
theorem own_23 (i : Int32) : (i + (2 : Int32)) + (1 : Int32) = i + (3 : Int32) := by rw [Int32.add_assoc]; rfl
theorem own_34 (i : Int32) : (i + (3 : Int32)) + (1 : Int32) = i + (4 : Int32) := by rw [Int32.add_assoc]; rfl
theorem pd0 : parseMethodDescriptor "([III)I" = some ⟨[(.array .int), .int, .int], (some .int)⟩ := by decide +kernel
theorem pd1 : parseMethodDescriptor "([B)Z" = some ⟨[(.array .byte)], (some .boolean)⟩ := by decide +kernel
theorem pd2 : parseMethodDescriptor "(III)Z" = some ⟨[.int, .int, .int], (some .boolean)⟩ := by decide +kernel
theorem d2_0 : decode method_4_code 0 = .ok (.aload_n 0, 1) := by decide +kernel
theorem d2_1 : decode method_4_code 1 = .ok (.iload_n 1, 1) := by decide +kernel
theorem d2_2 : decode method_4_code 2 = .ok (.iaload, 1) := by decide +kernel
theorem d2_3 : decode method_4_code 3 = .ok (.istore_n 3, 1) := by decide +kernel
theorem d2_4 : decode method_4_code 4 = .ok (.iload_n 3, 1) := by decide +kernel
theorem d2_5 : decode method_4_code 5 = .ok (.sipush 128, 3) := by decide +kernel
theorem d2_8 : decode method_4_code 8 = .ok (.if_icmp .ge 5, 3) := by decide +kernel
theorem d2_11 : decode method_4_code 11 = .ok (.iconst 1, 1) := by decide +kernel
theorem d2_12 : decode method_4_code 12 = .ok (.ireturn, 1) := by decide +kernel
theorem d2_13 : decode method_4_code 13 = .ok (.iload_n 3, 1) := by decide +kernel
theorem d2_14 : decode method_4_code 14 = .ok (.sipush 224, 3) := by decide +kernel
theorem d2_17 : decode method_4_code 17 = .ok (.iand, 1) := by decide +kernel
theorem d2_18 : decode method_4_code 18 = .ok (.sipush 192, 3) := by decide +kernel
theorem d2_21 : decode method_4_code 21 = .ok (.if_icmp .ne 20, 3) := by decide +kernel
theorem d2_24 : decode method_4_code 24 = .ok (.iconst 2, 1) := by decide +kernel
theorem d2_25 : decode method_4_code 25 = .ok (.istore 4, 2) := by decide +kernel
theorem d2_27 : decode method_4_code 27 = .ok (.iload_n 3, 1) := by decide +kernel
theorem d2_28 : decode method_4_code 28 = .ok (.bipush 31, 2) := by decide +kernel
theorem d2_30 : decode method_4_code 30 = .ok (.iand, 1) := by decide +kernel
theorem d2_31 : decode method_4_code 31 = .ok (.istore 5, 2) := by decide +kernel
theorem d2_33 : decode method_4_code 33 = .ok (.sipush 128, 3) := by decide +kernel
theorem d2_36 : decode method_4_code 36 = .ok (.istore 6, 2) := by decide +kernel
theorem d2_38 : decode method_4_code 38 = .ok (.goto 60, 3) := by decide +kernel
theorem d2_41 : decode method_4_code 41 = .ok (.iload_n 3, 1) := by decide +kernel
theorem d2_42 : decode method_4_code 42 = .ok (.sipush 240, 3) := by decide +kernel
theorem d2_45 : decode method_4_code 45 = .ok (.iand, 1) := by decide +kernel
theorem d2_46 : decode method_4_code 46 = .ok (.sipush 224, 3) := by decide +kernel
theorem d2_49 : decode method_4_code 49 = .ok (.if_icmp .ne 20, 3) := by decide +kernel
theorem d2_52 : decode method_4_code 52 = .ok (.iconst 3, 1) := by decide +kernel
theorem d2_53 : decode method_4_code 53 = .ok (.istore 4, 2) := by decide +kernel
theorem d2_55 : decode method_4_code 55 = .ok (.iload_n 3, 1) := by decide +kernel
theorem d2_56 : decode method_4_code 56 = .ok (.bipush 15, 2) := by decide +kernel
theorem d2_58 : decode method_4_code 58 = .ok (.iand, 1) := by decide +kernel
theorem d2_59 : decode method_4_code 59 = .ok (.istore 5, 2) := by decide +kernel
theorem d2_61 : decode method_4_code 61 = .ok (.sipush 2048, 3) := by decide +kernel
theorem d2_64 : decode method_4_code 64 = .ok (.istore 6, 2) := by decide +kernel
theorem d2_66 : decode method_4_code 66 = .ok (.goto 32, 3) := by decide +kernel
theorem d2_69 : decode method_4_code 69 = .ok (.iload_n 3, 1) := by decide +kernel
theorem d2_70 : decode method_4_code 70 = .ok (.sipush 248, 3) := by decide +kernel
theorem d2_73 : decode method_4_code 73 = .ok (.iand, 1) := by decide +kernel
theorem d2_74 : decode method_4_code 74 = .ok (.sipush 240, 3) := by decide +kernel
theorem d2_77 : decode method_4_code 77 = .ok (.if_icmp .ne 19, 3) := by decide +kernel
theorem d2_80 : decode method_4_code 80 = .ok (.iconst 4, 1) := by decide +kernel
theorem d2_81 : decode method_4_code 81 = .ok (.istore 4, 2) := by decide +kernel
theorem d2_83 : decode method_4_code 83 = .ok (.iload_n 3, 1) := by decide +kernel
theorem d2_84 : decode method_4_code 84 = .ok (.bipush 7, 2) := by decide +kernel
theorem d2_86 : decode method_4_code 86 = .ok (.iand, 1) := by decide +kernel
theorem d2_87 : decode method_4_code 87 = .ok (.istore 5, 2) := by decide +kernel
theorem d2_89 : decode method_4_code 89 = .ok (.ldc 23, 2) := by decide +kernel
theorem d2_91 : decode method_4_code 91 = .ok (.istore 6, 2) := by decide +kernel
theorem d2_93 : decode method_4_code 93 = .ok (.goto 5, 3) := by decide +kernel
theorem d2_96 : decode method_4_code 96 = .ok (.iconst 0, 1) := by decide +kernel
theorem d2_97 : decode method_4_code 97 = .ok (.ireturn, 1) := by decide +kernel
theorem d2_98 : decode method_4_code 98 = .ok (.iload_n 1, 1) := by decide +kernel
theorem d2_99 : decode method_4_code 99 = .ok (.iload 4, 2) := by decide +kernel
theorem d2_101 : decode method_4_code 101 = .ok (.iadd, 1) := by decide +kernel
theorem d2_102 : decode method_4_code 102 = .ok (.iload_n 2, 1) := by decide +kernel
theorem d2_103 : decode method_4_code 103 = .ok (.if_icmp .le 5, 3) := by decide +kernel
theorem d2_106 : decode method_4_code 106 = .ok (.iconst 0, 1) := by decide +kernel
theorem d2_107 : decode method_4_code 107 = .ok (.ireturn, 1) := by decide +kernel
theorem d2_108 : decode method_4_code 108 = .ok (.aload_n 0, 1) := by decide +kernel
theorem d2_109 : decode method_4_code 109 = .ok (.iload_n 1, 1) := by decide +kernel
theorem d2_110 : decode method_4_code 110 = .ok (.iconst 1, 1) := by decide +kernel
theorem d2_111 : decode method_4_code 111 = .ok (.iadd, 1) := by decide +kernel
theorem d2_112 : decode method_4_code 112 = .ok (.iaload, 1) := by decide +kernel
theorem d2_113 : decode method_4_code 113 = .ok (.istore 7, 2) := by decide +kernel
theorem d2_115 : decode method_4_code 115 = .ok (.iload 7, 2) := by decide +kernel
theorem d2_117 : decode method_4_code 117 = .ok (.sipush 192, 3) := by decide +kernel
theorem d2_120 : decode method_4_code 120 = .ok (.iand, 1) := by decide +kernel
theorem d2_121 : decode method_4_code 121 = .ok (.sipush 128, 3) := by decide +kernel
theorem d2_124 : decode method_4_code 124 = .ok (.if_icmp .eq 5, 3) := by decide +kernel
theorem d2_127 : decode method_4_code 127 = .ok (.iconst 0, 1) := by decide +kernel
theorem d2_128 : decode method_4_code 128 = .ok (.ireturn, 1) := by decide +kernel
theorem d2_129 : decode method_4_code 129 = .ok (.iload 5, 2) := by decide +kernel
theorem d2_131 : decode method_4_code 131 = .ok (.bipush 6, 2) := by decide +kernel
theorem d2_133 : decode method_4_code 133 = .ok (.ishl, 1) := by decide +kernel
theorem d2_134 : decode method_4_code 134 = .ok (.iload 7, 2) := by decide +kernel
theorem d2_136 : decode method_4_code 136 = .ok (.bipush 63, 2) := by decide +kernel
theorem d2_138 : decode method_4_code 138 = .ok (.iand, 1) := by decide +kernel
theorem d2_139 : decode method_4_code 139 = .ok (.ior, 1) := by decide +kernel
theorem d2_140 : decode method_4_code 140 = .ok (.istore 5, 2) := by decide +kernel
theorem d2_142 : decode method_4_code 142 = .ok (.iload 4, 2) := by decide +kernel
theorem d2_144 : decode method_4_code 144 = .ok (.iconst 3, 1) := by decide +kernel
theorem d2_145 : decode method_4_code 145 = .ok (.if_icmp .lt 37, 3) := by decide +kernel
theorem d2_148 : decode method_4_code 148 = .ok (.aload_n 0, 1) := by decide +kernel
theorem d2_149 : decode method_4_code 149 = .ok (.iload_n 1, 1) := by decide +kernel
theorem d2_150 : decode method_4_code 150 = .ok (.iconst 2, 1) := by decide +kernel
theorem d2_151 : decode method_4_code 151 = .ok (.iadd, 1) := by decide +kernel
theorem d2_152 : decode method_4_code 152 = .ok (.iaload, 1) := by decide +kernel
theorem d2_153 : decode method_4_code 153 = .ok (.istore 8, 2) := by decide +kernel
theorem d2_155 : decode method_4_code 155 = .ok (.iload 8, 2) := by decide +kernel
theorem d2_157 : decode method_4_code 157 = .ok (.sipush 192, 3) := by decide +kernel
theorem d2_160 : decode method_4_code 160 = .ok (.iand, 1) := by decide +kernel
theorem d2_161 : decode method_4_code 161 = .ok (.sipush 128, 3) := by decide +kernel
theorem d2_164 : decode method_4_code 164 = .ok (.if_icmp .eq 5, 3) := by decide +kernel
theorem d2_167 : decode method_4_code 167 = .ok (.iconst 0, 1) := by decide +kernel
theorem d2_168 : decode method_4_code 168 = .ok (.ireturn, 1) := by decide +kernel
theorem d2_169 : decode method_4_code 169 = .ok (.iload 5, 2) := by decide +kernel
theorem d2_171 : decode method_4_code 171 = .ok (.bipush 6, 2) := by decide +kernel
theorem d2_173 : decode method_4_code 173 = .ok (.ishl, 1) := by decide +kernel
theorem d2_174 : decode method_4_code 174 = .ok (.iload 8, 2) := by decide +kernel
theorem d2_176 : decode method_4_code 176 = .ok (.bipush 63, 2) := by decide +kernel
theorem d2_178 : decode method_4_code 178 = .ok (.iand, 1) := by decide +kernel
theorem d2_179 : decode method_4_code 179 = .ok (.ior, 1) := by decide +kernel
theorem d2_180 : decode method_4_code 180 = .ok (.istore 5, 2) := by decide +kernel
theorem d2_182 : decode method_4_code 182 = .ok (.iload 4, 2) := by decide +kernel
theorem d2_184 : decode method_4_code 184 = .ok (.iconst 4, 1) := by decide +kernel
theorem d2_185 : decode method_4_code 185 = .ok (.if_icmp .ne 37, 3) := by decide +kernel
theorem d2_188 : decode method_4_code 188 = .ok (.aload_n 0, 1) := by decide +kernel
theorem d2_189 : decode method_4_code 189 = .ok (.iload_n 1, 1) := by decide +kernel
theorem d2_190 : decode method_4_code 190 = .ok (.iconst 3, 1) := by decide +kernel
theorem d2_191 : decode method_4_code 191 = .ok (.iadd, 1) := by decide +kernel
theorem d2_192 : decode method_4_code 192 = .ok (.iaload, 1) := by decide +kernel
theorem d2_193 : decode method_4_code 193 = .ok (.istore 8, 2) := by decide +kernel
theorem d2_195 : decode method_4_code 195 = .ok (.iload 8, 2) := by decide +kernel
theorem d2_197 : decode method_4_code 197 = .ok (.sipush 192, 3) := by decide +kernel
theorem d2_200 : decode method_4_code 200 = .ok (.iand, 1) := by decide +kernel
theorem d2_201 : decode method_4_code 201 = .ok (.sipush 128, 3) := by decide +kernel
theorem d2_204 : decode method_4_code 204 = .ok (.if_icmp .eq 5, 3) := by decide +kernel
theorem d2_207 : decode method_4_code 207 = .ok (.iconst 0, 1) := by decide +kernel
theorem d2_208 : decode method_4_code 208 = .ok (.ireturn, 1) := by decide +kernel
theorem d2_209 : decode method_4_code 209 = .ok (.iload 5, 2) := by decide +kernel
theorem d2_211 : decode method_4_code 211 = .ok (.bipush 6, 2) := by decide +kernel
theorem d2_213 : decode method_4_code 213 = .ok (.ishl, 1) := by decide +kernel
theorem d2_214 : decode method_4_code 214 = .ok (.iload 8, 2) := by decide +kernel
theorem d2_216 : decode method_4_code 216 = .ok (.bipush 63, 2) := by decide +kernel
theorem d2_218 : decode method_4_code 218 = .ok (.iand, 1) := by decide +kernel
theorem d2_219 : decode method_4_code 219 = .ok (.ior, 1) := by decide +kernel
theorem d2_220 : decode method_4_code 220 = .ok (.istore 5, 2) := by decide +kernel
theorem d2_222 : decode method_4_code 222 = .ok (.iload 5, 2) := by decide +kernel
theorem d2_224 : decode method_4_code 224 = .ok (.iload 6, 2) := by decide +kernel
theorem d2_226 : decode method_4_code 226 = .ok (.if_icmp .ge 5, 3) := by decide +kernel
theorem d2_229 : decode method_4_code 229 = .ok (.iconst 0, 1) := by decide +kernel
theorem d2_230 : decode method_4_code 230 = .ok (.ireturn, 1) := by decide +kernel
theorem d2_231 : decode method_4_code 231 = .ok (.iload 5, 2) := by decide +kernel
theorem d2_233 : decode method_4_code 233 = .ok (.ldc 24, 2) := by decide +kernel
theorem d2_235 : decode method_4_code 235 = .ok (.if_icmp .lt 12, 3) := by decide +kernel
theorem d2_238 : decode method_4_code 238 = .ok (.iload 5, 2) := by decide +kernel
theorem d2_240 : decode method_4_code 240 = .ok (.ldc 25, 2) := by decide +kernel
theorem d2_242 : decode method_4_code 242 = .ok (.if_icmp .gt 5, 3) := by decide +kernel
theorem d2_245 : decode method_4_code 245 = .ok (.iconst 0, 1) := by decide +kernel
theorem d2_246 : decode method_4_code 246 = .ok (.ireturn, 1) := by decide +kernel
theorem d2_247 : decode method_4_code 247 = .ok (.iload 5, 2) := by decide +kernel
theorem d2_249 : decode method_4_code 249 = .ok (.ldc 26, 2) := by decide +kernel
theorem d2_251 : decode method_4_code 251 = .ok (.if_icmp .le 5, 3) := by decide +kernel
theorem d2_254 : decode method_4_code 254 = .ok (.iconst 0, 1) := by decide +kernel
theorem d2_255 : decode method_4_code 255 = .ok (.ireturn, 1) := by decide +kernel
theorem d2_256 : decode method_4_code 256 = .ok (.iload 4, 2) := by decide +kernel
theorem d2_258 : decode method_4_code 258 = .ok (.ireturn, 1) := by decide +kernel
theorem pn0 : plainName "com/example/wide_schema/wideschema/model/NativeTypeIsUtf8PinLaw" = true := by first | (simp [plainName, overriddenIn]; done) | decide +kernel
theorem ef_rm2 (m : MethodId) (ua : Addr) (i : Int32) (n : Int32) : entryFrame m #[(.ref ua), (.int i), (.int n)] 9 = mkF m 0 #[.val (.ref ua), .val (.int i), .val (.int n), .unset, .unset, .unset, .unset, .unset, .unset] [] := by first | (simp [entryFrame, mkF, argsToLocals, Value.category]; done) | rfl
def Q_rm2 (Z : State) (ua : Addr) (i : Int32) (n : Int32) (u : List Int32) (h0 : Heap) (n0 : Nat) (v : Option Value) (h : Heap) (L : List Loc) : Prop := v = some (.int (seqF u n i)) ∧ Fr n0 L ∧ h = h0
set_option maxRecDepth 65536 in
set_option maxHeartbeats 40000000 in
theorem rm2 (l : Launch) (Z : State) (a0 : Array Value) (hw : ∀ d ∈ tables_1, d.before a0 Z = true) (ws : List Jvm.Cond) (ua : Addr) (i : Int32) (n : Int32) (u : List Int32) (h0 : Heap) (n0 : Nat) (Z0 : n0 ≤ h0.size) (A0 : Arl Z h0 ua .int (List.map Value.int u)) (hl : u.length = 8) (hn0 : 0 ≤ n.toInt) (hn8 : n.toInt ≤ 8) (hi0 : 0 ≤ i.toInt) (hin : i.toInt < n.toInt) :
    MetFree l (⟨"com/example/wide_schema/wideschema/model/NativeTypeIsUtf8PinLaw", "seq", "([III)I"⟩ : MethodName) (head1 (Jvm.Cond.code (⟨"com/example/wide_schema/wideschema/model/NativeTypeIsUtf8PinLaw", "seq", "([III)I"⟩ : MethodName) method_4_code 9 (some .int) :: ws) ({ frames := 0, cells := 0, slots := 0, locals := 0 } : Room)) (fun aa U => aa = #[(.ref ua), (.int i), (.int n)] ∧ Z.Warmed39 U.vm ∧ U.heap = h0) (fun _ _ _ _ _ => True) (fun _ U oo U' => ∃ v L, oo = .returned v ∧ Q_rm2 Z ua i n u h0 n0 v U'.heap L ∧ FrameEnd U oo U' L ({ frames := 0, cells := 0, slots := 0, locals := 0 } : Room).cells ({ frames := 0, cells := 0, slots := 0, locals := 0 } : Room).slots) := by
  refine MetFree.of_bodySF (plainFor_of_name pn0) hisR ?_
  intro p e s m args below meth c s₁ Bd hml0 hP hK
  obtain ⟨rfl, hZ, hh⟩ := hP
  have hx := Bd.exec
  have hby := Bd.bytes
  have hml : c.maxLocals = 9 := hml0
  have hown : s.vm.findClass "com/example/wide_schema/wideschema/model/NativeTypeIsUtf8PinLaw" = some m.cls := findClass_of_methodNamed Bd.named
  have hnm := (name_of_methodNamed Bd.named Bd.method).1
  have hlk : meth.locks = false := Bd.notSynchronized
  have hret := Bd.returns
  have X0 : Stand p l e ({ frames := 0, cells := 0, slots := 0, locals := 0 } : Room) s m #[(.ref ua), (.int i), (.int n)] below meth c s₁ [] 0 0 := Stand.of_body Bd
  have e0 : s₁.heap = h0 := by rw [← hh, Bd.state]; rfl
  have N0 := Fr.nil n0
  have K0 : Keep h0 h0 [] := Keep.refl _ _
  show Goes p e below s (Q_rm2 Z ua i n u h0 n0) ({ frames := 0, cells := 0, slots := 0, locals := 0 } : Room).cells ({ frames := 0, cells := 0, slots := 0, locals := 0 } : Room).slots _
  refine Goes.go (fun t k => castTop (ef_rm2 m ua i n) k) ?_
  show Goes _ _ _ _ _ _ _ (s₁.setTop (mkF m 0 #[.val (.ref ua), .val (.int i), .val (.int n), .unset, .unset, .unset, .unset, .unset, .unset] []))
  refine Goes.go (fun _ kk => XS.aloadN X0.here hx rfl (hb hby d2_0) rfl rfl kk) ?_
  show Goes _ _ _ _ _ _ _ (s₁.setTop (mkF m 1 _ [(.ref ua)]))
  refine Goes.go (fun _ kk => XS.iloadN X0.here hx rfl (hb hby d2_1) rfl kk) ?_
  show Goes _ _ _ _ _ _ _ (s₁.setTop (mkF m 2 _ [(.int i), (.ref ua)]))
  refine Goes.go (own_ldI X0 hx hZ e0 A0 (j := i) (v := (.int (gi u i))) (gi_ok hl hi0 (by omega)).1 (own_ati (gi_ok hl hi0 (by omega)).2) rfl rfl (hb hby d2_2)) ?_
  show Goes _ _ _ _ _ _ _ (s₁.setTop (mkF m 3 _ [(.int (gi u i))]))
  refine Goes.go (fun _ kk => XS.istoreN X0.here hx rfl (hb hby d2_3) rfl (l' := #[.val (.ref ua), .val (.int i), .val (.int n), .val (.int (gi u i)), .unset, .unset, .unset, .unset, .unset]) rfl kk) ?_
  show Goes _ _ _ _ _ _ _ (s₁.setTop (mkF m 4 #[.val (.ref ua), .val (.int i), .val (.int n), .val (.int (gi u i)), .unset, .unset, .unset, .unset, .unset] []))
  refine Goes.go (fun _ kk => XS.iloadN X0.here hx rfl (hb hby d2_4) rfl kk) ?_
  show Goes _ _ _ _ _ _ _ (s₁.setTop (mkF m 5 _ [(.int (gi u i))]))
  refine Goes.go (fun _ kk => XS.sipush X0.here hx rfl (hb hby d2_5) kk) ?_
  show Goes _ _ _ _ _ _ _ (s₁.setTop (mkF m 8 _ [(.int (128 : Int32)), (.int (gi u i))]))
  by_cases c8 : (gi u i) < (128 : Int32)
  · skip
    refine Goes.go (fun _ kk => XS.icmpNo X0.here hx rfl (hb hby d2_8) rfl (XT.ii_ge_f c8) kk) ?_
    show Goes _ _ _ _ _ _ _ (s₁.setTop (mkF m 11 _ []))
    refine Goes.go (fun _ kk => XS.iconst X0.here hx rfl (hb hby d2_11) kk) ?_
    show Goes _ _ _ _ _ _ _ (s₁.setTop (mkF m 12 _ [(.int (1 : Int32))]))
    exact Goes.outI X0 hx hlk hret (hb hby d2_12) e0 ⟨by simp only [seqF, sq2, sq3, sq4, fnF, if_pos c8], N0, rfl⟩ (by decide) (by decide)
  · skip
    refine Goes.go (fun _ kk => XS.icmpYes X0.here hx rfl (pc0 := 8) (pc' := 13) rfl (hb hby d2_8) rfl (XT.ii_ge_t c8) (by decide) (by decide) kk) ?_
    show Goes _ _ _ _ _ _ _ (s₁.setTop (mkF m 13 _ []))
    refine Goes.go (fun _ kk => XS.iloadN X0.here hx rfl (hb hby d2_13) rfl kk) ?_
    show Goes _ _ _ _ _ _ _ (s₁.setTop (mkF m 14 _ [(.int (gi u i))]))
    refine Goes.go (fun _ kk => XS.sipush X0.here hx rfl (hb hby d2_14) kk) ?_
    show Goes _ _ _ _ _ _ _ (s₁.setTop (mkF m 17 _ [(.int (224 : Int32)), (.int (gi u i))]))
    refine Goes.go (fun _ kk => XS.iand X0.here hx rfl (hb hby d2_17) rfl kk) ?_
    show Goes _ _ _ _ _ _ _ (s₁.setTop (mkF m 18 _ [(.int ((gi u i) &&& (224 : Int32)))]))
    refine Goes.go (fun _ kk => XS.sipush X0.here hx rfl (hb hby d2_18) kk) ?_
    show Goes _ _ _ _ _ _ _ (s₁.setTop (mkF m 21 _ [(.int (192 : Int32)), (.int ((gi u i) &&& (224 : Int32)))]))
    by_cases c21 : ((gi u i) &&& (224 : Int32)) = (192 : Int32)
    · skip
      refine Goes.go (fun _ kk => XS.icmpNo X0.here hx rfl (hb hby d2_21) rfl (XT.ii_ne_f c21) kk) ?_
      show Goes _ _ _ _ _ _ _ (s₁.setTop (mkF m 24 _ []))
      refine Goes.go (fun _ kk => XS.iconst X0.here hx rfl (hb hby d2_24) kk) ?_
      show Goes _ _ _ _ _ _ _ (s₁.setTop (mkF m 25 _ [(.int (2 : Int32))]))
      refine Goes.go (fun _ kk => XS.istore X0.here hx rfl (hb hby d2_25) rfl (l' := #[.val (.ref ua), .val (.int i), .val (.int n), .val (.int (gi u i)), .val (.int (2 : Int32)), .unset, .unset, .unset, .unset]) rfl kk) ?_
      show Goes _ _ _ _ _ _ _ (s₁.setTop (mkF m 27 #[.val (.ref ua), .val (.int i), .val (.int n), .val (.int (gi u i)), .val (.int (2 : Int32)), .unset, .unset, .unset, .unset] []))
      refine Goes.go (fun _ kk => XS.iloadN X0.here hx rfl (hb hby d2_27) rfl kk) ?_
      show Goes _ _ _ _ _ _ _ (s₁.setTop (mkF m 28 _ [(.int (gi u i))]))
      refine Goes.go (fun _ kk => XS.bipush X0.here hx rfl (hb hby d2_28) kk) ?_
      show Goes _ _ _ _ _ _ _ (s₁.setTop (mkF m 30 _ [(.int (31 : Int32)), (.int (gi u i))]))
      refine Goes.go (fun _ kk => XS.iand X0.here hx rfl (hb hby d2_30) rfl kk) ?_
      show Goes _ _ _ _ _ _ _ (s₁.setTop (mkF m 31 _ [(.int ((gi u i) &&& (31 : Int32)))]))
      refine Goes.go (fun _ kk => XS.istore X0.here hx rfl (hb hby d2_31) rfl (l' := #[.val (.ref ua), .val (.int i), .val (.int n), .val (.int (gi u i)), .val (.int (2 : Int32)), .val (.int ((gi u i) &&& (31 : Int32))), .unset, .unset, .unset]) rfl kk) ?_
      show Goes _ _ _ _ _ _ _ (s₁.setTop (mkF m 33 #[.val (.ref ua), .val (.int i), .val (.int n), .val (.int (gi u i)), .val (.int (2 : Int32)), .val (.int ((gi u i) &&& (31 : Int32))), .unset, .unset, .unset] []))
      refine Goes.go (fun _ kk => XS.sipush X0.here hx rfl (hb hby d2_33) kk) ?_
      show Goes _ _ _ _ _ _ _ (s₁.setTop (mkF m 36 _ [(.int (128 : Int32))]))
      refine Goes.go (fun _ kk => XS.istore X0.here hx rfl (hb hby d2_36) rfl (l' := #[.val (.ref ua), .val (.int i), .val (.int n), .val (.int (gi u i)), .val (.int (2 : Int32)), .val (.int ((gi u i) &&& (31 : Int32))), .val (.int (128 : Int32)), .unset, .unset]) rfl kk) ?_
      show Goes _ _ _ _ _ _ _ (s₁.setTop (mkF m 38 #[.val (.ref ua), .val (.int i), .val (.int n), .val (.int (gi u i)), .val (.int (2 : Int32)), .val (.int ((gi u i) &&& (31 : Int32))), .val (.int (128 : Int32)), .unset, .unset] []))
      refine Goes.go (fun _ kk => XS.goto X0.here hx rfl (pc0 := 38) (pc' := 98) rfl (hb hby d2_38) (by decide) (by decide) kk) ?_
      show Goes _ _ _ _ _ _ _ (s₁.setTop (mkF m 98 _ []))
      refine Goes.go (fun _ kk => XS.iloadN X0.here hx rfl (hb hby d2_98) rfl kk) ?_
      show Goes _ _ _ _ _ _ _ (s₁.setTop (mkF m 99 _ [(.int i)]))
      refine Goes.go (fun _ kk => XS.iload X0.here hx rfl (hb hby d2_99) rfl kk) ?_
      show Goes _ _ _ _ _ _ _ (s₁.setTop (mkF m 101 _ [(.int (2 : Int32)), (.int i)]))
      refine Goes.go (fun _ kk => XS.iadd X0.here hx rfl (hb hby d2_101) rfl kk) ?_
      show Goes _ _ _ _ _ _ _ (s₁.setTop (mkF m 102 _ [(.int (i + (2 : Int32)))]))
      refine Goes.go (fun _ kk => XS.iloadN X0.here hx rfl (hb hby d2_102) rfl kk) ?_
      show Goes _ _ _ _ _ _ _ (s₁.setTop (mkF m 103 _ [(.int n), (.int (i + (2 : Int32)))]))
      by_cases c103 : n < (i + (2 : Int32))
      · skip
        refine Goes.go (fun _ kk => XS.icmpNo X0.here hx rfl (hb hby d2_103) rfl (XT.ii_le_f c103) kk) ?_
        show Goes _ _ _ _ _ _ _ (s₁.setTop (mkF m 106 _ []))
        refine Goes.go (fun _ kk => XS.iconst X0.here hx rfl (hb hby d2_106) kk) ?_
        show Goes _ _ _ _ _ _ _ (s₁.setTop (mkF m 107 _ [(.int (0 : Int32))]))
        exact Goes.outI X0 hx hlk hret (hb hby d2_107) e0 ⟨by simp only [seqF, sq2, sq3, sq4, fnF, if_neg c8, if_pos c21, if_pos c103], N0, rfl⟩ (by decide) (by decide)
      · skip
        refine Goes.go (fun _ kk => XS.icmpYes X0.here hx rfl (pc0 := 103) (pc' := 108) rfl (hb hby d2_103) rfl (XT.ii_le_t c103) (by decide) (by decide) kk) ?_
        show Goes _ _ _ _ _ _ _ (s₁.setTop (mkF m 108 _ []))
        have a1 : (i + (1 : Int32)).toInt = i.toInt + 1 := own_ad (by decide) hi0 (by omega) (by decide) (by decide)
        have a2 : (i + (2 : Int32)).toInt = i.toInt + 2 := own_ad (by decide) hi0 (by omega) (by decide) (by decide)
        have a0 : ¬ n.toInt < (i + (2 : Int32)).toInt := fun q => c103 (Int32.lt_iff_toInt_lt.mpr q)
        refine Goes.go (fun _ kk => XS.aloadN X0.here hx rfl (hb hby d2_108) rfl rfl kk) ?_
        show Goes _ _ _ _ _ _ _ (s₁.setTop (mkF m 109 _ [(.ref ua)]))
        refine Goes.go (fun _ kk => XS.iloadN X0.here hx rfl (hb hby d2_109) rfl kk) ?_
        show Goes _ _ _ _ _ _ _ (s₁.setTop (mkF m 110 _ [(.int i), (.ref ua)]))
        refine Goes.go (fun _ kk => XS.iconst X0.here hx rfl (hb hby d2_110) kk) ?_
        show Goes _ _ _ _ _ _ _ (s₁.setTop (mkF m 111 _ [(.int (1 : Int32)), (.int i), (.ref ua)]))
        refine Goes.go (fun _ kk => XS.iadd X0.here hx rfl (hb hby d2_111) rfl kk) ?_
        show Goes _ _ _ _ _ _ _ (s₁.setTop (mkF m 112 _ [(.int (i + (1 : Int32))), (.ref ua)]))
        refine Goes.go (own_ldI X0 hx hZ e0 A0 (j := (i + (1 : Int32))) (v := (.int (gi u (i + (1 : Int32))))) (gi_ok hl (by omega) (by omega)).1 (own_ati (gi_ok hl (by omega) (by omega)).2) rfl rfl (hb hby d2_112)) ?_
        show Goes _ _ _ _ _ _ _ (s₁.setTop (mkF m 113 _ [(.int (gi u (i + (1 : Int32))))]))
        refine Goes.go (fun _ kk => XS.istore X0.here hx rfl (hb hby d2_113) rfl (l' := #[.val (.ref ua), .val (.int i), .val (.int n), .val (.int (gi u i)), .val (.int (2 : Int32)), .val (.int ((gi u i) &&& (31 : Int32))), .val (.int (128 : Int32)), .val (.int (gi u (i + (1 : Int32)))), .unset]) rfl kk) ?_
        show Goes _ _ _ _ _ _ _ (s₁.setTop (mkF m 115 #[.val (.ref ua), .val (.int i), .val (.int n), .val (.int (gi u i)), .val (.int (2 : Int32)), .val (.int ((gi u i) &&& (31 : Int32))), .val (.int (128 : Int32)), .val (.int (gi u (i + (1 : Int32)))), .unset] []))
        refine Goes.go (fun _ kk => XS.iload X0.here hx rfl (hb hby d2_115) rfl kk) ?_
        show Goes _ _ _ _ _ _ _ (s₁.setTop (mkF m 117 _ [(.int (gi u (i + (1 : Int32))))]))
        refine Goes.go (fun _ kk => XS.sipush X0.here hx rfl (hb hby d2_117) kk) ?_
        show Goes _ _ _ _ _ _ _ (s₁.setTop (mkF m 120 _ [(.int (192 : Int32)), (.int (gi u (i + (1 : Int32))))]))
        refine Goes.go (fun _ kk => XS.iand X0.here hx rfl (hb hby d2_120) rfl kk) ?_
        show Goes _ _ _ _ _ _ _ (s₁.setTop (mkF m 121 _ [(.int ((gi u (i + (1 : Int32))) &&& (192 : Int32)))]))
        refine Goes.go (fun _ kk => XS.sipush X0.here hx rfl (hb hby d2_121) kk) ?_
        show Goes _ _ _ _ _ _ _ (s₁.setTop (mkF m 124 _ [(.int (128 : Int32)), (.int ((gi u (i + (1 : Int32))) &&& (192 : Int32)))]))
        by_cases c124 : ((gi u (i + (1 : Int32))) &&& (192 : Int32)) = (128 : Int32)
        · skip
          refine Goes.go (fun _ kk => XS.icmpYes X0.here hx rfl (pc0 := 124) (pc' := 129) rfl (hb hby d2_124) rfl (XT.ii_eq_t c124) (by decide) (by decide) kk) ?_
          show Goes _ _ _ _ _ _ _ (s₁.setTop (mkF m 129 _ []))
          refine Goes.go (fun _ kk => XS.iload X0.here hx rfl (hb hby d2_129) rfl kk) ?_
          show Goes _ _ _ _ _ _ _ (s₁.setTop (mkF m 131 _ [(.int ((gi u i) &&& (31 : Int32)))]))
          refine Goes.go (fun _ kk => XS.bipush X0.here hx rfl (hb hby d2_131) kk) ?_
          show Goes _ _ _ _ _ _ _ (s₁.setTop (mkF m 133 _ [(.int (6 : Int32)), (.int ((gi u i) &&& (31 : Int32)))]))
          refine Goes.go (fun _ kk => XS.ishl X0.here hx rfl (hb hby d2_133) rfl kk) ?_
          show Goes _ _ _ _ _ _ _ (s₁.setTop (mkF m 134 _ [(.int (((gi u i) &&& (31 : Int32)) <<< ((6 : Int32) &&& 31)))]))
          refine Goes.go (fun _ kk => XS.iload X0.here hx rfl (hb hby d2_134) rfl kk) ?_
          show Goes _ _ _ _ _ _ _ (s₁.setTop (mkF m 136 _ [(.int (gi u (i + (1 : Int32)))), (.int (((gi u i) &&& (31 : Int32)) <<< ((6 : Int32) &&& 31)))]))
          refine Goes.go (fun _ kk => XS.bipush X0.here hx rfl (hb hby d2_136) kk) ?_
          show Goes _ _ _ _ _ _ _ (s₁.setTop (mkF m 138 _ [(.int (63 : Int32)), (.int (gi u (i + (1 : Int32)))), (.int (((gi u i) &&& (31 : Int32)) <<< ((6 : Int32) &&& 31)))]))
          refine Goes.go (fun _ kk => XS.iand X0.here hx rfl (hb hby d2_138) rfl kk) ?_
          show Goes _ _ _ _ _ _ _ (s₁.setTop (mkF m 139 _ [(.int ((gi u (i + (1 : Int32))) &&& (63 : Int32))), (.int (((gi u i) &&& (31 : Int32)) <<< ((6 : Int32) &&& 31)))]))
          refine Goes.go (fun _ kk => XS.ior X0.here hx rfl (hb hby d2_139) rfl kk) ?_
          show Goes _ _ _ _ _ _ _ (s₁.setTop (mkF m 140 _ [(.int ((((gi u i) &&& (31 : Int32)) <<< ((6 : Int32) &&& 31)) ||| ((gi u (i + (1 : Int32))) &&& (63 : Int32))))]))
          show Goes _ _ _ _ _ _ _ (s₁.setTop (mkF m 140 _ [(.int (cpF ((gi u i) &&& (31 : Int32)) (gi u (i + (1 : Int32)))))]))
          refine Goes.go (fun _ kk => XS.istore X0.here hx rfl (hb hby d2_140) rfl (l' := #[.val (.ref ua), .val (.int i), .val (.int n), .val (.int (gi u i)), .val (.int (2 : Int32)), .val (.int (cpF ((gi u i) &&& (31 : Int32)) (gi u (i + (1 : Int32))))), .val (.int (128 : Int32)), .val (.int (gi u (i + (1 : Int32)))), .unset]) rfl kk) ?_
          show Goes _ _ _ _ _ _ _ (s₁.setTop (mkF m 142 #[.val (.ref ua), .val (.int i), .val (.int n), .val (.int (gi u i)), .val (.int (2 : Int32)), .val (.int (cpF ((gi u i) &&& (31 : Int32)) (gi u (i + (1 : Int32))))), .val (.int (128 : Int32)), .val (.int (gi u (i + (1 : Int32)))), .unset] []))
          refine Goes.go (fun _ kk => XS.iload X0.here hx rfl (hb hby d2_142) rfl kk) ?_
          show Goes _ _ _ _ _ _ _ (s₁.setTop (mkF m 144 _ [(.int (2 : Int32))]))
          refine Goes.go (fun _ kk => XS.iconst X0.here hx rfl (hb hby d2_144) kk) ?_
          show Goes _ _ _ _ _ _ _ (s₁.setTop (mkF m 145 _ [(.int (3 : Int32)), (.int (2 : Int32))]))
          refine Goes.go (fun _ kk => XS.icmpYes X0.here hx rfl (pc0 := 145) (pc' := 182) rfl (hb hby d2_145) rfl (XT.ii_lt_t (by decide)) (by decide) (by decide) kk) ?_
          show Goes _ _ _ _ _ _ _ (s₁.setTop (mkF m 182 _ []))
          refine Goes.go (fun _ kk => XS.iload X0.here hx rfl (hb hby d2_182) rfl kk) ?_
          show Goes _ _ _ _ _ _ _ (s₁.setTop (mkF m 184 _ [(.int (2 : Int32))]))
          refine Goes.go (fun _ kk => XS.iconst X0.here hx rfl (hb hby d2_184) kk) ?_
          show Goes _ _ _ _ _ _ _ (s₁.setTop (mkF m 185 _ [(.int (4 : Int32)), (.int (2 : Int32))]))
          refine Goes.go (fun _ kk => XS.icmpYes X0.here hx rfl (pc0 := 185) (pc' := 222) rfl (hb hby d2_185) rfl (XT.ii_ne_t (by decide)) (by decide) (by decide) kk) ?_
          show Goes _ _ _ _ _ _ _ (s₁.setTop (mkF m 222 _ []))
          refine Goes.go (fun _ kk => XS.iload X0.here hx rfl (hb hby d2_222) rfl kk) ?_
          show Goes _ _ _ _ _ _ _ (s₁.setTop (mkF m 224 _ [(.int (cpF ((gi u i) &&& (31 : Int32)) (gi u (i + (1 : Int32)))))]))
          refine Goes.go (fun _ kk => XS.iload X0.here hx rfl (hb hby d2_224) rfl kk) ?_
          show Goes _ _ _ _ _ _ _ (s₁.setTop (mkF m 226 _ [(.int (128 : Int32)), (.int (cpF ((gi u i) &&& (31 : Int32)) (gi u (i + (1 : Int32)))))]))
          by_cases c226 : (cpF ((gi u i) &&& (31 : Int32)) (gi u (i + (1 : Int32)))) < (128 : Int32)
          · skip
            refine Goes.go (fun _ kk => XS.icmpNo X0.here hx rfl (hb hby d2_226) rfl (XT.ii_ge_f c226) kk) ?_
            show Goes _ _ _ _ _ _ _ (s₁.setTop (mkF m 229 _ []))
            refine Goes.go (fun _ kk => XS.iconst X0.here hx rfl (hb hby d2_229) kk) ?_
            show Goes _ _ _ _ _ _ _ (s₁.setTop (mkF m 230 _ [(.int (0 : Int32))]))
            exact Goes.outI X0 hx hlk hret (hb hby d2_230) e0 ⟨by simp only [seqF, sq2, sq3, sq4, fnF, if_neg c8, if_pos c21, if_neg c103, if_pos c124, if_pos c226], N0, rfl⟩ (by decide) (by decide)
          · skip
            refine Goes.go (fun _ kk => XS.icmpYes X0.here hx rfl (pc0 := 226) (pc' := 231) rfl (hb hby d2_226) rfl (XT.ii_ge_t c226) (by decide) (by decide) kk) ?_
            show Goes _ _ _ _ _ _ _ (s₁.setTop (mkF m 231 _ []))
            refine Goes.go (fun _ kk => XS.iload X0.here hx rfl (hb hby d2_231) rfl kk) ?_
            show Goes _ _ _ _ _ _ _ (s₁.setTop (mkF m 233 _ [(.int (cpF ((gi u i) &&& (31 : Int32)) (gi u (i + (1 : Int32)))))]))
            refine Goes.go (fun _ kk => X0.ldcI hx (v := (55296 : Int32)) hown (mvT hZ (hw _ (List.mem_of_getElem? (i := 15) rfl))) rfl (hb hby d2_233) kk) ?_
            show Goes _ _ _ _ _ _ _ (s₁.setTop (mkF m 235 _ [(.int (55296 : Int32)), (.int (cpF ((gi u i) &&& (31 : Int32)) (gi u (i + (1 : Int32)))))]))
            by_cases c235 : (cpF ((gi u i) &&& (31 : Int32)) (gi u (i + (1 : Int32)))) < (55296 : Int32)
            · skip
              refine Goes.go (fun _ kk => XS.icmpYes X0.here hx rfl (pc0 := 235) (pc' := 247) rfl (hb hby d2_235) rfl (XT.ii_lt_t c235) (by decide) (by decide) kk) ?_
              show Goes _ _ _ _ _ _ _ (s₁.setTop (mkF m 247 _ []))
              refine Goes.go (fun _ kk => XS.iload X0.here hx rfl (hb hby d2_247) rfl kk) ?_
              show Goes _ _ _ _ _ _ _ (s₁.setTop (mkF m 249 _ [(.int (cpF ((gi u i) &&& (31 : Int32)) (gi u (i + (1 : Int32)))))]))
              refine Goes.go (fun _ kk => X0.ldcI hx (v := (1114111 : Int32)) hown (mvT hZ (hw _ (List.mem_of_getElem? (i := 16) rfl))) rfl (hb hby d2_249) kk) ?_
              show Goes _ _ _ _ _ _ _ (s₁.setTop (mkF m 251 _ [(.int (1114111 : Int32)), (.int (cpF ((gi u i) &&& (31 : Int32)) (gi u (i + (1 : Int32)))))]))
              by_cases c251 : (1114111 : Int32) < (cpF ((gi u i) &&& (31 : Int32)) (gi u (i + (1 : Int32))))
              · skip
                refine Goes.go (fun _ kk => XS.icmpNo X0.here hx rfl (hb hby d2_251) rfl (XT.ii_le_f c251) kk) ?_
                show Goes _ _ _ _ _ _ _ (s₁.setTop (mkF m 254 _ []))
                refine Goes.go (fun _ kk => XS.iconst X0.here hx rfl (hb hby d2_254) kk) ?_
                show Goes _ _ _ _ _ _ _ (s₁.setTop (mkF m 255 _ [(.int (0 : Int32))]))
                exact Goes.outI X0 hx hlk hret (hb hby d2_255) e0 ⟨by simp only [seqF, sq2, sq3, sq4, fnF, if_neg c8, if_pos c21, if_neg c103, if_pos c124, if_neg c226, if_pos c235, if_pos c251], N0, rfl⟩ (by decide) (by decide)
              · skip
                refine Goes.go (fun _ kk => XS.icmpYes X0.here hx rfl (pc0 := 251) (pc' := 256) rfl (hb hby d2_251) rfl (XT.ii_le_t c251) (by decide) (by decide) kk) ?_
                show Goes _ _ _ _ _ _ _ (s₁.setTop (mkF m 256 _ []))
                refine Goes.go (fun _ kk => XS.iload X0.here hx rfl (hb hby d2_256) rfl kk) ?_
                show Goes _ _ _ _ _ _ _ (s₁.setTop (mkF m 258 _ [(.int (2 : Int32))]))
                exact Goes.outI X0 hx hlk hret (hb hby d2_258) e0 ⟨by simp only [seqF, sq2, sq3, sq4, fnF, if_neg c8, if_pos c21, if_neg c103, if_pos c124, if_neg c226, if_pos c235, if_neg c251], N0, rfl⟩ (by decide) (by decide)
            · skip
              refine Goes.go (fun _ kk => XS.icmpNo X0.here hx rfl (hb hby d2_235) rfl (XT.ii_lt_f c235) kk) ?_
              show Goes _ _ _ _ _ _ _ (s₁.setTop (mkF m 238 _ []))
              refine Goes.go (fun _ kk => XS.iload X0.here hx rfl (hb hby d2_238) rfl kk) ?_
              show Goes _ _ _ _ _ _ _ (s₁.setTop (mkF m 240 _ [(.int (cpF ((gi u i) &&& (31 : Int32)) (gi u (i + (1 : Int32)))))]))
              refine Goes.go (fun _ kk => X0.ldcI hx (v := (57343 : Int32)) hown (mvT hZ (hw _ (List.mem_of_getElem? (i := 17) rfl))) rfl (hb hby d2_240) kk) ?_
              show Goes _ _ _ _ _ _ _ (s₁.setTop (mkF m 242 _ [(.int (57343 : Int32)), (.int (cpF ((gi u i) &&& (31 : Int32)) (gi u (i + (1 : Int32)))))]))
              by_cases c242 : (57343 : Int32) < (cpF ((gi u i) &&& (31 : Int32)) (gi u (i + (1 : Int32))))
              · skip
                refine Goes.go (fun _ kk => XS.icmpYes X0.here hx rfl (pc0 := 242) (pc' := 247) rfl (hb hby d2_242) rfl (XT.ii_gt_t c242) (by decide) (by decide) kk) ?_
                show Goes _ _ _ _ _ _ _ (s₁.setTop (mkF m 247 _ []))
                refine Goes.go (fun _ kk => XS.iload X0.here hx rfl (hb hby d2_247) rfl kk) ?_
                show Goes _ _ _ _ _ _ _ (s₁.setTop (mkF m 249 _ [(.int (cpF ((gi u i) &&& (31 : Int32)) (gi u (i + (1 : Int32)))))]))
                refine Goes.go (fun _ kk => X0.ldcI hx (v := (1114111 : Int32)) hown (mvT hZ (hw _ (List.mem_of_getElem? (i := 16) rfl))) rfl (hb hby d2_249) kk) ?_
                show Goes _ _ _ _ _ _ _ (s₁.setTop (mkF m 251 _ [(.int (1114111 : Int32)), (.int (cpF ((gi u i) &&& (31 : Int32)) (gi u (i + (1 : Int32)))))]))
                by_cases c251 : (1114111 : Int32) < (cpF ((gi u i) &&& (31 : Int32)) (gi u (i + (1 : Int32))))
                · skip
                  refine Goes.go (fun _ kk => XS.icmpNo X0.here hx rfl (hb hby d2_251) rfl (XT.ii_le_f c251) kk) ?_
                  show Goes _ _ _ _ _ _ _ (s₁.setTop (mkF m 254 _ []))
                  refine Goes.go (fun _ kk => XS.iconst X0.here hx rfl (hb hby d2_254) kk) ?_
                  show Goes _ _ _ _ _ _ _ (s₁.setTop (mkF m 255 _ [(.int (0 : Int32))]))
                  exact Goes.outI X0 hx hlk hret (hb hby d2_255) e0 ⟨by simp only [seqF, sq2, sq3, sq4, fnF, if_neg c8, if_pos c21, if_neg c103, if_pos c124, if_neg c226, if_neg c235, if_pos c242, if_pos c251], N0, rfl⟩ (by decide) (by decide)
                · skip
                  refine Goes.go (fun _ kk => XS.icmpYes X0.here hx rfl (pc0 := 251) (pc' := 256) rfl (hb hby d2_251) rfl (XT.ii_le_t c251) (by decide) (by decide) kk) ?_
                  show Goes _ _ _ _ _ _ _ (s₁.setTop (mkF m 256 _ []))
                  refine Goes.go (fun _ kk => XS.iload X0.here hx rfl (hb hby d2_256) rfl kk) ?_
                  show Goes _ _ _ _ _ _ _ (s₁.setTop (mkF m 258 _ [(.int (2 : Int32))]))
                  exact Goes.outI X0 hx hlk hret (hb hby d2_258) e0 ⟨by simp only [seqF, sq2, sq3, sq4, fnF, if_neg c8, if_pos c21, if_neg c103, if_pos c124, if_neg c226, if_neg c235, if_pos c242, if_neg c251], N0, rfl⟩ (by decide) (by decide)
              · skip
                refine Goes.go (fun _ kk => XS.icmpNo X0.here hx rfl (hb hby d2_242) rfl (XT.ii_gt_f c242) kk) ?_
                show Goes _ _ _ _ _ _ _ (s₁.setTop (mkF m 245 _ []))
                refine Goes.go (fun _ kk => XS.iconst X0.here hx rfl (hb hby d2_245) kk) ?_
                show Goes _ _ _ _ _ _ _ (s₁.setTop (mkF m 246 _ [(.int (0 : Int32))]))
                exact Goes.outI X0 hx hlk hret (hb hby d2_246) e0 ⟨by simp only [seqF, sq2, sq3, sq4, fnF, if_neg c8, if_pos c21, if_neg c103, if_pos c124, if_neg c226, if_neg c235, if_neg c242], N0, rfl⟩ (by decide) (by decide)
        · skip
          refine Goes.go (fun _ kk => XS.icmpNo X0.here hx rfl (hb hby d2_124) rfl (XT.ii_eq_f c124) kk) ?_
          show Goes _ _ _ _ _ _ _ (s₁.setTop (mkF m 127 _ []))
          refine Goes.go (fun _ kk => XS.iconst X0.here hx rfl (hb hby d2_127) kk) ?_
          show Goes _ _ _ _ _ _ _ (s₁.setTop (mkF m 128 _ [(.int (0 : Int32))]))
          exact Goes.outI X0 hx hlk hret (hb hby d2_128) e0 ⟨by simp only [seqF, sq2, sq3, sq4, fnF, if_neg c8, if_pos c21, if_neg c103, if_neg c124], N0, rfl⟩ (by decide) (by decide)
    · skip
      refine Goes.go (fun _ kk => XS.icmpYes X0.here hx rfl (pc0 := 21) (pc' := 41) rfl (hb hby d2_21) rfl (XT.ii_ne_t c21) (by decide) (by decide) kk) ?_
      show Goes _ _ _ _ _ _ _ (s₁.setTop (mkF m 41 _ []))
      refine Goes.go (fun _ kk => XS.iloadN X0.here hx rfl (hb hby d2_41) rfl kk) ?_
      show Goes _ _ _ _ _ _ _ (s₁.setTop (mkF m 42 _ [(.int (gi u i))]))
      refine Goes.go (fun _ kk => XS.sipush X0.here hx rfl (hb hby d2_42) kk) ?_
      show Goes _ _ _ _ _ _ _ (s₁.setTop (mkF m 45 _ [(.int (240 : Int32)), (.int (gi u i))]))
      refine Goes.go (fun _ kk => XS.iand X0.here hx rfl (hb hby d2_45) rfl kk) ?_
      show Goes _ _ _ _ _ _ _ (s₁.setTop (mkF m 46 _ [(.int ((gi u i) &&& (240 : Int32)))]))
      refine Goes.go (fun _ kk => XS.sipush X0.here hx rfl (hb hby d2_46) kk) ?_
      show Goes _ _ _ _ _ _ _ (s₁.setTop (mkF m 49 _ [(.int (224 : Int32)), (.int ((gi u i) &&& (240 : Int32)))]))
      by_cases c49 : ((gi u i) &&& (240 : Int32)) = (224 : Int32)
      · skip
        refine Goes.go (fun _ kk => XS.icmpNo X0.here hx rfl (hb hby d2_49) rfl (XT.ii_ne_f c49) kk) ?_
        show Goes _ _ _ _ _ _ _ (s₁.setTop (mkF m 52 _ []))
        refine Goes.go (fun _ kk => XS.iconst X0.here hx rfl (hb hby d2_52) kk) ?_
        show Goes _ _ _ _ _ _ _ (s₁.setTop (mkF m 53 _ [(.int (3 : Int32))]))
        refine Goes.go (fun _ kk => XS.istore X0.here hx rfl (hb hby d2_53) rfl (l' := #[.val (.ref ua), .val (.int i), .val (.int n), .val (.int (gi u i)), .val (.int (3 : Int32)), .unset, .unset, .unset, .unset]) rfl kk) ?_
        show Goes _ _ _ _ _ _ _ (s₁.setTop (mkF m 55 #[.val (.ref ua), .val (.int i), .val (.int n), .val (.int (gi u i)), .val (.int (3 : Int32)), .unset, .unset, .unset, .unset] []))
        refine Goes.go (fun _ kk => XS.iloadN X0.here hx rfl (hb hby d2_55) rfl kk) ?_
        show Goes _ _ _ _ _ _ _ (s₁.setTop (mkF m 56 _ [(.int (gi u i))]))
        refine Goes.go (fun _ kk => XS.bipush X0.here hx rfl (hb hby d2_56) kk) ?_
        show Goes _ _ _ _ _ _ _ (s₁.setTop (mkF m 58 _ [(.int (15 : Int32)), (.int (gi u i))]))
        refine Goes.go (fun _ kk => XS.iand X0.here hx rfl (hb hby d2_58) rfl kk) ?_
        show Goes _ _ _ _ _ _ _ (s₁.setTop (mkF m 59 _ [(.int ((gi u i) &&& (15 : Int32)))]))
        refine Goes.go (fun _ kk => XS.istore X0.here hx rfl (hb hby d2_59) rfl (l' := #[.val (.ref ua), .val (.int i), .val (.int n), .val (.int (gi u i)), .val (.int (3 : Int32)), .val (.int ((gi u i) &&& (15 : Int32))), .unset, .unset, .unset]) rfl kk) ?_
        show Goes _ _ _ _ _ _ _ (s₁.setTop (mkF m 61 #[.val (.ref ua), .val (.int i), .val (.int n), .val (.int (gi u i)), .val (.int (3 : Int32)), .val (.int ((gi u i) &&& (15 : Int32))), .unset, .unset, .unset] []))
        refine Goes.go (fun _ kk => XS.sipush X0.here hx rfl (hb hby d2_61) kk) ?_
        show Goes _ _ _ _ _ _ _ (s₁.setTop (mkF m 64 _ [(.int (2048 : Int32))]))
        refine Goes.go (fun _ kk => XS.istore X0.here hx rfl (hb hby d2_64) rfl (l' := #[.val (.ref ua), .val (.int i), .val (.int n), .val (.int (gi u i)), .val (.int (3 : Int32)), .val (.int ((gi u i) &&& (15 : Int32))), .val (.int (2048 : Int32)), .unset, .unset]) rfl kk) ?_
        show Goes _ _ _ _ _ _ _ (s₁.setTop (mkF m 66 #[.val (.ref ua), .val (.int i), .val (.int n), .val (.int (gi u i)), .val (.int (3 : Int32)), .val (.int ((gi u i) &&& (15 : Int32))), .val (.int (2048 : Int32)), .unset, .unset] []))
        refine Goes.go (fun _ kk => XS.goto X0.here hx rfl (pc0 := 66) (pc' := 98) rfl (hb hby d2_66) (by decide) (by decide) kk) ?_
        show Goes _ _ _ _ _ _ _ (s₁.setTop (mkF m 98 _ []))
        refine Goes.go (fun _ kk => XS.iloadN X0.here hx rfl (hb hby d2_98) rfl kk) ?_
        show Goes _ _ _ _ _ _ _ (s₁.setTop (mkF m 99 _ [(.int i)]))
        refine Goes.go (fun _ kk => XS.iload X0.here hx rfl (hb hby d2_99) rfl kk) ?_
        show Goes _ _ _ _ _ _ _ (s₁.setTop (mkF m 101 _ [(.int (3 : Int32)), (.int i)]))
        refine Goes.go (fun _ kk => XS.iadd X0.here hx rfl (hb hby d2_101) rfl kk) ?_
        show Goes _ _ _ _ _ _ _ (s₁.setTop (mkF m 102 _ [(.int (i + (3 : Int32)))]))
        refine Goes.go (fun _ kk => XS.iloadN X0.here hx rfl (hb hby d2_102) rfl kk) ?_
        show Goes _ _ _ _ _ _ _ (s₁.setTop (mkF m 103 _ [(.int n), (.int (i + (3 : Int32)))]))
        by_cases c103 : n < (i + (3 : Int32))
        · skip
          refine Goes.go (fun _ kk => XS.icmpNo X0.here hx rfl (hb hby d2_103) rfl (XT.ii_le_f c103) kk) ?_
          show Goes _ _ _ _ _ _ _ (s₁.setTop (mkF m 106 _ []))
          refine Goes.go (fun _ kk => XS.iconst X0.here hx rfl (hb hby d2_106) kk) ?_
          show Goes _ _ _ _ _ _ _ (s₁.setTop (mkF m 107 _ [(.int (0 : Int32))]))
          exact Goes.outI X0 hx hlk hret (hb hby d2_107) e0 ⟨by simp only [seqF, sq2, sq3, sq4, fnF, if_neg c8, if_neg c21, if_pos c49, if_pos c103], N0, rfl⟩ (by decide) (by decide)
        · skip
          refine Goes.go (fun _ kk => XS.icmpYes X0.here hx rfl (pc0 := 103) (pc' := 108) rfl (hb hby d2_103) rfl (XT.ii_le_t c103) (by decide) (by decide) kk) ?_
          show Goes _ _ _ _ _ _ _ (s₁.setTop (mkF m 108 _ []))
          have a1 : (i + (1 : Int32)).toInt = i.toInt + 1 := own_ad (by decide) hi0 (by omega) (by decide) (by decide)
          have a2 : (i + (2 : Int32)).toInt = i.toInt + 2 := own_ad (by decide) hi0 (by omega) (by decide) (by decide)
          have a3 : (i + (3 : Int32)).toInt = i.toInt + 3 := own_ad (by decide) hi0 (by omega) (by decide) (by decide)
          have a0 : ¬ n.toInt < (i + (3 : Int32)).toInt := fun q => c103 (Int32.lt_iff_toInt_lt.mpr q)
          refine Goes.go (fun _ kk => XS.aloadN X0.here hx rfl (hb hby d2_108) rfl rfl kk) ?_
          show Goes _ _ _ _ _ _ _ (s₁.setTop (mkF m 109 _ [(.ref ua)]))
          refine Goes.go (fun _ kk => XS.iloadN X0.here hx rfl (hb hby d2_109) rfl kk) ?_
          show Goes _ _ _ _ _ _ _ (s₁.setTop (mkF m 110 _ [(.int i), (.ref ua)]))
          refine Goes.go (fun _ kk => XS.iconst X0.here hx rfl (hb hby d2_110) kk) ?_
          show Goes _ _ _ _ _ _ _ (s₁.setTop (mkF m 111 _ [(.int (1 : Int32)), (.int i), (.ref ua)]))
          refine Goes.go (fun _ kk => XS.iadd X0.here hx rfl (hb hby d2_111) rfl kk) ?_
          show Goes _ _ _ _ _ _ _ (s₁.setTop (mkF m 112 _ [(.int (i + (1 : Int32))), (.ref ua)]))
          refine Goes.go (own_ldI X0 hx hZ e0 A0 (j := (i + (1 : Int32))) (v := (.int (gi u (i + (1 : Int32))))) (gi_ok hl (by omega) (by omega)).1 (own_ati (gi_ok hl (by omega) (by omega)).2) rfl rfl (hb hby d2_112)) ?_
          show Goes _ _ _ _ _ _ _ (s₁.setTop (mkF m 113 _ [(.int (gi u (i + (1 : Int32))))]))
          refine Goes.go (fun _ kk => XS.istore X0.here hx rfl (hb hby d2_113) rfl (l' := #[.val (.ref ua), .val (.int i), .val (.int n), .val (.int (gi u i)), .val (.int (3 : Int32)), .val (.int ((gi u i) &&& (15 : Int32))), .val (.int (2048 : Int32)), .val (.int (gi u (i + (1 : Int32)))), .unset]) rfl kk) ?_
          show Goes _ _ _ _ _ _ _ (s₁.setTop (mkF m 115 #[.val (.ref ua), .val (.int i), .val (.int n), .val (.int (gi u i)), .val (.int (3 : Int32)), .val (.int ((gi u i) &&& (15 : Int32))), .val (.int (2048 : Int32)), .val (.int (gi u (i + (1 : Int32)))), .unset] []))
          refine Goes.go (fun _ kk => XS.iload X0.here hx rfl (hb hby d2_115) rfl kk) ?_
          show Goes _ _ _ _ _ _ _ (s₁.setTop (mkF m 117 _ [(.int (gi u (i + (1 : Int32))))]))
          refine Goes.go (fun _ kk => XS.sipush X0.here hx rfl (hb hby d2_117) kk) ?_
          show Goes _ _ _ _ _ _ _ (s₁.setTop (mkF m 120 _ [(.int (192 : Int32)), (.int (gi u (i + (1 : Int32))))]))
          refine Goes.go (fun _ kk => XS.iand X0.here hx rfl (hb hby d2_120) rfl kk) ?_
          show Goes _ _ _ _ _ _ _ (s₁.setTop (mkF m 121 _ [(.int ((gi u (i + (1 : Int32))) &&& (192 : Int32)))]))
          refine Goes.go (fun _ kk => XS.sipush X0.here hx rfl (hb hby d2_121) kk) ?_
          show Goes _ _ _ _ _ _ _ (s₁.setTop (mkF m 124 _ [(.int (128 : Int32)), (.int ((gi u (i + (1 : Int32))) &&& (192 : Int32)))]))
          by_cases c124 : ((gi u (i + (1 : Int32))) &&& (192 : Int32)) = (128 : Int32)
          · skip
            refine Goes.go (fun _ kk => XS.icmpYes X0.here hx rfl (pc0 := 124) (pc' := 129) rfl (hb hby d2_124) rfl (XT.ii_eq_t c124) (by decide) (by decide) kk) ?_
            show Goes _ _ _ _ _ _ _ (s₁.setTop (mkF m 129 _ []))
            refine Goes.go (fun _ kk => XS.iload X0.here hx rfl (hb hby d2_129) rfl kk) ?_
            show Goes _ _ _ _ _ _ _ (s₁.setTop (mkF m 131 _ [(.int ((gi u i) &&& (15 : Int32)))]))
            refine Goes.go (fun _ kk => XS.bipush X0.here hx rfl (hb hby d2_131) kk) ?_
            show Goes _ _ _ _ _ _ _ (s₁.setTop (mkF m 133 _ [(.int (6 : Int32)), (.int ((gi u i) &&& (15 : Int32)))]))
            refine Goes.go (fun _ kk => XS.ishl X0.here hx rfl (hb hby d2_133) rfl kk) ?_
            show Goes _ _ _ _ _ _ _ (s₁.setTop (mkF m 134 _ [(.int (((gi u i) &&& (15 : Int32)) <<< ((6 : Int32) &&& 31)))]))
            refine Goes.go (fun _ kk => XS.iload X0.here hx rfl (hb hby d2_134) rfl kk) ?_
            show Goes _ _ _ _ _ _ _ (s₁.setTop (mkF m 136 _ [(.int (gi u (i + (1 : Int32)))), (.int (((gi u i) &&& (15 : Int32)) <<< ((6 : Int32) &&& 31)))]))
            refine Goes.go (fun _ kk => XS.bipush X0.here hx rfl (hb hby d2_136) kk) ?_
            show Goes _ _ _ _ _ _ _ (s₁.setTop (mkF m 138 _ [(.int (63 : Int32)), (.int (gi u (i + (1 : Int32)))), (.int (((gi u i) &&& (15 : Int32)) <<< ((6 : Int32) &&& 31)))]))
            refine Goes.go (fun _ kk => XS.iand X0.here hx rfl (hb hby d2_138) rfl kk) ?_
            show Goes _ _ _ _ _ _ _ (s₁.setTop (mkF m 139 _ [(.int ((gi u (i + (1 : Int32))) &&& (63 : Int32))), (.int (((gi u i) &&& (15 : Int32)) <<< ((6 : Int32) &&& 31)))]))
            refine Goes.go (fun _ kk => XS.ior X0.here hx rfl (hb hby d2_139) rfl kk) ?_
            show Goes _ _ _ _ _ _ _ (s₁.setTop (mkF m 140 _ [(.int ((((gi u i) &&& (15 : Int32)) <<< ((6 : Int32) &&& 31)) ||| ((gi u (i + (1 : Int32))) &&& (63 : Int32))))]))
            show Goes _ _ _ _ _ _ _ (s₁.setTop (mkF m 140 _ [(.int (cpF ((gi u i) &&& (15 : Int32)) (gi u (i + (1 : Int32)))))]))
            refine Goes.go (fun _ kk => XS.istore X0.here hx rfl (hb hby d2_140) rfl (l' := #[.val (.ref ua), .val (.int i), .val (.int n), .val (.int (gi u i)), .val (.int (3 : Int32)), .val (.int (cpF ((gi u i) &&& (15 : Int32)) (gi u (i + (1 : Int32))))), .val (.int (2048 : Int32)), .val (.int (gi u (i + (1 : Int32)))), .unset]) rfl kk) ?_
            show Goes _ _ _ _ _ _ _ (s₁.setTop (mkF m 142 #[.val (.ref ua), .val (.int i), .val (.int n), .val (.int (gi u i)), .val (.int (3 : Int32)), .val (.int (cpF ((gi u i) &&& (15 : Int32)) (gi u (i + (1 : Int32))))), .val (.int (2048 : Int32)), .val (.int (gi u (i + (1 : Int32)))), .unset] []))
            refine Goes.go (fun _ kk => XS.iload X0.here hx rfl (hb hby d2_142) rfl kk) ?_
            show Goes _ _ _ _ _ _ _ (s₁.setTop (mkF m 144 _ [(.int (3 : Int32))]))
            refine Goes.go (fun _ kk => XS.iconst X0.here hx rfl (hb hby d2_144) kk) ?_
            show Goes _ _ _ _ _ _ _ (s₁.setTop (mkF m 145 _ [(.int (3 : Int32)), (.int (3 : Int32))]))
            refine Goes.go (fun _ kk => XS.icmpNo X0.here hx rfl (hb hby d2_145) rfl (XT.ii_lt_f (by decide)) kk) ?_
            show Goes _ _ _ _ _ _ _ (s₁.setTop (mkF m 148 _ []))
            refine Goes.go (fun _ kk => XS.aloadN X0.here hx rfl (hb hby d2_148) rfl rfl kk) ?_
            show Goes _ _ _ _ _ _ _ (s₁.setTop (mkF m 149 _ [(.ref ua)]))
            refine Goes.go (fun _ kk => XS.iloadN X0.here hx rfl (hb hby d2_149) rfl kk) ?_
            show Goes _ _ _ _ _ _ _ (s₁.setTop (mkF m 150 _ [(.int i), (.ref ua)]))
            refine Goes.go (fun _ kk => XS.iconst X0.here hx rfl (hb hby d2_150) kk) ?_
            show Goes _ _ _ _ _ _ _ (s₁.setTop (mkF m 151 _ [(.int (2 : Int32)), (.int i), (.ref ua)]))
            refine Goes.go (fun _ kk => XS.iadd X0.here hx rfl (hb hby d2_151) rfl kk) ?_
            show Goes _ _ _ _ _ _ _ (s₁.setTop (mkF m 152 _ [(.int (i + (2 : Int32))), (.ref ua)]))
            refine Goes.go (own_ldI X0 hx hZ e0 A0 (j := (i + (2 : Int32))) (v := (.int (gi u (i + (2 : Int32))))) (gi_ok hl (by omega) (by omega)).1 (own_ati (gi_ok hl (by omega) (by omega)).2) rfl rfl (hb hby d2_152)) ?_
            show Goes _ _ _ _ _ _ _ (s₁.setTop (mkF m 153 _ [(.int (gi u (i + (2 : Int32))))]))
            refine Goes.go (fun _ kk => XS.istore X0.here hx rfl (hb hby d2_153) rfl (l' := #[.val (.ref ua), .val (.int i), .val (.int n), .val (.int (gi u i)), .val (.int (3 : Int32)), .val (.int (cpF ((gi u i) &&& (15 : Int32)) (gi u (i + (1 : Int32))))), .val (.int (2048 : Int32)), .val (.int (gi u (i + (1 : Int32)))), .val (.int (gi u (i + (2 : Int32))))]) rfl kk) ?_
            show Goes _ _ _ _ _ _ _ (s₁.setTop (mkF m 155 #[.val (.ref ua), .val (.int i), .val (.int n), .val (.int (gi u i)), .val (.int (3 : Int32)), .val (.int (cpF ((gi u i) &&& (15 : Int32)) (gi u (i + (1 : Int32))))), .val (.int (2048 : Int32)), .val (.int (gi u (i + (1 : Int32)))), .val (.int (gi u (i + (2 : Int32))))] []))
            refine Goes.go (fun _ kk => XS.iload X0.here hx rfl (hb hby d2_155) rfl kk) ?_
            show Goes _ _ _ _ _ _ _ (s₁.setTop (mkF m 157 _ [(.int (gi u (i + (2 : Int32))))]))
            refine Goes.go (fun _ kk => XS.sipush X0.here hx rfl (hb hby d2_157) kk) ?_
            show Goes _ _ _ _ _ _ _ (s₁.setTop (mkF m 160 _ [(.int (192 : Int32)), (.int (gi u (i + (2 : Int32))))]))
            refine Goes.go (fun _ kk => XS.iand X0.here hx rfl (hb hby d2_160) rfl kk) ?_
            show Goes _ _ _ _ _ _ _ (s₁.setTop (mkF m 161 _ [(.int ((gi u (i + (2 : Int32))) &&& (192 : Int32)))]))
            refine Goes.go (fun _ kk => XS.sipush X0.here hx rfl (hb hby d2_161) kk) ?_
            show Goes _ _ _ _ _ _ _ (s₁.setTop (mkF m 164 _ [(.int (128 : Int32)), (.int ((gi u (i + (2 : Int32))) &&& (192 : Int32)))]))
            by_cases c164 : ((gi u (i + (2 : Int32))) &&& (192 : Int32)) = (128 : Int32)
            · skip
              refine Goes.go (fun _ kk => XS.icmpYes X0.here hx rfl (pc0 := 164) (pc' := 169) rfl (hb hby d2_164) rfl (XT.ii_eq_t c164) (by decide) (by decide) kk) ?_
              show Goes _ _ _ _ _ _ _ (s₁.setTop (mkF m 169 _ []))
              refine Goes.go (fun _ kk => XS.iload X0.here hx rfl (hb hby d2_169) rfl kk) ?_
              show Goes _ _ _ _ _ _ _ (s₁.setTop (mkF m 171 _ [(.int (cpF ((gi u i) &&& (15 : Int32)) (gi u (i + (1 : Int32)))))]))
              refine Goes.go (fun _ kk => XS.bipush X0.here hx rfl (hb hby d2_171) kk) ?_
              show Goes _ _ _ _ _ _ _ (s₁.setTop (mkF m 173 _ [(.int (6 : Int32)), (.int (cpF ((gi u i) &&& (15 : Int32)) (gi u (i + (1 : Int32)))))]))
              refine Goes.go (fun _ kk => XS.ishl X0.here hx rfl (hb hby d2_173) rfl kk) ?_
              show Goes _ _ _ _ _ _ _ (s₁.setTop (mkF m 174 _ [(.int ((cpF ((gi u i) &&& (15 : Int32)) (gi u (i + (1 : Int32)))) <<< ((6 : Int32) &&& 31)))]))
              refine Goes.go (fun _ kk => XS.iload X0.here hx rfl (hb hby d2_174) rfl kk) ?_
              show Goes _ _ _ _ _ _ _ (s₁.setTop (mkF m 176 _ [(.int (gi u (i + (2 : Int32)))), (.int ((cpF ((gi u i) &&& (15 : Int32)) (gi u (i + (1 : Int32)))) <<< ((6 : Int32) &&& 31)))]))
              refine Goes.go (fun _ kk => XS.bipush X0.here hx rfl (hb hby d2_176) kk) ?_
              show Goes _ _ _ _ _ _ _ (s₁.setTop (mkF m 178 _ [(.int (63 : Int32)), (.int (gi u (i + (2 : Int32)))), (.int ((cpF ((gi u i) &&& (15 : Int32)) (gi u (i + (1 : Int32)))) <<< ((6 : Int32) &&& 31)))]))
              refine Goes.go (fun _ kk => XS.iand X0.here hx rfl (hb hby d2_178) rfl kk) ?_
              show Goes _ _ _ _ _ _ _ (s₁.setTop (mkF m 179 _ [(.int ((gi u (i + (2 : Int32))) &&& (63 : Int32))), (.int ((cpF ((gi u i) &&& (15 : Int32)) (gi u (i + (1 : Int32)))) <<< ((6 : Int32) &&& 31)))]))
              refine Goes.go (fun _ kk => XS.ior X0.here hx rfl (hb hby d2_179) rfl kk) ?_
              show Goes _ _ _ _ _ _ _ (s₁.setTop (mkF m 180 _ [(.int (((cpF ((gi u i) &&& (15 : Int32)) (gi u (i + (1 : Int32)))) <<< ((6 : Int32) &&& 31)) ||| ((gi u (i + (2 : Int32))) &&& (63 : Int32))))]))
              show Goes _ _ _ _ _ _ _ (s₁.setTop (mkF m 180 _ [(.int (cpF (cpF ((gi u i) &&& (15 : Int32)) (gi u (i + (1 : Int32)))) (gi u (i + (2 : Int32)))))]))
              refine Goes.go (fun _ kk => XS.istore X0.here hx rfl (hb hby d2_180) rfl (l' := #[.val (.ref ua), .val (.int i), .val (.int n), .val (.int (gi u i)), .val (.int (3 : Int32)), .val (.int (cpF (cpF ((gi u i) &&& (15 : Int32)) (gi u (i + (1 : Int32)))) (gi u (i + (2 : Int32))))), .val (.int (2048 : Int32)), .val (.int (gi u (i + (1 : Int32)))), .val (.int (gi u (i + (2 : Int32))))]) rfl kk) ?_
              show Goes _ _ _ _ _ _ _ (s₁.setTop (mkF m 182 #[.val (.ref ua), .val (.int i), .val (.int n), .val (.int (gi u i)), .val (.int (3 : Int32)), .val (.int (cpF (cpF ((gi u i) &&& (15 : Int32)) (gi u (i + (1 : Int32)))) (gi u (i + (2 : Int32))))), .val (.int (2048 : Int32)), .val (.int (gi u (i + (1 : Int32)))), .val (.int (gi u (i + (2 : Int32))))] []))
              refine Goes.go (fun _ kk => XS.iload X0.here hx rfl (hb hby d2_182) rfl kk) ?_
              show Goes _ _ _ _ _ _ _ (s₁.setTop (mkF m 184 _ [(.int (3 : Int32))]))
              refine Goes.go (fun _ kk => XS.iconst X0.here hx rfl (hb hby d2_184) kk) ?_
              show Goes _ _ _ _ _ _ _ (s₁.setTop (mkF m 185 _ [(.int (4 : Int32)), (.int (3 : Int32))]))
              refine Goes.go (fun _ kk => XS.icmpYes X0.here hx rfl (pc0 := 185) (pc' := 222) rfl (hb hby d2_185) rfl (XT.ii_ne_t (by decide)) (by decide) (by decide) kk) ?_
              show Goes _ _ _ _ _ _ _ (s₁.setTop (mkF m 222 _ []))
              refine Goes.go (fun _ kk => XS.iload X0.here hx rfl (hb hby d2_222) rfl kk) ?_
              show Goes _ _ _ _ _ _ _ (s₁.setTop (mkF m 224 _ [(.int (cpF (cpF ((gi u i) &&& (15 : Int32)) (gi u (i + (1 : Int32)))) (gi u (i + (2 : Int32)))))]))
              refine Goes.go (fun _ kk => XS.iload X0.here hx rfl (hb hby d2_224) rfl kk) ?_
              show Goes _ _ _ _ _ _ _ (s₁.setTop (mkF m 226 _ [(.int (2048 : Int32)), (.int (cpF (cpF ((gi u i) &&& (15 : Int32)) (gi u (i + (1 : Int32)))) (gi u (i + (2 : Int32)))))]))
              by_cases c226 : (cpF (cpF ((gi u i) &&& (15 : Int32)) (gi u (i + (1 : Int32)))) (gi u (i + (2 : Int32)))) < (2048 : Int32)
              · skip
                refine Goes.go (fun _ kk => XS.icmpNo X0.here hx rfl (hb hby d2_226) rfl (XT.ii_ge_f c226) kk) ?_
                show Goes _ _ _ _ _ _ _ (s₁.setTop (mkF m 229 _ []))
                refine Goes.go (fun _ kk => XS.iconst X0.here hx rfl (hb hby d2_229) kk) ?_
                show Goes _ _ _ _ _ _ _ (s₁.setTop (mkF m 230 _ [(.int (0 : Int32))]))
                exact Goes.outI X0 hx hlk hret (hb hby d2_230) e0 ⟨by simp only [seqF, sq2, sq3, sq4, fnF, if_neg c8, if_neg c21, if_pos c49, if_neg c103, if_pos c124, if_pos c164, if_pos c226], N0, rfl⟩ (by decide) (by decide)
              · skip
                refine Goes.go (fun _ kk => XS.icmpYes X0.here hx rfl (pc0 := 226) (pc' := 231) rfl (hb hby d2_226) rfl (XT.ii_ge_t c226) (by decide) (by decide) kk) ?_
                show Goes _ _ _ _ _ _ _ (s₁.setTop (mkF m 231 _ []))
                refine Goes.go (fun _ kk => XS.iload X0.here hx rfl (hb hby d2_231) rfl kk) ?_
                show Goes _ _ _ _ _ _ _ (s₁.setTop (mkF m 233 _ [(.int (cpF (cpF ((gi u i) &&& (15 : Int32)) (gi u (i + (1 : Int32)))) (gi u (i + (2 : Int32)))))]))
                refine Goes.go (fun _ kk => X0.ldcI hx (v := (55296 : Int32)) hown (mvT hZ (hw _ (List.mem_of_getElem? (i := 15) rfl))) rfl (hb hby d2_233) kk) ?_
                show Goes _ _ _ _ _ _ _ (s₁.setTop (mkF m 235 _ [(.int (55296 : Int32)), (.int (cpF (cpF ((gi u i) &&& (15 : Int32)) (gi u (i + (1 : Int32)))) (gi u (i + (2 : Int32)))))]))
                by_cases c235 : (cpF (cpF ((gi u i) &&& (15 : Int32)) (gi u (i + (1 : Int32)))) (gi u (i + (2 : Int32)))) < (55296 : Int32)
                · skip
                  refine Goes.go (fun _ kk => XS.icmpYes X0.here hx rfl (pc0 := 235) (pc' := 247) rfl (hb hby d2_235) rfl (XT.ii_lt_t c235) (by decide) (by decide) kk) ?_
                  show Goes _ _ _ _ _ _ _ (s₁.setTop (mkF m 247 _ []))
                  refine Goes.go (fun _ kk => XS.iload X0.here hx rfl (hb hby d2_247) rfl kk) ?_
                  show Goes _ _ _ _ _ _ _ (s₁.setTop (mkF m 249 _ [(.int (cpF (cpF ((gi u i) &&& (15 : Int32)) (gi u (i + (1 : Int32)))) (gi u (i + (2 : Int32)))))]))
                  refine Goes.go (fun _ kk => X0.ldcI hx (v := (1114111 : Int32)) hown (mvT hZ (hw _ (List.mem_of_getElem? (i := 16) rfl))) rfl (hb hby d2_249) kk) ?_
                  show Goes _ _ _ _ _ _ _ (s₁.setTop (mkF m 251 _ [(.int (1114111 : Int32)), (.int (cpF (cpF ((gi u i) &&& (15 : Int32)) (gi u (i + (1 : Int32)))) (gi u (i + (2 : Int32)))))]))
                  by_cases c251 : (1114111 : Int32) < (cpF (cpF ((gi u i) &&& (15 : Int32)) (gi u (i + (1 : Int32)))) (gi u (i + (2 : Int32))))
                  · skip
                    refine Goes.go (fun _ kk => XS.icmpNo X0.here hx rfl (hb hby d2_251) rfl (XT.ii_le_f c251) kk) ?_
                    show Goes _ _ _ _ _ _ _ (s₁.setTop (mkF m 254 _ []))
                    refine Goes.go (fun _ kk => XS.iconst X0.here hx rfl (hb hby d2_254) kk) ?_
                    show Goes _ _ _ _ _ _ _ (s₁.setTop (mkF m 255 _ [(.int (0 : Int32))]))
                    exact Goes.outI X0 hx hlk hret (hb hby d2_255) e0 ⟨by simp only [seqF, sq2, sq3, sq4, fnF, if_neg c8, if_neg c21, if_pos c49, if_neg c103, if_pos c124, if_pos c164, if_neg c226, if_pos c235, if_pos c251], N0, rfl⟩ (by decide) (by decide)
                  · skip
                    refine Goes.go (fun _ kk => XS.icmpYes X0.here hx rfl (pc0 := 251) (pc' := 256) rfl (hb hby d2_251) rfl (XT.ii_le_t c251) (by decide) (by decide) kk) ?_
                    show Goes _ _ _ _ _ _ _ (s₁.setTop (mkF m 256 _ []))
                    refine Goes.go (fun _ kk => XS.iload X0.here hx rfl (hb hby d2_256) rfl kk) ?_
                    show Goes _ _ _ _ _ _ _ (s₁.setTop (mkF m 258 _ [(.int (3 : Int32))]))
                    exact Goes.outI X0 hx hlk hret (hb hby d2_258) e0 ⟨by simp only [seqF, sq2, sq3, sq4, fnF, if_neg c8, if_neg c21, if_pos c49, if_neg c103, if_pos c124, if_pos c164, if_neg c226, if_pos c235, if_neg c251], N0, rfl⟩ (by decide) (by decide)
                · skip
                  refine Goes.go (fun _ kk => XS.icmpNo X0.here hx rfl (hb hby d2_235) rfl (XT.ii_lt_f c235) kk) ?_
                  show Goes _ _ _ _ _ _ _ (s₁.setTop (mkF m 238 _ []))
                  refine Goes.go (fun _ kk => XS.iload X0.here hx rfl (hb hby d2_238) rfl kk) ?_
                  show Goes _ _ _ _ _ _ _ (s₁.setTop (mkF m 240 _ [(.int (cpF (cpF ((gi u i) &&& (15 : Int32)) (gi u (i + (1 : Int32)))) (gi u (i + (2 : Int32)))))]))
                  refine Goes.go (fun _ kk => X0.ldcI hx (v := (57343 : Int32)) hown (mvT hZ (hw _ (List.mem_of_getElem? (i := 17) rfl))) rfl (hb hby d2_240) kk) ?_
                  show Goes _ _ _ _ _ _ _ (s₁.setTop (mkF m 242 _ [(.int (57343 : Int32)), (.int (cpF (cpF ((gi u i) &&& (15 : Int32)) (gi u (i + (1 : Int32)))) (gi u (i + (2 : Int32)))))]))
                  by_cases c242 : (57343 : Int32) < (cpF (cpF ((gi u i) &&& (15 : Int32)) (gi u (i + (1 : Int32)))) (gi u (i + (2 : Int32))))
                  · skip
                    refine Goes.go (fun _ kk => XS.icmpYes X0.here hx rfl (pc0 := 242) (pc' := 247) rfl (hb hby d2_242) rfl (XT.ii_gt_t c242) (by decide) (by decide) kk) ?_
                    show Goes _ _ _ _ _ _ _ (s₁.setTop (mkF m 247 _ []))
                    refine Goes.go (fun _ kk => XS.iload X0.here hx rfl (hb hby d2_247) rfl kk) ?_
                    show Goes _ _ _ _ _ _ _ (s₁.setTop (mkF m 249 _ [(.int (cpF (cpF ((gi u i) &&& (15 : Int32)) (gi u (i + (1 : Int32)))) (gi u (i + (2 : Int32)))))]))
                    refine Goes.go (fun _ kk => X0.ldcI hx (v := (1114111 : Int32)) hown (mvT hZ (hw _ (List.mem_of_getElem? (i := 16) rfl))) rfl (hb hby d2_249) kk) ?_
                    show Goes _ _ _ _ _ _ _ (s₁.setTop (mkF m 251 _ [(.int (1114111 : Int32)), (.int (cpF (cpF ((gi u i) &&& (15 : Int32)) (gi u (i + (1 : Int32)))) (gi u (i + (2 : Int32)))))]))
                    by_cases c251 : (1114111 : Int32) < (cpF (cpF ((gi u i) &&& (15 : Int32)) (gi u (i + (1 : Int32)))) (gi u (i + (2 : Int32))))
                    · skip
                      refine Goes.go (fun _ kk => XS.icmpNo X0.here hx rfl (hb hby d2_251) rfl (XT.ii_le_f c251) kk) ?_
                      show Goes _ _ _ _ _ _ _ (s₁.setTop (mkF m 254 _ []))
                      refine Goes.go (fun _ kk => XS.iconst X0.here hx rfl (hb hby d2_254) kk) ?_
                      show Goes _ _ _ _ _ _ _ (s₁.setTop (mkF m 255 _ [(.int (0 : Int32))]))
                      exact Goes.outI X0 hx hlk hret (hb hby d2_255) e0 ⟨by simp only [seqF, sq2, sq3, sq4, fnF, if_neg c8, if_neg c21, if_pos c49, if_neg c103, if_pos c124, if_pos c164, if_neg c226, if_neg c235, if_pos c242, if_pos c251], N0, rfl⟩ (by decide) (by decide)
                    · skip
                      refine Goes.go (fun _ kk => XS.icmpYes X0.here hx rfl (pc0 := 251) (pc' := 256) rfl (hb hby d2_251) rfl (XT.ii_le_t c251) (by decide) (by decide) kk) ?_
                      show Goes _ _ _ _ _ _ _ (s₁.setTop (mkF m 256 _ []))
                      refine Goes.go (fun _ kk => XS.iload X0.here hx rfl (hb hby d2_256) rfl kk) ?_
                      show Goes _ _ _ _ _ _ _ (s₁.setTop (mkF m 258 _ [(.int (3 : Int32))]))
                      exact Goes.outI X0 hx hlk hret (hb hby d2_258) e0 ⟨by simp only [seqF, sq2, sq3, sq4, fnF, if_neg c8, if_neg c21, if_pos c49, if_neg c103, if_pos c124, if_pos c164, if_neg c226, if_neg c235, if_pos c242, if_neg c251], N0, rfl⟩ (by decide) (by decide)
                  · skip
                    refine Goes.go (fun _ kk => XS.icmpNo X0.here hx rfl (hb hby d2_242) rfl (XT.ii_gt_f c242) kk) ?_
                    show Goes _ _ _ _ _ _ _ (s₁.setTop (mkF m 245 _ []))
                    refine Goes.go (fun _ kk => XS.iconst X0.here hx rfl (hb hby d2_245) kk) ?_
                    show Goes _ _ _ _ _ _ _ (s₁.setTop (mkF m 246 _ [(.int (0 : Int32))]))
                    exact Goes.outI X0 hx hlk hret (hb hby d2_246) e0 ⟨by simp only [seqF, sq2, sq3, sq4, fnF, if_neg c8, if_neg c21, if_pos c49, if_neg c103, if_pos c124, if_pos c164, if_neg c226, if_neg c235, if_neg c242], N0, rfl⟩ (by decide) (by decide)
            · skip
              refine Goes.go (fun _ kk => XS.icmpNo X0.here hx rfl (hb hby d2_164) rfl (XT.ii_eq_f c164) kk) ?_
              show Goes _ _ _ _ _ _ _ (s₁.setTop (mkF m 167 _ []))
              refine Goes.go (fun _ kk => XS.iconst X0.here hx rfl (hb hby d2_167) kk) ?_
              show Goes _ _ _ _ _ _ _ (s₁.setTop (mkF m 168 _ [(.int (0 : Int32))]))
              exact Goes.outI X0 hx hlk hret (hb hby d2_168) e0 ⟨by simp only [seqF, sq2, sq3, sq4, fnF, if_neg c8, if_neg c21, if_pos c49, if_neg c103, if_pos c124, if_neg c164], N0, rfl⟩ (by decide) (by decide)
          · skip
            refine Goes.go (fun _ kk => XS.icmpNo X0.here hx rfl (hb hby d2_124) rfl (XT.ii_eq_f c124) kk) ?_
            show Goes _ _ _ _ _ _ _ (s₁.setTop (mkF m 127 _ []))
            refine Goes.go (fun _ kk => XS.iconst X0.here hx rfl (hb hby d2_127) kk) ?_
            show Goes _ _ _ _ _ _ _ (s₁.setTop (mkF m 128 _ [(.int (0 : Int32))]))
            exact Goes.outI X0 hx hlk hret (hb hby d2_128) e0 ⟨by simp only [seqF, sq2, sq3, sq4, fnF, if_neg c8, if_neg c21, if_pos c49, if_neg c103, if_neg c124], N0, rfl⟩ (by decide) (by decide)
      · skip
        refine Goes.go (fun _ kk => XS.icmpYes X0.here hx rfl (pc0 := 49) (pc' := 69) rfl (hb hby d2_49) rfl (XT.ii_ne_t c49) (by decide) (by decide) kk) ?_
        show Goes _ _ _ _ _ _ _ (s₁.setTop (mkF m 69 _ []))
        refine Goes.go (fun _ kk => XS.iloadN X0.here hx rfl (hb hby d2_69) rfl kk) ?_
        show Goes _ _ _ _ _ _ _ (s₁.setTop (mkF m 70 _ [(.int (gi u i))]))
        refine Goes.go (fun _ kk => XS.sipush X0.here hx rfl (hb hby d2_70) kk) ?_
        show Goes _ _ _ _ _ _ _ (s₁.setTop (mkF m 73 _ [(.int (248 : Int32)), (.int (gi u i))]))
        refine Goes.go (fun _ kk => XS.iand X0.here hx rfl (hb hby d2_73) rfl kk) ?_
        show Goes _ _ _ _ _ _ _ (s₁.setTop (mkF m 74 _ [(.int ((gi u i) &&& (248 : Int32)))]))
        refine Goes.go (fun _ kk => XS.sipush X0.here hx rfl (hb hby d2_74) kk) ?_
        show Goes _ _ _ _ _ _ _ (s₁.setTop (mkF m 77 _ [(.int (240 : Int32)), (.int ((gi u i) &&& (248 : Int32)))]))
        by_cases c77 : ((gi u i) &&& (248 : Int32)) = (240 : Int32)
        · skip
          refine Goes.go (fun _ kk => XS.icmpNo X0.here hx rfl (hb hby d2_77) rfl (XT.ii_ne_f c77) kk) ?_
          show Goes _ _ _ _ _ _ _ (s₁.setTop (mkF m 80 _ []))
          refine Goes.go (fun _ kk => XS.iconst X0.here hx rfl (hb hby d2_80) kk) ?_
          show Goes _ _ _ _ _ _ _ (s₁.setTop (mkF m 81 _ [(.int (4 : Int32))]))
          refine Goes.go (fun _ kk => XS.istore X0.here hx rfl (hb hby d2_81) rfl (l' := #[.val (.ref ua), .val (.int i), .val (.int n), .val (.int (gi u i)), .val (.int (4 : Int32)), .unset, .unset, .unset, .unset]) rfl kk) ?_
          show Goes _ _ _ _ _ _ _ (s₁.setTop (mkF m 83 #[.val (.ref ua), .val (.int i), .val (.int n), .val (.int (gi u i)), .val (.int (4 : Int32)), .unset, .unset, .unset, .unset] []))
          refine Goes.go (fun _ kk => XS.iloadN X0.here hx rfl (hb hby d2_83) rfl kk) ?_
          show Goes _ _ _ _ _ _ _ (s₁.setTop (mkF m 84 _ [(.int (gi u i))]))
          refine Goes.go (fun _ kk => XS.bipush X0.here hx rfl (hb hby d2_84) kk) ?_
          show Goes _ _ _ _ _ _ _ (s₁.setTop (mkF m 86 _ [(.int (7 : Int32)), (.int (gi u i))]))
          refine Goes.go (fun _ kk => XS.iand X0.here hx rfl (hb hby d2_86) rfl kk) ?_
          show Goes _ _ _ _ _ _ _ (s₁.setTop (mkF m 87 _ [(.int ((gi u i) &&& (7 : Int32)))]))
          refine Goes.go (fun _ kk => XS.istore X0.here hx rfl (hb hby d2_87) rfl (l' := #[.val (.ref ua), .val (.int i), .val (.int n), .val (.int (gi u i)), .val (.int (4 : Int32)), .val (.int ((gi u i) &&& (7 : Int32))), .unset, .unset, .unset]) rfl kk) ?_
          show Goes _ _ _ _ _ _ _ (s₁.setTop (mkF m 89 #[.val (.ref ua), .val (.int i), .val (.int n), .val (.int (gi u i)), .val (.int (4 : Int32)), .val (.int ((gi u i) &&& (7 : Int32))), .unset, .unset, .unset] []))
          refine Goes.go (fun _ kk => X0.ldcI hx (v := (65536 : Int32)) hown (mvT hZ (hw _ (List.mem_of_getElem? (i := 14) rfl))) rfl (hb hby d2_89) kk) ?_
          show Goes _ _ _ _ _ _ _ (s₁.setTop (mkF m 91 _ [(.int (65536 : Int32))]))
          refine Goes.go (fun _ kk => XS.istore X0.here hx rfl (hb hby d2_91) rfl (l' := #[.val (.ref ua), .val (.int i), .val (.int n), .val (.int (gi u i)), .val (.int (4 : Int32)), .val (.int ((gi u i) &&& (7 : Int32))), .val (.int (65536 : Int32)), .unset, .unset]) rfl kk) ?_
          show Goes _ _ _ _ _ _ _ (s₁.setTop (mkF m 93 #[.val (.ref ua), .val (.int i), .val (.int n), .val (.int (gi u i)), .val (.int (4 : Int32)), .val (.int ((gi u i) &&& (7 : Int32))), .val (.int (65536 : Int32)), .unset, .unset] []))
          refine Goes.go (fun _ kk => XS.goto X0.here hx rfl (pc0 := 93) (pc' := 98) rfl (hb hby d2_93) (by decide) (by decide) kk) ?_
          show Goes _ _ _ _ _ _ _ (s₁.setTop (mkF m 98 _ []))
          refine Goes.go (fun _ kk => XS.iloadN X0.here hx rfl (hb hby d2_98) rfl kk) ?_
          show Goes _ _ _ _ _ _ _ (s₁.setTop (mkF m 99 _ [(.int i)]))
          refine Goes.go (fun _ kk => XS.iload X0.here hx rfl (hb hby d2_99) rfl kk) ?_
          show Goes _ _ _ _ _ _ _ (s₁.setTop (mkF m 101 _ [(.int (4 : Int32)), (.int i)]))
          refine Goes.go (fun _ kk => XS.iadd X0.here hx rfl (hb hby d2_101) rfl kk) ?_
          show Goes _ _ _ _ _ _ _ (s₁.setTop (mkF m 102 _ [(.int (i + (4 : Int32)))]))
          refine Goes.go (fun _ kk => XS.iloadN X0.here hx rfl (hb hby d2_102) rfl kk) ?_
          show Goes _ _ _ _ _ _ _ (s₁.setTop (mkF m 103 _ [(.int n), (.int (i + (4 : Int32)))]))
          by_cases c103 : n < (i + (4 : Int32))
          · skip
            refine Goes.go (fun _ kk => XS.icmpNo X0.here hx rfl (hb hby d2_103) rfl (XT.ii_le_f c103) kk) ?_
            show Goes _ _ _ _ _ _ _ (s₁.setTop (mkF m 106 _ []))
            refine Goes.go (fun _ kk => XS.iconst X0.here hx rfl (hb hby d2_106) kk) ?_
            show Goes _ _ _ _ _ _ _ (s₁.setTop (mkF m 107 _ [(.int (0 : Int32))]))
            exact Goes.outI X0 hx hlk hret (hb hby d2_107) e0 ⟨by simp only [seqF, sq2, sq3, sq4, fnF, if_neg c8, if_neg c21, if_neg c49, if_pos c77, if_pos c103], N0, rfl⟩ (by decide) (by decide)
          · skip
            refine Goes.go (fun _ kk => XS.icmpYes X0.here hx rfl (pc0 := 103) (pc' := 108) rfl (hb hby d2_103) rfl (XT.ii_le_t c103) (by decide) (by decide) kk) ?_
            show Goes _ _ _ _ _ _ _ (s₁.setTop (mkF m 108 _ []))
            have a1 : (i + (1 : Int32)).toInt = i.toInt + 1 := own_ad (by decide) hi0 (by omega) (by decide) (by decide)
            have a2 : (i + (2 : Int32)).toInt = i.toInt + 2 := own_ad (by decide) hi0 (by omega) (by decide) (by decide)
            have a3 : (i + (3 : Int32)).toInt = i.toInt + 3 := own_ad (by decide) hi0 (by omega) (by decide) (by decide)
            have a4 : (i + (4 : Int32)).toInt = i.toInt + 4 := own_ad (by decide) hi0 (by omega) (by decide) (by decide)
            have a0 : ¬ n.toInt < (i + (4 : Int32)).toInt := fun q => c103 (Int32.lt_iff_toInt_lt.mpr q)
            refine Goes.go (fun _ kk => XS.aloadN X0.here hx rfl (hb hby d2_108) rfl rfl kk) ?_
            show Goes _ _ _ _ _ _ _ (s₁.setTop (mkF m 109 _ [(.ref ua)]))
            refine Goes.go (fun _ kk => XS.iloadN X0.here hx rfl (hb hby d2_109) rfl kk) ?_
            show Goes _ _ _ _ _ _ _ (s₁.setTop (mkF m 110 _ [(.int i), (.ref ua)]))
            refine Goes.go (fun _ kk => XS.iconst X0.here hx rfl (hb hby d2_110) kk) ?_
            show Goes _ _ _ _ _ _ _ (s₁.setTop (mkF m 111 _ [(.int (1 : Int32)), (.int i), (.ref ua)]))
            refine Goes.go (fun _ kk => XS.iadd X0.here hx rfl (hb hby d2_111) rfl kk) ?_
            show Goes _ _ _ _ _ _ _ (s₁.setTop (mkF m 112 _ [(.int (i + (1 : Int32))), (.ref ua)]))
            refine Goes.go (own_ldI X0 hx hZ e0 A0 (j := (i + (1 : Int32))) (v := (.int (gi u (i + (1 : Int32))))) (gi_ok hl (by omega) (by omega)).1 (own_ati (gi_ok hl (by omega) (by omega)).2) rfl rfl (hb hby d2_112)) ?_
            show Goes _ _ _ _ _ _ _ (s₁.setTop (mkF m 113 _ [(.int (gi u (i + (1 : Int32))))]))
            refine Goes.go (fun _ kk => XS.istore X0.here hx rfl (hb hby d2_113) rfl (l' := #[.val (.ref ua), .val (.int i), .val (.int n), .val (.int (gi u i)), .val (.int (4 : Int32)), .val (.int ((gi u i) &&& (7 : Int32))), .val (.int (65536 : Int32)), .val (.int (gi u (i + (1 : Int32)))), .unset]) rfl kk) ?_
            show Goes _ _ _ _ _ _ _ (s₁.setTop (mkF m 115 #[.val (.ref ua), .val (.int i), .val (.int n), .val (.int (gi u i)), .val (.int (4 : Int32)), .val (.int ((gi u i) &&& (7 : Int32))), .val (.int (65536 : Int32)), .val (.int (gi u (i + (1 : Int32)))), .unset] []))
            refine Goes.go (fun _ kk => XS.iload X0.here hx rfl (hb hby d2_115) rfl kk) ?_
            show Goes _ _ _ _ _ _ _ (s₁.setTop (mkF m 117 _ [(.int (gi u (i + (1 : Int32))))]))
            refine Goes.go (fun _ kk => XS.sipush X0.here hx rfl (hb hby d2_117) kk) ?_
            show Goes _ _ _ _ _ _ _ (s₁.setTop (mkF m 120 _ [(.int (192 : Int32)), (.int (gi u (i + (1 : Int32))))]))
            refine Goes.go (fun _ kk => XS.iand X0.here hx rfl (hb hby d2_120) rfl kk) ?_
            show Goes _ _ _ _ _ _ _ (s₁.setTop (mkF m 121 _ [(.int ((gi u (i + (1 : Int32))) &&& (192 : Int32)))]))
            refine Goes.go (fun _ kk => XS.sipush X0.here hx rfl (hb hby d2_121) kk) ?_
            show Goes _ _ _ _ _ _ _ (s₁.setTop (mkF m 124 _ [(.int (128 : Int32)), (.int ((gi u (i + (1 : Int32))) &&& (192 : Int32)))]))
            by_cases c124 : ((gi u (i + (1 : Int32))) &&& (192 : Int32)) = (128 : Int32)
            · skip
              refine Goes.go (fun _ kk => XS.icmpYes X0.here hx rfl (pc0 := 124) (pc' := 129) rfl (hb hby d2_124) rfl (XT.ii_eq_t c124) (by decide) (by decide) kk) ?_
              show Goes _ _ _ _ _ _ _ (s₁.setTop (mkF m 129 _ []))
              refine Goes.go (fun _ kk => XS.iload X0.here hx rfl (hb hby d2_129) rfl kk) ?_
              show Goes _ _ _ _ _ _ _ (s₁.setTop (mkF m 131 _ [(.int ((gi u i) &&& (7 : Int32)))]))
              refine Goes.go (fun _ kk => XS.bipush X0.here hx rfl (hb hby d2_131) kk) ?_
              show Goes _ _ _ _ _ _ _ (s₁.setTop (mkF m 133 _ [(.int (6 : Int32)), (.int ((gi u i) &&& (7 : Int32)))]))
              refine Goes.go (fun _ kk => XS.ishl X0.here hx rfl (hb hby d2_133) rfl kk) ?_
              show Goes _ _ _ _ _ _ _ (s₁.setTop (mkF m 134 _ [(.int (((gi u i) &&& (7 : Int32)) <<< ((6 : Int32) &&& 31)))]))
              refine Goes.go (fun _ kk => XS.iload X0.here hx rfl (hb hby d2_134) rfl kk) ?_
              show Goes _ _ _ _ _ _ _ (s₁.setTop (mkF m 136 _ [(.int (gi u (i + (1 : Int32)))), (.int (((gi u i) &&& (7 : Int32)) <<< ((6 : Int32) &&& 31)))]))
              refine Goes.go (fun _ kk => XS.bipush X0.here hx rfl (hb hby d2_136) kk) ?_
              show Goes _ _ _ _ _ _ _ (s₁.setTop (mkF m 138 _ [(.int (63 : Int32)), (.int (gi u (i + (1 : Int32)))), (.int (((gi u i) &&& (7 : Int32)) <<< ((6 : Int32) &&& 31)))]))
              refine Goes.go (fun _ kk => XS.iand X0.here hx rfl (hb hby d2_138) rfl kk) ?_
              show Goes _ _ _ _ _ _ _ (s₁.setTop (mkF m 139 _ [(.int ((gi u (i + (1 : Int32))) &&& (63 : Int32))), (.int (((gi u i) &&& (7 : Int32)) <<< ((6 : Int32) &&& 31)))]))
              refine Goes.go (fun _ kk => XS.ior X0.here hx rfl (hb hby d2_139) rfl kk) ?_
              show Goes _ _ _ _ _ _ _ (s₁.setTop (mkF m 140 _ [(.int ((((gi u i) &&& (7 : Int32)) <<< ((6 : Int32) &&& 31)) ||| ((gi u (i + (1 : Int32))) &&& (63 : Int32))))]))
              show Goes _ _ _ _ _ _ _ (s₁.setTop (mkF m 140 _ [(.int (cpF ((gi u i) &&& (7 : Int32)) (gi u (i + (1 : Int32)))))]))
              refine Goes.go (fun _ kk => XS.istore X0.here hx rfl (hb hby d2_140) rfl (l' := #[.val (.ref ua), .val (.int i), .val (.int n), .val (.int (gi u i)), .val (.int (4 : Int32)), .val (.int (cpF ((gi u i) &&& (7 : Int32)) (gi u (i + (1 : Int32))))), .val (.int (65536 : Int32)), .val (.int (gi u (i + (1 : Int32)))), .unset]) rfl kk) ?_
              show Goes _ _ _ _ _ _ _ (s₁.setTop (mkF m 142 #[.val (.ref ua), .val (.int i), .val (.int n), .val (.int (gi u i)), .val (.int (4 : Int32)), .val (.int (cpF ((gi u i) &&& (7 : Int32)) (gi u (i + (1 : Int32))))), .val (.int (65536 : Int32)), .val (.int (gi u (i + (1 : Int32)))), .unset] []))
              refine Goes.go (fun _ kk => XS.iload X0.here hx rfl (hb hby d2_142) rfl kk) ?_
              show Goes _ _ _ _ _ _ _ (s₁.setTop (mkF m 144 _ [(.int (4 : Int32))]))
              refine Goes.go (fun _ kk => XS.iconst X0.here hx rfl (hb hby d2_144) kk) ?_
              show Goes _ _ _ _ _ _ _ (s₁.setTop (mkF m 145 _ [(.int (3 : Int32)), (.int (4 : Int32))]))
              refine Goes.go (fun _ kk => XS.icmpNo X0.here hx rfl (hb hby d2_145) rfl (XT.ii_lt_f (by decide)) kk) ?_
              show Goes _ _ _ _ _ _ _ (s₁.setTop (mkF m 148 _ []))
              refine Goes.go (fun _ kk => XS.aloadN X0.here hx rfl (hb hby d2_148) rfl rfl kk) ?_
              show Goes _ _ _ _ _ _ _ (s₁.setTop (mkF m 149 _ [(.ref ua)]))
              refine Goes.go (fun _ kk => XS.iloadN X0.here hx rfl (hb hby d2_149) rfl kk) ?_
              show Goes _ _ _ _ _ _ _ (s₁.setTop (mkF m 150 _ [(.int i), (.ref ua)]))
              refine Goes.go (fun _ kk => XS.iconst X0.here hx rfl (hb hby d2_150) kk) ?_
              show Goes _ _ _ _ _ _ _ (s₁.setTop (mkF m 151 _ [(.int (2 : Int32)), (.int i), (.ref ua)]))
              refine Goes.go (fun _ kk => XS.iadd X0.here hx rfl (hb hby d2_151) rfl kk) ?_
              show Goes _ _ _ _ _ _ _ (s₁.setTop (mkF m 152 _ [(.int (i + (2 : Int32))), (.ref ua)]))
              refine Goes.go (own_ldI X0 hx hZ e0 A0 (j := (i + (2 : Int32))) (v := (.int (gi u (i + (2 : Int32))))) (gi_ok hl (by omega) (by omega)).1 (own_ati (gi_ok hl (by omega) (by omega)).2) rfl rfl (hb hby d2_152)) ?_
              show Goes _ _ _ _ _ _ _ (s₁.setTop (mkF m 153 _ [(.int (gi u (i + (2 : Int32))))]))
              refine Goes.go (fun _ kk => XS.istore X0.here hx rfl (hb hby d2_153) rfl (l' := #[.val (.ref ua), .val (.int i), .val (.int n), .val (.int (gi u i)), .val (.int (4 : Int32)), .val (.int (cpF ((gi u i) &&& (7 : Int32)) (gi u (i + (1 : Int32))))), .val (.int (65536 : Int32)), .val (.int (gi u (i + (1 : Int32)))), .val (.int (gi u (i + (2 : Int32))))]) rfl kk) ?_
              show Goes _ _ _ _ _ _ _ (s₁.setTop (mkF m 155 #[.val (.ref ua), .val (.int i), .val (.int n), .val (.int (gi u i)), .val (.int (4 : Int32)), .val (.int (cpF ((gi u i) &&& (7 : Int32)) (gi u (i + (1 : Int32))))), .val (.int (65536 : Int32)), .val (.int (gi u (i + (1 : Int32)))), .val (.int (gi u (i + (2 : Int32))))] []))
              refine Goes.go (fun _ kk => XS.iload X0.here hx rfl (hb hby d2_155) rfl kk) ?_
              show Goes _ _ _ _ _ _ _ (s₁.setTop (mkF m 157 _ [(.int (gi u (i + (2 : Int32))))]))
              refine Goes.go (fun _ kk => XS.sipush X0.here hx rfl (hb hby d2_157) kk) ?_
              show Goes _ _ _ _ _ _ _ (s₁.setTop (mkF m 160 _ [(.int (192 : Int32)), (.int (gi u (i + (2 : Int32))))]))
              refine Goes.go (fun _ kk => XS.iand X0.here hx rfl (hb hby d2_160) rfl kk) ?_
              show Goes _ _ _ _ _ _ _ (s₁.setTop (mkF m 161 _ [(.int ((gi u (i + (2 : Int32))) &&& (192 : Int32)))]))
              refine Goes.go (fun _ kk => XS.sipush X0.here hx rfl (hb hby d2_161) kk) ?_
              show Goes _ _ _ _ _ _ _ (s₁.setTop (mkF m 164 _ [(.int (128 : Int32)), (.int ((gi u (i + (2 : Int32))) &&& (192 : Int32)))]))
              by_cases c164 : ((gi u (i + (2 : Int32))) &&& (192 : Int32)) = (128 : Int32)
              · skip
                refine Goes.go (fun _ kk => XS.icmpYes X0.here hx rfl (pc0 := 164) (pc' := 169) rfl (hb hby d2_164) rfl (XT.ii_eq_t c164) (by decide) (by decide) kk) ?_
                show Goes _ _ _ _ _ _ _ (s₁.setTop (mkF m 169 _ []))
                refine Goes.go (fun _ kk => XS.iload X0.here hx rfl (hb hby d2_169) rfl kk) ?_
                show Goes _ _ _ _ _ _ _ (s₁.setTop (mkF m 171 _ [(.int (cpF ((gi u i) &&& (7 : Int32)) (gi u (i + (1 : Int32)))))]))
                refine Goes.go (fun _ kk => XS.bipush X0.here hx rfl (hb hby d2_171) kk) ?_
                show Goes _ _ _ _ _ _ _ (s₁.setTop (mkF m 173 _ [(.int (6 : Int32)), (.int (cpF ((gi u i) &&& (7 : Int32)) (gi u (i + (1 : Int32)))))]))
                refine Goes.go (fun _ kk => XS.ishl X0.here hx rfl (hb hby d2_173) rfl kk) ?_
                show Goes _ _ _ _ _ _ _ (s₁.setTop (mkF m 174 _ [(.int ((cpF ((gi u i) &&& (7 : Int32)) (gi u (i + (1 : Int32)))) <<< ((6 : Int32) &&& 31)))]))
                refine Goes.go (fun _ kk => XS.iload X0.here hx rfl (hb hby d2_174) rfl kk) ?_
                show Goes _ _ _ _ _ _ _ (s₁.setTop (mkF m 176 _ [(.int (gi u (i + (2 : Int32)))), (.int ((cpF ((gi u i) &&& (7 : Int32)) (gi u (i + (1 : Int32)))) <<< ((6 : Int32) &&& 31)))]))
                refine Goes.go (fun _ kk => XS.bipush X0.here hx rfl (hb hby d2_176) kk) ?_
                show Goes _ _ _ _ _ _ _ (s₁.setTop (mkF m 178 _ [(.int (63 : Int32)), (.int (gi u (i + (2 : Int32)))), (.int ((cpF ((gi u i) &&& (7 : Int32)) (gi u (i + (1 : Int32)))) <<< ((6 : Int32) &&& 31)))]))
                refine Goes.go (fun _ kk => XS.iand X0.here hx rfl (hb hby d2_178) rfl kk) ?_
                show Goes _ _ _ _ _ _ _ (s₁.setTop (mkF m 179 _ [(.int ((gi u (i + (2 : Int32))) &&& (63 : Int32))), (.int ((cpF ((gi u i) &&& (7 : Int32)) (gi u (i + (1 : Int32)))) <<< ((6 : Int32) &&& 31)))]))
                refine Goes.go (fun _ kk => XS.ior X0.here hx rfl (hb hby d2_179) rfl kk) ?_
                show Goes _ _ _ _ _ _ _ (s₁.setTop (mkF m 180 _ [(.int (((cpF ((gi u i) &&& (7 : Int32)) (gi u (i + (1 : Int32)))) <<< ((6 : Int32) &&& 31)) ||| ((gi u (i + (2 : Int32))) &&& (63 : Int32))))]))
                show Goes _ _ _ _ _ _ _ (s₁.setTop (mkF m 180 _ [(.int (cpF (cpF ((gi u i) &&& (7 : Int32)) (gi u (i + (1 : Int32)))) (gi u (i + (2 : Int32)))))]))
                refine Goes.go (fun _ kk => XS.istore X0.here hx rfl (hb hby d2_180) rfl (l' := #[.val (.ref ua), .val (.int i), .val (.int n), .val (.int (gi u i)), .val (.int (4 : Int32)), .val (.int (cpF (cpF ((gi u i) &&& (7 : Int32)) (gi u (i + (1 : Int32)))) (gi u (i + (2 : Int32))))), .val (.int (65536 : Int32)), .val (.int (gi u (i + (1 : Int32)))), .val (.int (gi u (i + (2 : Int32))))]) rfl kk) ?_
                show Goes _ _ _ _ _ _ _ (s₁.setTop (mkF m 182 #[.val (.ref ua), .val (.int i), .val (.int n), .val (.int (gi u i)), .val (.int (4 : Int32)), .val (.int (cpF (cpF ((gi u i) &&& (7 : Int32)) (gi u (i + (1 : Int32)))) (gi u (i + (2 : Int32))))), .val (.int (65536 : Int32)), .val (.int (gi u (i + (1 : Int32)))), .val (.int (gi u (i + (2 : Int32))))] []))
                refine Goes.go (fun _ kk => XS.iload X0.here hx rfl (hb hby d2_182) rfl kk) ?_
                show Goes _ _ _ _ _ _ _ (s₁.setTop (mkF m 184 _ [(.int (4 : Int32))]))
                refine Goes.go (fun _ kk => XS.iconst X0.here hx rfl (hb hby d2_184) kk) ?_
                show Goes _ _ _ _ _ _ _ (s₁.setTop (mkF m 185 _ [(.int (4 : Int32)), (.int (4 : Int32))]))
                refine Goes.go (fun _ kk => XS.icmpNo X0.here hx rfl (hb hby d2_185) rfl (XT.ii_ne_f (by decide)) kk) ?_
                show Goes _ _ _ _ _ _ _ (s₁.setTop (mkF m 188 _ []))
                refine Goes.go (fun _ kk => XS.aloadN X0.here hx rfl (hb hby d2_188) rfl rfl kk) ?_
                show Goes _ _ _ _ _ _ _ (s₁.setTop (mkF m 189 _ [(.ref ua)]))
                refine Goes.go (fun _ kk => XS.iloadN X0.here hx rfl (hb hby d2_189) rfl kk) ?_
                show Goes _ _ _ _ _ _ _ (s₁.setTop (mkF m 190 _ [(.int i), (.ref ua)]))
                refine Goes.go (fun _ kk => XS.iconst X0.here hx rfl (hb hby d2_190) kk) ?_
                show Goes _ _ _ _ _ _ _ (s₁.setTop (mkF m 191 _ [(.int (3 : Int32)), (.int i), (.ref ua)]))
                refine Goes.go (fun _ kk => XS.iadd X0.here hx rfl (hb hby d2_191) rfl kk) ?_
                show Goes _ _ _ _ _ _ _ (s₁.setTop (mkF m 192 _ [(.int (i + (3 : Int32))), (.ref ua)]))
                refine Goes.go (own_ldI X0 hx hZ e0 A0 (j := (i + (3 : Int32))) (v := (.int (gi u (i + (3 : Int32))))) (gi_ok hl (by omega) (by omega)).1 (own_ati (gi_ok hl (by omega) (by omega)).2) rfl rfl (hb hby d2_192)) ?_
                show Goes _ _ _ _ _ _ _ (s₁.setTop (mkF m 193 _ [(.int (gi u (i + (3 : Int32))))]))
                refine Goes.go (fun _ kk => XS.istore X0.here hx rfl (hb hby d2_193) rfl (l' := #[.val (.ref ua), .val (.int i), .val (.int n), .val (.int (gi u i)), .val (.int (4 : Int32)), .val (.int (cpF (cpF ((gi u i) &&& (7 : Int32)) (gi u (i + (1 : Int32)))) (gi u (i + (2 : Int32))))), .val (.int (65536 : Int32)), .val (.int (gi u (i + (1 : Int32)))), .val (.int (gi u (i + (3 : Int32))))]) rfl kk) ?_
                show Goes _ _ _ _ _ _ _ (s₁.setTop (mkF m 195 #[.val (.ref ua), .val (.int i), .val (.int n), .val (.int (gi u i)), .val (.int (4 : Int32)), .val (.int (cpF (cpF ((gi u i) &&& (7 : Int32)) (gi u (i + (1 : Int32)))) (gi u (i + (2 : Int32))))), .val (.int (65536 : Int32)), .val (.int (gi u (i + (1 : Int32)))), .val (.int (gi u (i + (3 : Int32))))] []))
                refine Goes.go (fun _ kk => XS.iload X0.here hx rfl (hb hby d2_195) rfl kk) ?_
                show Goes _ _ _ _ _ _ _ (s₁.setTop (mkF m 197 _ [(.int (gi u (i + (3 : Int32))))]))
                refine Goes.go (fun _ kk => XS.sipush X0.here hx rfl (hb hby d2_197) kk) ?_
                show Goes _ _ _ _ _ _ _ (s₁.setTop (mkF m 200 _ [(.int (192 : Int32)), (.int (gi u (i + (3 : Int32))))]))
                refine Goes.go (fun _ kk => XS.iand X0.here hx rfl (hb hby d2_200) rfl kk) ?_
                show Goes _ _ _ _ _ _ _ (s₁.setTop (mkF m 201 _ [(.int ((gi u (i + (3 : Int32))) &&& (192 : Int32)))]))
                refine Goes.go (fun _ kk => XS.sipush X0.here hx rfl (hb hby d2_201) kk) ?_
                show Goes _ _ _ _ _ _ _ (s₁.setTop (mkF m 204 _ [(.int (128 : Int32)), (.int ((gi u (i + (3 : Int32))) &&& (192 : Int32)))]))
                by_cases c204 : ((gi u (i + (3 : Int32))) &&& (192 : Int32)) = (128 : Int32)
                · skip
                  refine Goes.go (fun _ kk => XS.icmpYes X0.here hx rfl (pc0 := 204) (pc' := 209) rfl (hb hby d2_204) rfl (XT.ii_eq_t c204) (by decide) (by decide) kk) ?_
                  show Goes _ _ _ _ _ _ _ (s₁.setTop (mkF m 209 _ []))
                  refine Goes.go (fun _ kk => XS.iload X0.here hx rfl (hb hby d2_209) rfl kk) ?_
                  show Goes _ _ _ _ _ _ _ (s₁.setTop (mkF m 211 _ [(.int (cpF (cpF ((gi u i) &&& (7 : Int32)) (gi u (i + (1 : Int32)))) (gi u (i + (2 : Int32)))))]))
                  refine Goes.go (fun _ kk => XS.bipush X0.here hx rfl (hb hby d2_211) kk) ?_
                  show Goes _ _ _ _ _ _ _ (s₁.setTop (mkF m 213 _ [(.int (6 : Int32)), (.int (cpF (cpF ((gi u i) &&& (7 : Int32)) (gi u (i + (1 : Int32)))) (gi u (i + (2 : Int32)))))]))
                  refine Goes.go (fun _ kk => XS.ishl X0.here hx rfl (hb hby d2_213) rfl kk) ?_
                  show Goes _ _ _ _ _ _ _ (s₁.setTop (mkF m 214 _ [(.int ((cpF (cpF ((gi u i) &&& (7 : Int32)) (gi u (i + (1 : Int32)))) (gi u (i + (2 : Int32)))) <<< ((6 : Int32) &&& 31)))]))
                  refine Goes.go (fun _ kk => XS.iload X0.here hx rfl (hb hby d2_214) rfl kk) ?_
                  show Goes _ _ _ _ _ _ _ (s₁.setTop (mkF m 216 _ [(.int (gi u (i + (3 : Int32)))), (.int ((cpF (cpF ((gi u i) &&& (7 : Int32)) (gi u (i + (1 : Int32)))) (gi u (i + (2 : Int32)))) <<< ((6 : Int32) &&& 31)))]))
                  refine Goes.go (fun _ kk => XS.bipush X0.here hx rfl (hb hby d2_216) kk) ?_
                  show Goes _ _ _ _ _ _ _ (s₁.setTop (mkF m 218 _ [(.int (63 : Int32)), (.int (gi u (i + (3 : Int32)))), (.int ((cpF (cpF ((gi u i) &&& (7 : Int32)) (gi u (i + (1 : Int32)))) (gi u (i + (2 : Int32)))) <<< ((6 : Int32) &&& 31)))]))
                  refine Goes.go (fun _ kk => XS.iand X0.here hx rfl (hb hby d2_218) rfl kk) ?_
                  show Goes _ _ _ _ _ _ _ (s₁.setTop (mkF m 219 _ [(.int ((gi u (i + (3 : Int32))) &&& (63 : Int32))), (.int ((cpF (cpF ((gi u i) &&& (7 : Int32)) (gi u (i + (1 : Int32)))) (gi u (i + (2 : Int32)))) <<< ((6 : Int32) &&& 31)))]))
                  refine Goes.go (fun _ kk => XS.ior X0.here hx rfl (hb hby d2_219) rfl kk) ?_
                  show Goes _ _ _ _ _ _ _ (s₁.setTop (mkF m 220 _ [(.int (((cpF (cpF ((gi u i) &&& (7 : Int32)) (gi u (i + (1 : Int32)))) (gi u (i + (2 : Int32)))) <<< ((6 : Int32) &&& 31)) ||| ((gi u (i + (3 : Int32))) &&& (63 : Int32))))]))
                  show Goes _ _ _ _ _ _ _ (s₁.setTop (mkF m 220 _ [(.int (cpF (cpF (cpF ((gi u i) &&& (7 : Int32)) (gi u (i + (1 : Int32)))) (gi u (i + (2 : Int32)))) (gi u (i + (3 : Int32)))))]))
                  refine Goes.go (fun _ kk => XS.istore X0.here hx rfl (hb hby d2_220) rfl (l' := #[.val (.ref ua), .val (.int i), .val (.int n), .val (.int (gi u i)), .val (.int (4 : Int32)), .val (.int (cpF (cpF (cpF ((gi u i) &&& (7 : Int32)) (gi u (i + (1 : Int32)))) (gi u (i + (2 : Int32)))) (gi u (i + (3 : Int32))))), .val (.int (65536 : Int32)), .val (.int (gi u (i + (1 : Int32)))), .val (.int (gi u (i + (3 : Int32))))]) rfl kk) ?_
                  show Goes _ _ _ _ _ _ _ (s₁.setTop (mkF m 222 #[.val (.ref ua), .val (.int i), .val (.int n), .val (.int (gi u i)), .val (.int (4 : Int32)), .val (.int (cpF (cpF (cpF ((gi u i) &&& (7 : Int32)) (gi u (i + (1 : Int32)))) (gi u (i + (2 : Int32)))) (gi u (i + (3 : Int32))))), .val (.int (65536 : Int32)), .val (.int (gi u (i + (1 : Int32)))), .val (.int (gi u (i + (3 : Int32))))] []))
                  refine Goes.go (fun _ kk => XS.iload X0.here hx rfl (hb hby d2_222) rfl kk) ?_
                  show Goes _ _ _ _ _ _ _ (s₁.setTop (mkF m 224 _ [(.int (cpF (cpF (cpF ((gi u i) &&& (7 : Int32)) (gi u (i + (1 : Int32)))) (gi u (i + (2 : Int32)))) (gi u (i + (3 : Int32)))))]))
                  refine Goes.go (fun _ kk => XS.iload X0.here hx rfl (hb hby d2_224) rfl kk) ?_
                  show Goes _ _ _ _ _ _ _ (s₁.setTop (mkF m 226 _ [(.int (65536 : Int32)), (.int (cpF (cpF (cpF ((gi u i) &&& (7 : Int32)) (gi u (i + (1 : Int32)))) (gi u (i + (2 : Int32)))) (gi u (i + (3 : Int32)))))]))
                  by_cases c226 : (cpF (cpF (cpF ((gi u i) &&& (7 : Int32)) (gi u (i + (1 : Int32)))) (gi u (i + (2 : Int32)))) (gi u (i + (3 : Int32)))) < (65536 : Int32)
                  · skip
                    refine Goes.go (fun _ kk => XS.icmpNo X0.here hx rfl (hb hby d2_226) rfl (XT.ii_ge_f c226) kk) ?_
                    show Goes _ _ _ _ _ _ _ (s₁.setTop (mkF m 229 _ []))
                    refine Goes.go (fun _ kk => XS.iconst X0.here hx rfl (hb hby d2_229) kk) ?_
                    show Goes _ _ _ _ _ _ _ (s₁.setTop (mkF m 230 _ [(.int (0 : Int32))]))
                    exact Goes.outI X0 hx hlk hret (hb hby d2_230) e0 ⟨by simp only [seqF, sq2, sq3, sq4, fnF, if_neg c8, if_neg c21, if_neg c49, if_pos c77, if_neg c103, if_pos c124, if_pos c164, if_pos c204, if_pos c226], N0, rfl⟩ (by decide) (by decide)
                  · skip
                    refine Goes.go (fun _ kk => XS.icmpYes X0.here hx rfl (pc0 := 226) (pc' := 231) rfl (hb hby d2_226) rfl (XT.ii_ge_t c226) (by decide) (by decide) kk) ?_
                    show Goes _ _ _ _ _ _ _ (s₁.setTop (mkF m 231 _ []))
                    refine Goes.go (fun _ kk => XS.iload X0.here hx rfl (hb hby d2_231) rfl kk) ?_
                    show Goes _ _ _ _ _ _ _ (s₁.setTop (mkF m 233 _ [(.int (cpF (cpF (cpF ((gi u i) &&& (7 : Int32)) (gi u (i + (1 : Int32)))) (gi u (i + (2 : Int32)))) (gi u (i + (3 : Int32)))))]))
                    refine Goes.go (fun _ kk => X0.ldcI hx (v := (55296 : Int32)) hown (mvT hZ (hw _ (List.mem_of_getElem? (i := 15) rfl))) rfl (hb hby d2_233) kk) ?_
                    show Goes _ _ _ _ _ _ _ (s₁.setTop (mkF m 235 _ [(.int (55296 : Int32)), (.int (cpF (cpF (cpF ((gi u i) &&& (7 : Int32)) (gi u (i + (1 : Int32)))) (gi u (i + (2 : Int32)))) (gi u (i + (3 : Int32)))))]))
                    by_cases c235 : (cpF (cpF (cpF ((gi u i) &&& (7 : Int32)) (gi u (i + (1 : Int32)))) (gi u (i + (2 : Int32)))) (gi u (i + (3 : Int32)))) < (55296 : Int32)
                    · skip
                      refine Goes.go (fun _ kk => XS.icmpYes X0.here hx rfl (pc0 := 235) (pc' := 247) rfl (hb hby d2_235) rfl (XT.ii_lt_t c235) (by decide) (by decide) kk) ?_
                      show Goes _ _ _ _ _ _ _ (s₁.setTop (mkF m 247 _ []))
                      refine Goes.go (fun _ kk => XS.iload X0.here hx rfl (hb hby d2_247) rfl kk) ?_
                      show Goes _ _ _ _ _ _ _ (s₁.setTop (mkF m 249 _ [(.int (cpF (cpF (cpF ((gi u i) &&& (7 : Int32)) (gi u (i + (1 : Int32)))) (gi u (i + (2 : Int32)))) (gi u (i + (3 : Int32)))))]))
                      refine Goes.go (fun _ kk => X0.ldcI hx (v := (1114111 : Int32)) hown (mvT hZ (hw _ (List.mem_of_getElem? (i := 16) rfl))) rfl (hb hby d2_249) kk) ?_
                      show Goes _ _ _ _ _ _ _ (s₁.setTop (mkF m 251 _ [(.int (1114111 : Int32)), (.int (cpF (cpF (cpF ((gi u i) &&& (7 : Int32)) (gi u (i + (1 : Int32)))) (gi u (i + (2 : Int32)))) (gi u (i + (3 : Int32)))))]))
                      by_cases c251 : (1114111 : Int32) < (cpF (cpF (cpF ((gi u i) &&& (7 : Int32)) (gi u (i + (1 : Int32)))) (gi u (i + (2 : Int32)))) (gi u (i + (3 : Int32))))
                      · skip
                        refine Goes.go (fun _ kk => XS.icmpNo X0.here hx rfl (hb hby d2_251) rfl (XT.ii_le_f c251) kk) ?_
                        show Goes _ _ _ _ _ _ _ (s₁.setTop (mkF m 254 _ []))
                        refine Goes.go (fun _ kk => XS.iconst X0.here hx rfl (hb hby d2_254) kk) ?_
                        show Goes _ _ _ _ _ _ _ (s₁.setTop (mkF m 255 _ [(.int (0 : Int32))]))
                        exact Goes.outI X0 hx hlk hret (hb hby d2_255) e0 ⟨by simp only [seqF, sq2, sq3, sq4, fnF, if_neg c8, if_neg c21, if_neg c49, if_pos c77, if_neg c103, if_pos c124, if_pos c164, if_pos c204, if_neg c226, if_pos c235, if_pos c251], N0, rfl⟩ (by decide) (by decide)
                      · skip
                        refine Goes.go (fun _ kk => XS.icmpYes X0.here hx rfl (pc0 := 251) (pc' := 256) rfl (hb hby d2_251) rfl (XT.ii_le_t c251) (by decide) (by decide) kk) ?_
                        show Goes _ _ _ _ _ _ _ (s₁.setTop (mkF m 256 _ []))
                        refine Goes.go (fun _ kk => XS.iload X0.here hx rfl (hb hby d2_256) rfl kk) ?_
                        show Goes _ _ _ _ _ _ _ (s₁.setTop (mkF m 258 _ [(.int (4 : Int32))]))
                        exact Goes.outI X0 hx hlk hret (hb hby d2_258) e0 ⟨by simp only [seqF, sq2, sq3, sq4, fnF, if_neg c8, if_neg c21, if_neg c49, if_pos c77, if_neg c103, if_pos c124, if_pos c164, if_pos c204, if_neg c226, if_pos c235, if_neg c251], N0, rfl⟩ (by decide) (by decide)
                    · skip
                      refine Goes.go (fun _ kk => XS.icmpNo X0.here hx rfl (hb hby d2_235) rfl (XT.ii_lt_f c235) kk) ?_
                      show Goes _ _ _ _ _ _ _ (s₁.setTop (mkF m 238 _ []))
                      refine Goes.go (fun _ kk => XS.iload X0.here hx rfl (hb hby d2_238) rfl kk) ?_
                      show Goes _ _ _ _ _ _ _ (s₁.setTop (mkF m 240 _ [(.int (cpF (cpF (cpF ((gi u i) &&& (7 : Int32)) (gi u (i + (1 : Int32)))) (gi u (i + (2 : Int32)))) (gi u (i + (3 : Int32)))))]))
                      refine Goes.go (fun _ kk => X0.ldcI hx (v := (57343 : Int32)) hown (mvT hZ (hw _ (List.mem_of_getElem? (i := 17) rfl))) rfl (hb hby d2_240) kk) ?_
                      show Goes _ _ _ _ _ _ _ (s₁.setTop (mkF m 242 _ [(.int (57343 : Int32)), (.int (cpF (cpF (cpF ((gi u i) &&& (7 : Int32)) (gi u (i + (1 : Int32)))) (gi u (i + (2 : Int32)))) (gi u (i + (3 : Int32)))))]))
                      by_cases c242 : (57343 : Int32) < (cpF (cpF (cpF ((gi u i) &&& (7 : Int32)) (gi u (i + (1 : Int32)))) (gi u (i + (2 : Int32)))) (gi u (i + (3 : Int32))))
                      · skip
                        refine Goes.go (fun _ kk => XS.icmpYes X0.here hx rfl (pc0 := 242) (pc' := 247) rfl (hb hby d2_242) rfl (XT.ii_gt_t c242) (by decide) (by decide) kk) ?_
                        show Goes _ _ _ _ _ _ _ (s₁.setTop (mkF m 247 _ []))
                        refine Goes.go (fun _ kk => XS.iload X0.here hx rfl (hb hby d2_247) rfl kk) ?_
                        show Goes _ _ _ _ _ _ _ (s₁.setTop (mkF m 249 _ [(.int (cpF (cpF (cpF ((gi u i) &&& (7 : Int32)) (gi u (i + (1 : Int32)))) (gi u (i + (2 : Int32)))) (gi u (i + (3 : Int32)))))]))
                        refine Goes.go (fun _ kk => X0.ldcI hx (v := (1114111 : Int32)) hown (mvT hZ (hw _ (List.mem_of_getElem? (i := 16) rfl))) rfl (hb hby d2_249) kk) ?_
                        show Goes _ _ _ _ _ _ _ (s₁.setTop (mkF m 251 _ [(.int (1114111 : Int32)), (.int (cpF (cpF (cpF ((gi u i) &&& (7 : Int32)) (gi u (i + (1 : Int32)))) (gi u (i + (2 : Int32)))) (gi u (i + (3 : Int32)))))]))
                        by_cases c251 : (1114111 : Int32) < (cpF (cpF (cpF ((gi u i) &&& (7 : Int32)) (gi u (i + (1 : Int32)))) (gi u (i + (2 : Int32)))) (gi u (i + (3 : Int32))))
                        · skip
                          refine Goes.go (fun _ kk => XS.icmpNo X0.here hx rfl (hb hby d2_251) rfl (XT.ii_le_f c251) kk) ?_
                          show Goes _ _ _ _ _ _ _ (s₁.setTop (mkF m 254 _ []))
                          refine Goes.go (fun _ kk => XS.iconst X0.here hx rfl (hb hby d2_254) kk) ?_
                          show Goes _ _ _ _ _ _ _ (s₁.setTop (mkF m 255 _ [(.int (0 : Int32))]))
                          exact Goes.outI X0 hx hlk hret (hb hby d2_255) e0 ⟨by simp only [seqF, sq2, sq3, sq4, fnF, if_neg c8, if_neg c21, if_neg c49, if_pos c77, if_neg c103, if_pos c124, if_pos c164, if_pos c204, if_neg c226, if_neg c235, if_pos c242, if_pos c251], N0, rfl⟩ (by decide) (by decide)
                        · skip
                          refine Goes.go (fun _ kk => XS.icmpYes X0.here hx rfl (pc0 := 251) (pc' := 256) rfl (hb hby d2_251) rfl (XT.ii_le_t c251) (by decide) (by decide) kk) ?_
                          show Goes _ _ _ _ _ _ _ (s₁.setTop (mkF m 256 _ []))
                          refine Goes.go (fun _ kk => XS.iload X0.here hx rfl (hb hby d2_256) rfl kk) ?_
                          show Goes _ _ _ _ _ _ _ (s₁.setTop (mkF m 258 _ [(.int (4 : Int32))]))
                          exact Goes.outI X0 hx hlk hret (hb hby d2_258) e0 ⟨by simp only [seqF, sq2, sq3, sq4, fnF, if_neg c8, if_neg c21, if_neg c49, if_pos c77, if_neg c103, if_pos c124, if_pos c164, if_pos c204, if_neg c226, if_neg c235, if_pos c242, if_neg c251], N0, rfl⟩ (by decide) (by decide)
                      · skip
                        refine Goes.go (fun _ kk => XS.icmpNo X0.here hx rfl (hb hby d2_242) rfl (XT.ii_gt_f c242) kk) ?_
                        show Goes _ _ _ _ _ _ _ (s₁.setTop (mkF m 245 _ []))
                        refine Goes.go (fun _ kk => XS.iconst X0.here hx rfl (hb hby d2_245) kk) ?_
                        show Goes _ _ _ _ _ _ _ (s₁.setTop (mkF m 246 _ [(.int (0 : Int32))]))
                        exact Goes.outI X0 hx hlk hret (hb hby d2_246) e0 ⟨by simp only [seqF, sq2, sq3, sq4, fnF, if_neg c8, if_neg c21, if_neg c49, if_pos c77, if_neg c103, if_pos c124, if_pos c164, if_pos c204, if_neg c226, if_neg c235, if_neg c242], N0, rfl⟩ (by decide) (by decide)
                · skip
                  refine Goes.go (fun _ kk => XS.icmpNo X0.here hx rfl (hb hby d2_204) rfl (XT.ii_eq_f c204) kk) ?_
                  show Goes _ _ _ _ _ _ _ (s₁.setTop (mkF m 207 _ []))
                  refine Goes.go (fun _ kk => XS.iconst X0.here hx rfl (hb hby d2_207) kk) ?_
                  show Goes _ _ _ _ _ _ _ (s₁.setTop (mkF m 208 _ [(.int (0 : Int32))]))
                  exact Goes.outI X0 hx hlk hret (hb hby d2_208) e0 ⟨by simp only [seqF, sq2, sq3, sq4, fnF, if_neg c8, if_neg c21, if_neg c49, if_pos c77, if_neg c103, if_pos c124, if_pos c164, if_neg c204], N0, rfl⟩ (by decide) (by decide)
              · skip
                refine Goes.go (fun _ kk => XS.icmpNo X0.here hx rfl (hb hby d2_164) rfl (XT.ii_eq_f c164) kk) ?_
                show Goes _ _ _ _ _ _ _ (s₁.setTop (mkF m 167 _ []))
                refine Goes.go (fun _ kk => XS.iconst X0.here hx rfl (hb hby d2_167) kk) ?_
                show Goes _ _ _ _ _ _ _ (s₁.setTop (mkF m 168 _ [(.int (0 : Int32))]))
                exact Goes.outI X0 hx hlk hret (hb hby d2_168) e0 ⟨by simp only [seqF, sq2, sq3, sq4, fnF, if_neg c8, if_neg c21, if_neg c49, if_pos c77, if_neg c103, if_pos c124, if_neg c164], N0, rfl⟩ (by decide) (by decide)
            · skip
              refine Goes.go (fun _ kk => XS.icmpNo X0.here hx rfl (hb hby d2_124) rfl (XT.ii_eq_f c124) kk) ?_
              show Goes _ _ _ _ _ _ _ (s₁.setTop (mkF m 127 _ []))
              refine Goes.go (fun _ kk => XS.iconst X0.here hx rfl (hb hby d2_127) kk) ?_
              show Goes _ _ _ _ _ _ _ (s₁.setTop (mkF m 128 _ [(.int (0 : Int32))]))
              exact Goes.outI X0 hx hlk hret (hb hby d2_128) e0 ⟨by simp only [seqF, sq2, sq3, sq4, fnF, if_neg c8, if_neg c21, if_neg c49, if_pos c77, if_neg c103, if_neg c124], N0, rfl⟩ (by decide) (by decide)
        · skip
          refine Goes.go (fun _ kk => XS.icmpYes X0.here hx rfl (pc0 := 77) (pc' := 96) rfl (hb hby d2_77) rfl (XT.ii_ne_t c77) (by decide) (by decide) kk) ?_
          show Goes _ _ _ _ _ _ _ (s₁.setTop (mkF m 96 _ []))
          refine Goes.go (fun _ kk => XS.iconst X0.here hx rfl (hb hby d2_96) kk) ?_
          show Goes _ _ _ _ _ _ _ (s₁.setTop (mkF m 97 _ [(.int (0 : Int32))]))
          exact Goes.outI X0 hx hlk hret (hb hby d2_97) e0 ⟨by simp only [seqF, sq2, sq3, sq4, fnF, if_neg c8, if_neg c21, if_neg c49, if_neg c77], N0, rfl⟩ (by decide) (by decide)
theorem own_ge {i : Int32} (h : ¬ i < 0) : 0 ≤ i.toInt := by
  rw [Int32.lt_iff_toInt_lt] at h
  have : (0 : Int32).toInt = 0 := by decide
  omega
theorem d1_0 : decode method_3_code 0 = .ok (.iload_n 1, 1) := by decide +kernel
theorem d1_1 : decode method_3_code 1 = .ok (.ifCond .ge 5, 3) := by decide +kernel
theorem d1_4 : decode method_3_code 4 = .ok (.iconst (-1), 1) := by decide +kernel
theorem d1_5 : decode method_3_code 5 = .ok (.ireturn, 1) := by decide +kernel
theorem d1_6 : decode method_3_code 6 = .ok (.iload_n 1, 1) := by decide +kernel
theorem d1_7 : decode method_3_code 7 = .ok (.iload_n 2, 1) := by decide +kernel
theorem d1_8 : decode method_3_code 8 = .ok (.if_icmp .lt 5, 3) := by decide +kernel
theorem d1_11 : decode method_3_code 11 = .ok (.iload_n 1, 1) := by decide +kernel
theorem d1_12 : decode method_3_code 12 = .ok (.ireturn, 1) := by decide +kernel
theorem d1_13 : decode method_3_code 13 = .ok (.aload_n 0, 1) := by decide +kernel
theorem d1_14 : decode method_3_code 14 = .ok (.iload_n 1, 1) := by decide +kernel
theorem d1_15 : decode method_3_code 15 = .ok (.iload_n 2, 1) := by decide +kernel
theorem d1_16 : decode method_3_code 16 = .ok (.invokestatic 20, 3) := by decide +kernel
theorem d1_19 : decode method_3_code 19 = .ok (.istore_n 3, 1) := by decide +kernel
theorem d1_20 : decode method_3_code 20 = .ok (.iload_n 3, 1) := by decide +kernel
theorem d1_21 : decode method_3_code 21 = .ok (.ifCond .ne 5, 3) := by decide +kernel
theorem d1_24 : decode method_3_code 24 = .ok (.iconst (-1), 1) := by decide +kernel
theorem d1_25 : decode method_3_code 25 = .ok (.ireturn, 1) := by decide +kernel
theorem d1_26 : decode method_3_code 26 = .ok (.iload_n 1, 1) := by decide +kernel
theorem d1_27 : decode method_3_code 27 = .ok (.iload_n 3, 1) := by decide +kernel
theorem d1_28 : decode method_3_code 28 = .ok (.iadd, 1) := by decide +kernel
theorem d1_29 : decode method_3_code 29 = .ok (.ireturn, 1) := by decide +kernel
theorem ef_rm1 (m : MethodId) (ua : Addr) (i : Int32) (n : Int32) : entryFrame m #[(.ref ua), (.int i), (.int n)] 4 = mkF m 0 #[.val (.ref ua), .val (.int i), .val (.int n), .unset] [] := by first | (simp [entryFrame, mkF, argsToLocals, Value.category]; done) | rfl
def Q_rm1 (Z : State) (ua : Addr) (i : Int32) (n : Int32) (u : List Int32) (h0 : Heap) (n0 : Nat) (v : Option Value) (h : Heap) (L : List Loc) : Prop := v = some (.int (stF u n i)) ∧ Fr n0 L ∧ h = h0
set_option maxRecDepth 65536 in
set_option maxHeartbeats 40000000 in
theorem rm1 (l : Launch) (Z : State) (a0 : Array Value) (hw : ∀ d ∈ tables_1, d.before a0 Z = true) (ws : List Jvm.Cond) (ua : Addr) (i : Int32) (n : Int32) (u : List Int32) (h0 : Heap) (n0 : Nat) (Z0 : n0 ≤ h0.size) (A0 : Arl Z h0 ua .int (List.map Value.int u)) (hl : u.length = 8) (hn0 : 0 ≤ n.toInt) (hn8 : n.toInt ≤ 8) :
    MetFree l (⟨"com/example/wide_schema/wideschema/model/NativeTypeIsUtf8PinLaw", "step", "([III)I"⟩ : MethodName) (head1 (Jvm.Cond.code (⟨"com/example/wide_schema/wideschema/model/NativeTypeIsUtf8PinLaw", "step", "([III)I"⟩ : MethodName) method_3_code 4 (some .int) :: ws) ({ frames := 1, cells := 0, slots := 0, locals := 20 } : Room)) (fun aa U => aa = #[(.ref ua), (.int i), (.int n)] ∧ Z.Warmed39 U.vm ∧ U.heap = h0) (fun _ _ _ _ _ => True) (fun _ U oo U' => ∃ v L, oo = .returned v ∧ Q_rm1 Z ua i n u h0 n0 v U'.heap L ∧ FrameEnd U oo U' L ({ frames := 1, cells := 0, slots := 0, locals := 20 } : Room).cells ({ frames := 1, cells := 0, slots := 0, locals := 20 } : Room).slots) := by
  refine MetFree.of_bodySF (plainFor_of_name pn0) hisR ?_
  intro p e s m args below meth c s₁ Bd hml0 hP hK
  obtain ⟨rfl, hZ, hh⟩ := hP
  have hx := Bd.exec
  have hby := Bd.bytes
  have hml : c.maxLocals = 4 := hml0
  have hown : s.vm.findClass "com/example/wide_schema/wideschema/model/NativeTypeIsUtf8PinLaw" = some m.cls := findClass_of_methodNamed Bd.named
  have hnm := (name_of_methodNamed Bd.named Bd.method).1
  have hlk : meth.locks = false := Bd.notSynchronized
  have hret := Bd.returns
  have X0 : Stand p l e ({ frames := 1, cells := 0, slots := 0, locals := 20 } : Room) s m #[(.ref ua), (.int i), (.int n)] below meth c s₁ [] 0 0 := Stand.of_body Bd
  have e0 : s₁.heap = h0 := by rw [← hh, Bd.state]; rfl
  have N0 := Fr.nil n0
  have K0 : Keep h0 h0 [] := Keep.refl _ _
  show Goes p e below s (Q_rm1 Z ua i n u h0 n0) ({ frames := 1, cells := 0, slots := 0, locals := 20 } : Room).cells ({ frames := 1, cells := 0, slots := 0, locals := 20 } : Room).slots _
  refine Goes.go (fun t k => castTop (ef_rm1 m ua i n) k) ?_
  show Goes _ _ _ _ _ _ _ (s₁.setTop (mkF m 0 #[.val (.ref ua), .val (.int i), .val (.int n), .unset] []))
  refine Goes.go (fun _ kk => XS.iloadN X0.here hx rfl (hb hby d1_0) rfl kk) ?_
  show Goes _ _ _ _ _ _ _ (s₁.setTop (mkF m 1 _ [(.int i)]))
  by_cases c1 : i < 0
  · skip
    refine Goes.go (fun _ kk => XS.ifNo X0.here hx rfl (hb hby d1_1) rfl (XT.i0_ge_f c1) kk) ?_
    show Goes _ _ _ _ _ _ _ (s₁.setTop (mkF m 4 _ []))
    refine Goes.go (fun _ kk => XS.iconst X0.here hx rfl (hb hby d1_4) kk) ?_
    show Goes _ _ _ _ _ _ _ (s₁.setTop (mkF m 5 _ [(.int (-1 : Int32))]))
    exact Goes.outI X0 hx hlk hret (hb hby d1_5) e0 ⟨by simp only [stF, if_pos c1], N0, rfl⟩ (by decide) (by decide)
  · skip
    refine Goes.go (fun _ kk => XS.ifYes X0.here hx rfl (pc0 := 1) (pc' := 6) rfl (hb hby d1_1) rfl (XT.i0_ge_t c1) (by decide) (by decide) kk) ?_
    show Goes _ _ _ _ _ _ _ (s₁.setTop (mkF m 6 _ []))
    refine Goes.go (fun _ kk => XS.iloadN X0.here hx rfl (hb hby d1_6) rfl kk) ?_
    show Goes _ _ _ _ _ _ _ (s₁.setTop (mkF m 7 _ [(.int i)]))
    refine Goes.go (fun _ kk => XS.iloadN X0.here hx rfl (hb hby d1_7) rfl kk) ?_
    show Goes _ _ _ _ _ _ _ (s₁.setTop (mkF m 8 _ [(.int n), (.int i)]))
    by_cases c8 : i < n
    · skip
      refine Goes.go (fun _ kk => XS.icmpYes X0.here hx rfl (pc0 := 8) (pc' := 13) rfl (hb hby d1_8) rfl (XT.ii_lt_t c8) (by decide) (by decide) kk) ?_
      show Goes _ _ _ _ _ _ _ (s₁.setTop (mkF m 13 _ []))
      refine Goes.go (fun _ kk => XS.aloadN X0.here hx rfl (hb hby d1_13) rfl rfl kk) ?_
      show Goes _ _ _ _ _ _ _ (s₁.setTop (mkF m 14 _ [(.ref ua)]))
      refine Goes.go (fun _ kk => XS.iloadN X0.here hx rfl (hb hby d1_14) rfl kk) ?_
      show Goes _ _ _ _ _ _ _ (s₁.setTop (mkF m 15 _ [(.int i), (.ref ua)]))
      refine Goes.go (fun _ kk => XS.iloadN X0.here hx rfl (hb hby d1_15) rfl kk) ?_
      show Goes _ _ _ _ _ _ _ (s₁.setTop (mkF m 16 _ [(.int n), (.int i), (.ref ua)]))
      obtain ⟨_, _, ⟨T1, L1, k1, n1⟩, -, X1, ⟨Lc1, hQ1, l1, y1, z1⟩, st1⟩ := Jvm.LawKit.callS X0 hx (y := (⟨"com/example/wide_schema/wideschema/model/NativeTypeIsUtf8PinLaw", "seq", "([III)I"⟩ : MethodName)) hown (mvT hZ (hw _ (List.mem_of_getElem? (i := 7) rfl))) (mvT hZ (hw _ (List.mem_of_getElem? (i := 8) rfl))) (mvT hZ (hw _ (List.mem_of_getElem? (i := 5) rfl))) (mvT hZ (hw _ (List.mem_of_getElem? (i := 9) rfl))) (by decide) (backOf (W := 0) (rm2 l Z a0 hw [] ua i n u h0 n0 Z0 A0 hl hn0 hn8 (own_ge c1) (Int32.lt_iff_toInt_lt.mp c8)) hZ (hw _ (List.mem_of_getElem? (i := 9) rfl)) (hw _ (List.mem_of_getElem? (i := 5) rfl)) (by decide) (by decide)) (g := (mkF m 16 #[.val (.ref ua), .val (.int i), .val (.int n), .unset] [(.int n), (.int i), (.ref ua)])) rfl (by rw [hml]; rfl) (argsL := [(.ref ua), (.int i), (.int n)]) (rest := []) (lenOf pd0 rfl) rfl (by show 2 * 0 + _ ≤ _; exact Nat.le_of_eq rfl) (hb hby d1_16) (fun _ _ => ⟨rfl, e0, (by decide : 0 + 0 ≤ _), (by decide : 0 + 0 ≤ _)⟩)
      dsimp only [Pt.U, Pt.locs, Pt.cells, Pt.slots] at X1 l1 y1 z1 st1 hQ1
      subst l1 y1 z1
      obtain ⟨rfl, Nq1, hh1⟩ := hQ1
      have N1 := Fr.app N0 Nq1
      refine Goes.go (st1) ?_
      show Goes _ _ _ _ _ _ _ (T1.setTop (mkF m 19 _ [(.int (seqF u n i))]))
      refine Goes.go (fun _ kk => XS.istoreN X1.here hx rfl (hb hby d1_19) rfl (l' := #[.val (.ref ua), .val (.int i), .val (.int n), .val (.int (seqF u n i))]) rfl kk) ?_
      show Goes _ _ _ _ _ _ _ (T1.setTop (mkF m 20 #[.val (.ref ua), .val (.int i), .val (.int n), .val (.int (seqF u n i))] []))
      refine Goes.go (fun _ kk => XS.iloadN X1.here hx rfl (hb hby d1_20) rfl kk) ?_
      show Goes _ _ _ _ _ _ _ (T1.setTop (mkF m 21 _ [(.int (seqF u n i))]))
      by_cases c21 : (seqF u n i) = 0
      · skip
        refine Goes.go (fun _ kk => XS.ifNo X1.here hx rfl (hb hby d1_21) rfl (XT.i0_ne_f c21) kk) ?_
        show Goes _ _ _ _ _ _ _ (T1.setTop (mkF m 24 _ []))
        refine Goes.go (fun _ kk => XS.iconst X1.here hx rfl (hb hby d1_24) kk) ?_
        show Goes _ _ _ _ _ _ _ (T1.setTop (mkF m 25 _ [(.int (-1 : Int32))]))
        exact Goes.outI X1 hx hlk hret (hb hby d1_25) hh1 ⟨by simp only [stF, if_neg c1, if_pos c8, if_pos c21], N1, rfl⟩ (by decide) (by decide)
      · skip
        refine Goes.go (fun _ kk => XS.ifYes X1.here hx rfl (pc0 := 21) (pc' := 26) rfl (hb hby d1_21) rfl (XT.i0_ne_t c21) (by decide) (by decide) kk) ?_
        show Goes _ _ _ _ _ _ _ (T1.setTop (mkF m 26 _ []))
        refine Goes.go (fun _ kk => XS.iloadN X1.here hx rfl (hb hby d1_26) rfl kk) ?_
        show Goes _ _ _ _ _ _ _ (T1.setTop (mkF m 27 _ [(.int i)]))
        refine Goes.go (fun _ kk => XS.iloadN X1.here hx rfl (hb hby d1_27) rfl kk) ?_
        show Goes _ _ _ _ _ _ _ (T1.setTop (mkF m 28 _ [(.int (seqF u n i)), (.int i)]))
        refine Goes.go (fun _ kk => XS.iadd X1.here hx rfl (hb hby d1_28) rfl kk) ?_
        show Goes _ _ _ _ _ _ _ (T1.setTop (mkF m 29 _ [(.int (i + (seqF u n i)))]))
        exact Goes.outI X1 hx hlk hret (hb hby d1_29) hh1 ⟨by simp only [stF, if_neg c1, if_pos c8, if_neg c21], N1, rfl⟩ (by decide) (by decide)
    · skip
      refine Goes.go (fun _ kk => XS.icmpNo X0.here hx rfl (hb hby d1_8) rfl (XT.ii_lt_f c8) kk) ?_
      show Goes _ _ _ _ _ _ _ (s₁.setTop (mkF m 11 _ []))
      refine Goes.go (fun _ kk => XS.iloadN X0.here hx rfl (hb hby d1_11) rfl kk) ?_
      show Goes _ _ _ _ _ _ _ (s₁.setTop (mkF m 12 _ [(.int i)]))
      exact Goes.outI X0 hx hlk hret (hb hby d1_12) e0 ⟨by simp only [stF, if_neg c1, if_neg c8], N0, rfl⟩ (by decide) (by decide)
theorem d3_0 : decode prog_56_method_10_code 0 = .ok (.iconst 0, 1) := by decide +kernel
theorem d3_1 : decode prog_56_method_10_code 1 = .ok (.istore_n 1, 1) := by decide +kernel
theorem d3_2 : decode prog_56_method_10_code 2 = .ok (.iload_n 1, 1) := by decide +kernel
theorem d3_3 : decode prog_56_method_10_code 3 = .ok (.aload_n 0, 1) := by decide +kernel
theorem d3_4 : decode prog_56_method_10_code 4 = .ok (.arraylength, 1) := by decide +kernel
theorem d3_5 : decode prog_56_method_10_code 5 = .ok (.if_icmp .ge 242, 3) := by decide +kernel
theorem d3_8 : decode prog_56_method_10_code 8 = .ok (.aload_n 0, 1) := by decide +kernel
theorem d3_9 : decode prog_56_method_10_code 9 = .ok (.iload_n 1, 1) := by decide +kernel
theorem d3_10 : decode prog_56_method_10_code 10 = .ok (.baload, 1) := by decide +kernel
theorem d3_11 : decode prog_56_method_10_code 11 = .ok (.sipush 255, 3) := by decide +kernel
theorem d3_14 : decode prog_56_method_10_code 14 = .ok (.iand, 1) := by decide +kernel
theorem d3_15 : decode prog_56_method_10_code 15 = .ok (.istore_n 2, 1) := by decide +kernel
theorem d3_16 : decode prog_56_method_10_code 16 = .ok (.iload_n 2, 1) := by decide +kernel
theorem d3_17 : decode prog_56_method_10_code 17 = .ok (.sipush 128, 3) := by decide +kernel
theorem d3_20 : decode prog_56_method_10_code 20 = .ok (.if_icmp .ge 9, 3) := by decide +kernel
theorem d3_23 : decode prog_56_method_10_code 23 = .ok (.iinc 1 1, 3) := by decide +kernel
theorem d3_26 : decode prog_56_method_10_code 26 = .ok (.goto (-24), 3) := by decide +kernel
theorem d3_29 : decode prog_56_method_10_code 29 = .ok (.sipush 128, 3) := by decide +kernel
theorem d3_32 : decode prog_56_method_10_code 32 = .ok (.istore 4, 2) := by decide +kernel
theorem d3_34 : decode prog_56_method_10_code 34 = .ok (.sipush 191, 3) := by decide +kernel
theorem d3_37 : decode prog_56_method_10_code 37 = .ok (.istore 5, 2) := by decide +kernel
theorem d3_39 : decode prog_56_method_10_code 39 = .ok (.iload_n 2, 1) := by decide +kernel
theorem d3_40 : decode prog_56_method_10_code 40 = .ok (.sipush 194, 3) := by decide +kernel
theorem d3_43 : decode prog_56_method_10_code 43 = .ok (.if_icmp .lt 15, 3) := by decide +kernel
theorem d3_46 : decode prog_56_method_10_code 46 = .ok (.iload_n 2, 1) := by decide +kernel
theorem d3_47 : decode prog_56_method_10_code 47 = .ok (.sipush 223, 3) := by decide +kernel
theorem d3_50 : decode prog_56_method_10_code 50 = .ok (.if_icmp .gt 8, 3) := by decide +kernel
theorem d3_53 : decode prog_56_method_10_code 53 = .ok (.iconst 1, 1) := by decide +kernel
theorem d3_54 : decode prog_56_method_10_code 54 = .ok (.istore_n 3, 1) := by decide +kernel
theorem d3_55 : decode prog_56_method_10_code 55 = .ok (.goto 111, 3) := by decide +kernel
theorem d3_58 : decode prog_56_method_10_code 58 = .ok (.iload_n 2, 1) := by decide +kernel
theorem d3_59 : decode prog_56_method_10_code 59 = .ok (.sipush 224, 3) := by decide +kernel
theorem d3_62 : decode prog_56_method_10_code 62 = .ok (.if_icmp .lt 49, 3) := by decide +kernel
theorem d3_65 : decode prog_56_method_10_code 65 = .ok (.iload_n 2, 1) := by decide +kernel
theorem d3_66 : decode prog_56_method_10_code 66 = .ok (.sipush 239, 3) := by decide +kernel
theorem d3_69 : decode prog_56_method_10_code 69 = .ok (.if_icmp .gt 42, 3) := by decide +kernel
theorem d3_72 : decode prog_56_method_10_code 72 = .ok (.iconst 2, 1) := by decide +kernel
theorem d3_73 : decode prog_56_method_10_code 73 = .ok (.istore_n 3, 1) := by decide +kernel
theorem d3_74 : decode prog_56_method_10_code 74 = .ok (.iload_n 2, 1) := by decide +kernel
theorem d3_75 : decode prog_56_method_10_code 75 = .ok (.sipush 224, 3) := by decide +kernel
theorem d3_78 : decode prog_56_method_10_code 78 = .ok (.if_icmp .ne 9, 3) := by decide +kernel
theorem d3_81 : decode prog_56_method_10_code 81 = .ok (.sipush 160, 3) := by decide +kernel
theorem d3_84 : decode prog_56_method_10_code 84 = .ok (.goto 5, 3) := by decide +kernel
theorem d3_87 : decode prog_56_method_10_code 87 = .ok (.iload 4, 2) := by decide +kernel
theorem d3_89 : decode prog_56_method_10_code 89 = .ok (.istore 4, 2) := by decide +kernel
theorem d3_91 : decode prog_56_method_10_code 91 = .ok (.iload_n 2, 1) := by decide +kernel
theorem d3_92 : decode prog_56_method_10_code 92 = .ok (.sipush 237, 3) := by decide +kernel
theorem d3_95 : decode prog_56_method_10_code 95 = .ok (.if_icmp .ne 9, 3) := by decide +kernel
theorem d3_98 : decode prog_56_method_10_code 98 = .ok (.sipush 159, 3) := by decide +kernel
theorem d3_101 : decode prog_56_method_10_code 101 = .ok (.goto 5, 3) := by decide +kernel
theorem d3_104 : decode prog_56_method_10_code 104 = .ok (.iload 5, 2) := by decide +kernel
theorem d3_106 : decode prog_56_method_10_code 106 = .ok (.istore 5, 2) := by decide +kernel
theorem d3_108 : decode prog_56_method_10_code 108 = .ok (.goto 58, 3) := by decide +kernel
theorem d3_111 : decode prog_56_method_10_code 111 = .ok (.iload_n 2, 1) := by decide +kernel
theorem d3_112 : decode prog_56_method_10_code 112 = .ok (.sipush 240, 3) := by decide +kernel
theorem d3_115 : decode prog_56_method_10_code 115 = .ok (.if_icmp .lt 49, 3) := by decide +kernel
theorem d3_118 : decode prog_56_method_10_code 118 = .ok (.iload_n 2, 1) := by decide +kernel
theorem d3_119 : decode prog_56_method_10_code 119 = .ok (.sipush 244, 3) := by decide +kernel
theorem d3_122 : decode prog_56_method_10_code 122 = .ok (.if_icmp .gt 42, 3) := by decide +kernel
theorem d3_125 : decode prog_56_method_10_code 125 = .ok (.iconst 3, 1) := by decide +kernel
theorem d3_126 : decode prog_56_method_10_code 126 = .ok (.istore_n 3, 1) := by decide +kernel
theorem d3_127 : decode prog_56_method_10_code 127 = .ok (.iload_n 2, 1) := by decide +kernel
theorem d3_128 : decode prog_56_method_10_code 128 = .ok (.sipush 240, 3) := by decide +kernel
theorem d3_131 : decode prog_56_method_10_code 131 = .ok (.if_icmp .ne 9, 3) := by decide +kernel
theorem d3_134 : decode prog_56_method_10_code 134 = .ok (.sipush 144, 3) := by decide +kernel
theorem d3_137 : decode prog_56_method_10_code 137 = .ok (.goto 5, 3) := by decide +kernel
theorem d3_140 : decode prog_56_method_10_code 140 = .ok (.iload 4, 2) := by decide +kernel
theorem d3_142 : decode prog_56_method_10_code 142 = .ok (.istore 4, 2) := by decide +kernel
theorem d3_144 : decode prog_56_method_10_code 144 = .ok (.iload_n 2, 1) := by decide +kernel
theorem d3_145 : decode prog_56_method_10_code 145 = .ok (.sipush 244, 3) := by decide +kernel
theorem d3_148 : decode prog_56_method_10_code 148 = .ok (.if_icmp .ne 9, 3) := by decide +kernel
theorem d3_151 : decode prog_56_method_10_code 151 = .ok (.sipush 143, 3) := by decide +kernel
theorem d3_154 : decode prog_56_method_10_code 154 = .ok (.goto 5, 3) := by decide +kernel
theorem d3_157 : decode prog_56_method_10_code 157 = .ok (.iload 5, 2) := by decide +kernel
theorem d3_159 : decode prog_56_method_10_code 159 = .ok (.istore 5, 2) := by decide +kernel
theorem d3_161 : decode prog_56_method_10_code 161 = .ok (.goto 5, 3) := by decide +kernel
theorem d3_164 : decode prog_56_method_10_code 164 = .ok (.iconst 0, 1) := by decide +kernel
theorem d3_165 : decode prog_56_method_10_code 165 = .ok (.ireturn, 1) := by decide +kernel
theorem d3_166 : decode prog_56_method_10_code 166 = .ok (.aload_n 0, 1) := by decide +kernel
theorem d3_167 : decode prog_56_method_10_code 167 = .ok (.arraylength, 1) := by decide +kernel
theorem d3_168 : decode prog_56_method_10_code 168 = .ok (.iload_n 1, 1) := by decide +kernel
theorem d3_169 : decode prog_56_method_10_code 169 = .ok (.isub, 1) := by decide +kernel
theorem d3_170 : decode prog_56_method_10_code 170 = .ok (.iload_n 3, 1) := by decide +kernel
theorem d3_171 : decode prog_56_method_10_code 171 = .ok (.if_icmp .gt 5, 3) := by decide +kernel
theorem d3_174 : decode prog_56_method_10_code 174 = .ok (.iconst 0, 1) := by decide +kernel
theorem d3_175 : decode prog_56_method_10_code 175 = .ok (.ireturn, 1) := by decide +kernel
theorem d3_176 : decode prog_56_method_10_code 176 = .ok (.aload_n 0, 1) := by decide +kernel
theorem d3_177 : decode prog_56_method_10_code 177 = .ok (.iload_n 1, 1) := by decide +kernel
theorem d3_178 : decode prog_56_method_10_code 178 = .ok (.iconst 1, 1) := by decide +kernel
theorem d3_179 : decode prog_56_method_10_code 179 = .ok (.iadd, 1) := by decide +kernel
theorem d3_180 : decode prog_56_method_10_code 180 = .ok (.baload, 1) := by decide +kernel
theorem d3_181 : decode prog_56_method_10_code 181 = .ok (.sipush 255, 3) := by decide +kernel
theorem d3_184 : decode prog_56_method_10_code 184 = .ok (.iand, 1) := by decide +kernel
theorem d3_185 : decode prog_56_method_10_code 185 = .ok (.istore 6, 2) := by decide +kernel
theorem d3_187 : decode prog_56_method_10_code 187 = .ok (.iload 6, 2) := by decide +kernel
theorem d3_189 : decode prog_56_method_10_code 189 = .ok (.iload 4, 2) := by decide +kernel
theorem d3_191 : decode prog_56_method_10_code 191 = .ok (.if_icmp .lt 10, 3) := by decide +kernel
theorem d3_194 : decode prog_56_method_10_code 194 = .ok (.iload 6, 2) := by decide +kernel
theorem d3_196 : decode prog_56_method_10_code 196 = .ok (.iload 5, 2) := by decide +kernel
theorem d3_198 : decode prog_56_method_10_code 198 = .ok (.if_icmp .le 5, 3) := by decide +kernel
theorem d3_201 : decode prog_56_method_10_code 201 = .ok (.iconst 0, 1) := by decide +kernel
theorem d3_202 : decode prog_56_method_10_code 202 = .ok (.ireturn, 1) := by decide +kernel
theorem d3_203 : decode prog_56_method_10_code 203 = .ok (.iload_n 1, 1) := by decide +kernel
theorem d3_204 : decode prog_56_method_10_code 204 = .ok (.iconst 2, 1) := by decide +kernel
theorem d3_205 : decode prog_56_method_10_code 205 = .ok (.iadd, 1) := by decide +kernel
theorem d3_206 : decode prog_56_method_10_code 206 = .ok (.istore 7, 2) := by decide +kernel
theorem d3_208 : decode prog_56_method_10_code 208 = .ok (.iload 7, 2) := by decide +kernel
theorem d3_210 : decode prog_56_method_10_code 210 = .ok (.iload_n 1, 1) := by decide +kernel
theorem d3_211 : decode prog_56_method_10_code 211 = .ok (.iload_n 3, 1) := by decide +kernel
theorem d3_212 : decode prog_56_method_10_code 212 = .ok (.iadd, 1) := by decide +kernel
theorem d3_213 : decode prog_56_method_10_code 213 = .ok (.if_icmp .gt 25, 3) := by decide +kernel
theorem d3_216 : decode prog_56_method_10_code 216 = .ok (.aload_n 0, 1) := by decide +kernel
theorem d3_217 : decode prog_56_method_10_code 217 = .ok (.iload 7, 2) := by decide +kernel
theorem d3_219 : decode prog_56_method_10_code 219 = .ok (.baload, 1) := by decide +kernel
theorem d3_220 : decode prog_56_method_10_code 220 = .ok (.sipush 192, 3) := by decide +kernel
theorem d3_223 : decode prog_56_method_10_code 223 = .ok (.iand, 1) := by decide +kernel
theorem d3_224 : decode prog_56_method_10_code 224 = .ok (.sipush 128, 3) := by decide +kernel
theorem d3_227 : decode prog_56_method_10_code 227 = .ok (.if_icmp .eq 5, 3) := by decide +kernel
theorem d3_230 : decode prog_56_method_10_code 230 = .ok (.iconst 0, 1) := by decide +kernel
theorem d3_231 : decode prog_56_method_10_code 231 = .ok (.ireturn, 1) := by decide +kernel
theorem d3_232 : decode prog_56_method_10_code 232 = .ok (.iinc 7 1, 3) := by decide +kernel
theorem d3_235 : decode prog_56_method_10_code 235 = .ok (.goto (-27), 3) := by decide +kernel
theorem d3_238 : decode prog_56_method_10_code 238 = .ok (.iload_n 1, 1) := by decide +kernel
theorem d3_239 : decode prog_56_method_10_code 239 = .ok (.iconst 1, 1) := by decide +kernel
theorem d3_240 : decode prog_56_method_10_code 240 = .ok (.iload_n 3, 1) := by decide +kernel
theorem d3_241 : decode prog_56_method_10_code 241 = .ok (.iadd, 1) := by decide +kernel
theorem d3_242 : decode prog_56_method_10_code 242 = .ok (.iadd, 1) := by decide +kernel
theorem d3_243 : decode prog_56_method_10_code 243 = .ok (.istore_n 1, 1) := by decide +kernel
theorem d3_244 : decode prog_56_method_10_code 244 = .ok (.goto (-242), 3) := by decide +kernel
theorem d3_247 : decode prog_56_method_10_code 247 = .ok (.iconst 1, 1) := by decide +kernel
theorem d3_248 : decode prog_56_method_10_code 248 = .ok (.ireturn, 1) := by decide +kernel
set_option maxRecDepth 65536 in
set_option maxHeartbeats 40000000 in
theorem lp2 {p : Program} {l : Launch} {e : Env} {s : State} {m : MethodId} {args : Array Value} {below : List Frame} {meth : Method} {c : Code} {Q : Option Value → Heap → List Loc → Prop} {Z : State} {a0 : Array Value} (hw : ∀ d ∈ tables_1, d.before a0 Z = true) (hx : p.tables.exec = Jvm.exec) (hby : c.code = prog_56_method_10_code) (hml : c.maxLocals = 8) (hown : s.vm.findClass "com/example/wide_schema/wideschema/model/NativeType" = some m.cls) (hnm : meth.name = "isUtf8") (hlk : meth.locks = false) (hret : meth.sig.returnType = (some .boolean)) (hZ : Z.Warmed39 s.vm) (n0 : Nat) (bb : Addr) (n : Int32) (N : Nat) (u : List Int32) {T : State} {locs : List Loc} {h0 : Heap} (Z0 : n0 ≤ h0.size) (X0 : Stand p l e ({ frames := 0, cells := 0, slots := 0, locals := 0 } : Room) s m args below meth c T locs 0 0) (e0 : T.heap = h0) (N0 : Fr n0 locs) (A0 : Arl Z h0 bb .byte (List.map (fun x : Int32 => Value.int x.toInt8.toInt32) (u.take N))) (hl : u.length = 8) (hnN : n.toInt = N) (hN8 : N ≤ 8) (hB : ∀ j, isB (gi u j)) (hln : (List.map (fun x : Int32 => Value.int x.toInt8.toInt32) (u.take N)).length.toInt32 = n) (k : Nat) :
    ∀ (i : Int32) (o2 o3 o4 o5 o6 o7 : Slot) (q2 : One o2) (q3 : One o3) (q4 : One o4) (q5 : One o5) (q6 : One o6) (q7 : One o7) (hi0 : 0 ≤ i.toInt) (hin : i.toInt ≤ n.toInt) (hk : n.toInt - i.toInt ≤ k) (hQ : ∀ L, Fr n0 L → Q (some (.int (UF u n k i))) h0 L), Goes p e below s Q 0 0 (T.setTop (mkF m 2 #[.val (.ref bb), .val (.int i), o2, o3, o4, o5, o6, o7] [])) := by
  induction k with
  | zero =>
    intro i o2 o3 o4 o5 o6 o7 q2 q3 q4 q5 q6 q7 hi0 hin hk hQ
    have hge : ¬ i < n := fun q => by have := Int32.lt_iff_toInt_lt.mp q; omega
    show Goes _ _ _ _ _ _ _ (T.setTop (mkF m 2 #[.val (.ref bb), .val (.int i), o2, o3, o4, o5, o6, o7] []))
    refine Goes.go (fun _ kk => XS.iloadN X0.here hx rfl (hb hby d3_2) rfl kk) ?_
    show Goes _ _ _ _ _ _ _ (T.setTop (mkF m 3 _ [(.int i)]))
    refine Goes.go (fun _ kk => XS.aloadN X0.here hx rfl (hb hby d3_3) rfl rfl kk) ?_
    show Goes _ _ _ _ _ _ _ (T.setTop (mkF m 4 _ [(.ref bb), (.int i)]))
    refine Goes.go (own_len X0 hx hZ e0 A0 (n := n) hln rfl rfl (hb hby d3_4)) ?_
    show Goes _ _ _ _ _ _ _ (T.setTop (mkF m 5 _ [(.int n), (.int i)]))
    refine Goes.go (fun _ kk => XS.icmpYes X0.here hx rfl (pc0 := 5) (pc' := 247) rfl (hb hby d3_5) rfl (XT.ii_ge_t hge) (by decide) (by decide) kk) ?_
    show Goes _ _ _ _ _ _ _ (T.setTop (mkF m 247 _ []))
    refine Goes.go (fun _ kk => XS.iconst X0.here hx rfl (hb hby d3_247) kk) ?_
    show Goes _ _ _ _ _ _ _ (T.setTop (mkF m 248 _ [(.int (1 : Int32))]))
    exact Goes.outZ X0 hx hlk hret rfl (hb hby d3_248) e0 (hQ _ N0) (by decide) (by decide)
  | succ k ih =>
    intro i o2 o3 o4 o5 o6 o7 q2 q3 q4 q5 q6 q7 hi0 hin hk hQ
    show Goes _ _ _ _ _ _ _ (T.setTop (mkF m 2 #[.val (.ref bb), .val (.int i), o2, o3, o4, o5, o6, o7] []))
    refine Goes.go (fun _ kk => XS.iloadN X0.here hx rfl (hb hby d3_2) rfl kk) ?_
    show Goes _ _ _ _ _ _ _ (T.setTop (mkF m 3 _ [(.int i)]))
    refine Goes.go (fun _ kk => XS.aloadN X0.here hx rfl (hb hby d3_3) rfl rfl kk) ?_
    show Goes _ _ _ _ _ _ _ (T.setTop (mkF m 4 _ [(.ref bb), (.int i)]))
    refine Goes.go (own_len X0 hx hZ e0 A0 (n := n) hln rfl rfl (hb hby d3_4)) ?_
    show Goes _ _ _ _ _ _ _ (T.setTop (mkF m 5 _ [(.int n), (.int i)]))
    by_cases c5 : i < n
    · skip
      refine Goes.go (fun _ kk => XS.icmpNo X0.here hx rfl (hb hby d3_5) rfl (XT.ii_ge_f c5) kk) ?_
      show Goes _ _ _ _ _ _ _ (T.setTop (mkF m 8 _ []))
      have hlt : i.toInt < n.toInt := Int32.lt_iff_toInt_lt.mp c5
      refine Goes.go (fun _ kk => XS.aloadN X0.here hx rfl (hb hby d3_8) rfl rfl kk) ?_
      show Goes _ _ _ _ _ _ _ (T.setTop (mkF m 9 _ [(.ref bb)]))
      refine Goes.go (fun _ kk => XS.iloadN X0.here hx rfl (hb hby d3_9) rfl kk) ?_
      show Goes _ _ _ _ _ _ _ (T.setTop (mkF m 10 _ [(.int i), (.ref bb)]))
      refine Goes.go (own_ldB X0 hx hZ e0 A0 (j := i) (v := (.int ((gi u i)).toInt8.toInt32)) (gi_take (f := (fun x : Int32 => Value.int x.toInt8.toInt32)) hl hN8 (by omega) (by omega)).1 (gi_take (f := (fun x : Int32 => Value.int x.toInt8.toInt32)) hl hN8 (by omega) (by omega)).2 rfl rfl (hb hby d3_10)) ?_
      show Goes _ _ _ _ _ _ _ (T.setTop (mkF m 11 _ [(.int ((gi u i)).toInt8.toInt32)]))
      refine Goes.go (fun _ kk => XS.sipush X0.here hx rfl (hb hby d3_11) kk) ?_
      show Goes _ _ _ _ _ _ _ (T.setTop (mkF m 14 _ [(.int (255 : Int32)), (.int ((gi u i)).toInt8.toInt32)]))
      refine Goes.go (fun _ kk => XS.iand X0.here hx rfl (hb hby d3_14) rfl kk) ?_
      show Goes _ _ _ _ _ _ _ (T.setTop (mkF m 15 _ [(.int (((gi u i)).toInt8.toInt32 &&& (255 : Int32)))]))
      rw [(m5 (hB _)).1]
      show Goes _ _ _ _ _ _ _ (T.setTop (mkF m 15 _ [(.int (gi u i))]))
      refine Goes.go (fun _ kk => XS.istoreNS X0.here hx rfl (hb hby d3_15) rfl rfl q2 kk) ?_
      show Goes _ _ _ _ _ _ _ (T.setTop (mkF m 16 #[.val (.ref bb), .val (.int i), .val (.int (gi u i)), o3, o4, o5, o6, o7] []))
      refine Goes.go (fun _ kk => XS.iloadN X0.here hx rfl (hb hby d3_16) rfl kk) ?_
      show Goes _ _ _ _ _ _ _ (T.setTop (mkF m 17 _ [(.int (gi u i))]))
      refine Goes.go (fun _ kk => XS.sipush X0.here hx rfl (hb hby d3_17) kk) ?_
      show Goes _ _ _ _ _ _ _ (T.setTop (mkF m 20 _ [(.int (128 : Int32)), (.int (gi u i))]))
      by_cases c20 : (gi u i) < (128 : Int32)
      · skip
        refine Goes.go (fun _ kk => XS.icmpNo X0.here hx rfl (hb hby d3_20) rfl (XT.ii_ge_f c20) kk) ?_
        show Goes _ _ _ _ _ _ _ (T.setTop (mkF m 23 _ []))
        refine Goes.go (fun _ kk => XT.iincV X0.here hx rfl (1 : Int32) (hb hby d3_23) rfl rfl (l' := #[.val (.ref bb), .val (.int (i + (1 : Int32))), .val (.int (gi u i)), o3, o4, o5, o6, o7]) rfl kk) ?_
        show Goes _ _ _ _ _ _ _ (T.setTop (mkF m 26 #[.val (.ref bb), .val (.int (i + (1 : Int32))), .val (.int (gi u i)), o3, o4, o5, o6, o7] []))
        refine Goes.go (fun _ kk => XS.goto X0.here hx rfl (pc0 := 26) (pc' := 2) rfl (hb hby d3_26) (by decide) (by decide) kk) ?_
        show Goes _ _ _ _ _ _ _ (T.setTop (mkF m 2 _ []))
        have hut : utF u n i = 1 := by simp only [utF, ut2, ut3, ck1, ck2, ck3, if_pos c5, if_pos c20]
        have hu : UF u n (k + 1) i = UF u n k (i + (1 : Int32)) := by
          show (if i < n then (if utF u n i = 0 then 0 else UF u n k (i + utF u n i)) else 1) = _
          rw [if_pos c5, hut, if_neg (by decide)]
        rw [hu] at hQ
        have a1 : (i + (1 : Int32)).toInt = i.toInt + 1 := own_ad (by decide) hi0 (by omega) (by decide) (by decide)
        exact ih _ _ _ _ _ _ _ (One.val rfl) q3 q4 q5 q6 q7 (by omega) (by omega) (by omega) hQ
      · skip
        refine Goes.go (fun _ kk => XS.icmpYes X0.here hx rfl (pc0 := 20) (pc' := 29) rfl (hb hby d3_20) rfl (XT.ii_ge_t c20) (by decide) (by decide) kk) ?_
        show Goes _ _ _ _ _ _ _ (T.setTop (mkF m 29 _ []))
        refine Goes.go (fun _ kk => XS.sipush X0.here hx rfl (hb hby d3_29) kk) ?_
        show Goes _ _ _ _ _ _ _ (T.setTop (mkF m 32 _ [(.int (128 : Int32))]))
        refine Goes.go (fun _ kk => XS.istoreS X0.here hx rfl (hb hby d3_32) rfl rfl q4 kk) ?_
        show Goes _ _ _ _ _ _ _ (T.setTop (mkF m 34 #[.val (.ref bb), .val (.int i), .val (.int (gi u i)), o3, .val (.int (128 : Int32)), o5, o6, o7] []))
        refine Goes.go (fun _ kk => XS.sipush X0.here hx rfl (hb hby d3_34) kk) ?_
        show Goes _ _ _ _ _ _ _ (T.setTop (mkF m 37 _ [(.int (191 : Int32))]))
        refine Goes.go (fun _ kk => XS.istoreS X0.here hx rfl (hb hby d3_37) rfl rfl q5 kk) ?_
        show Goes _ _ _ _ _ _ _ (T.setTop (mkF m 39 #[.val (.ref bb), .val (.int i), .val (.int (gi u i)), o3, .val (.int (128 : Int32)), .val (.int (191 : Int32)), o6, o7] []))
        refine Goes.go (fun _ kk => XS.iloadN X0.here hx rfl (hb hby d3_39) rfl kk) ?_
        show Goes _ _ _ _ _ _ _ (T.setTop (mkF m 40 _ [(.int (gi u i))]))
        refine Goes.go (fun _ kk => XS.sipush X0.here hx rfl (hb hby d3_40) kk) ?_
        show Goes _ _ _ _ _ _ _ (T.setTop (mkF m 43 _ [(.int (194 : Int32)), (.int (gi u i))]))
        by_cases c43 : (gi u i) < (194 : Int32)
        · skip
          refine Goes.go (fun _ kk => XS.icmpYes X0.here hx rfl (pc0 := 43) (pc' := 58) rfl (hb hby d3_43) rfl (XT.ii_lt_t c43) (by decide) (by decide) kk) ?_
          show Goes _ _ _ _ _ _ _ (T.setTop (mkF m 58 _ []))
          refine Goes.go (fun _ kk => XS.iloadN X0.here hx rfl (hb hby d3_58) rfl kk) ?_
          show Goes _ _ _ _ _ _ _ (T.setTop (mkF m 59 _ [(.int (gi u i))]))
          refine Goes.go (fun _ kk => XS.sipush X0.here hx rfl (hb hby d3_59) kk) ?_
          show Goes _ _ _ _ _ _ _ (T.setTop (mkF m 62 _ [(.int (224 : Int32)), (.int (gi u i))]))
          have c62 : (gi u i) < (224 : Int32) := by
            simp only [own_ieq, Int32.lt_iff_toInt_lt, Int32.reduceToInt] at c43 ⊢
            omega
          refine Goes.go (fun _ kk => XS.icmpYes X0.here hx rfl (pc0 := 62) (pc' := 111) rfl (hb hby d3_62) rfl (XT.ii_lt_t c62) (by decide) (by decide) kk) ?_
          show Goes _ _ _ _ _ _ _ (T.setTop (mkF m 111 _ []))
          refine Goes.go (fun _ kk => XS.iloadN X0.here hx rfl (hb hby d3_111) rfl kk) ?_
          show Goes _ _ _ _ _ _ _ (T.setTop (mkF m 112 _ [(.int (gi u i))]))
          refine Goes.go (fun _ kk => XS.sipush X0.here hx rfl (hb hby d3_112) kk) ?_
          show Goes _ _ _ _ _ _ _ (T.setTop (mkF m 115 _ [(.int (240 : Int32)), (.int (gi u i))]))
          have c115 : (gi u i) < (240 : Int32) := by
            simp only [own_ieq, Int32.lt_iff_toInt_lt, Int32.reduceToInt] at c62 ⊢
            omega
          refine Goes.go (fun _ kk => XS.icmpYes X0.here hx rfl (pc0 := 115) (pc' := 164) rfl (hb hby d3_115) rfl (XT.ii_lt_t c115) (by decide) (by decide) kk) ?_
          show Goes _ _ _ _ _ _ _ (T.setTop (mkF m 164 _ []))
          refine Goes.go (fun _ kk => XS.iconst X0.here hx rfl (hb hby d3_164) kk) ?_
          show Goes _ _ _ _ _ _ _ (T.setTop (mkF m 165 _ [(.int (0 : Int32))]))
          have hut : utF u n i = 0 := by simp only [utF, ut2, ut3, ck1, ck2, ck3, if_pos c5, if_neg c20, if_pos c43, if_pos c62, if_pos c115]
          have hu : UF u n (k + 1) i = 0 := by
            show (if i < n then (if utF u n i = 0 then 0 else UF u n k (i + utF u n i)) else 1) = _
            rw [if_pos c5, hut, if_pos rfl]
          rw [hu] at hQ
          exact Goes.outZ X0 hx hlk hret rfl (hb hby d3_165) e0 (hQ _ N0) (by decide) (by decide)
        · skip
          refine Goes.go (fun _ kk => XS.icmpNo X0.here hx rfl (hb hby d3_43) rfl (XT.ii_lt_f c43) kk) ?_
          show Goes _ _ _ _ _ _ _ (T.setTop (mkF m 46 _ []))
          refine Goes.go (fun _ kk => XS.iloadN X0.here hx rfl (hb hby d3_46) rfl kk) ?_
          show Goes _ _ _ _ _ _ _ (T.setTop (mkF m 47 _ [(.int (gi u i))]))
          refine Goes.go (fun _ kk => XS.sipush X0.here hx rfl (hb hby d3_47) kk) ?_
          show Goes _ _ _ _ _ _ _ (T.setTop (mkF m 50 _ [(.int (223 : Int32)), (.int (gi u i))]))
          by_cases c50 : (223 : Int32) < (gi u i)
          · skip
            refine Goes.go (fun _ kk => XS.icmpYes X0.here hx rfl (pc0 := 50) (pc' := 58) rfl (hb hby d3_50) rfl (XT.ii_gt_t c50) (by decide) (by decide) kk) ?_
            show Goes _ _ _ _ _ _ _ (T.setTop (mkF m 58 _ []))
            refine Goes.go (fun _ kk => XS.iloadN X0.here hx rfl (hb hby d3_58) rfl kk) ?_
            show Goes _ _ _ _ _ _ _ (T.setTop (mkF m 59 _ [(.int (gi u i))]))
            refine Goes.go (fun _ kk => XS.sipush X0.here hx rfl (hb hby d3_59) kk) ?_
            show Goes _ _ _ _ _ _ _ (T.setTop (mkF m 62 _ [(.int (224 : Int32)), (.int (gi u i))]))
            have c62 : ¬ (gi u i) < (224 : Int32) := by
              simp only [own_ieq, Int32.lt_iff_toInt_lt, Int32.reduceToInt] at c50 ⊢
              omega
            refine Goes.go (fun _ kk => XS.icmpNo X0.here hx rfl (hb hby d3_62) rfl (XT.ii_lt_f c62) kk) ?_
            show Goes _ _ _ _ _ _ _ (T.setTop (mkF m 65 _ []))
            refine Goes.go (fun _ kk => XS.iloadN X0.here hx rfl (hb hby d3_65) rfl kk) ?_
            show Goes _ _ _ _ _ _ _ (T.setTop (mkF m 66 _ [(.int (gi u i))]))
            refine Goes.go (fun _ kk => XS.sipush X0.here hx rfl (hb hby d3_66) kk) ?_
            show Goes _ _ _ _ _ _ _ (T.setTop (mkF m 69 _ [(.int (239 : Int32)), (.int (gi u i))]))
            by_cases c69 : (239 : Int32) < (gi u i)
            · skip
              refine Goes.go (fun _ kk => XS.icmpYes X0.here hx rfl (pc0 := 69) (pc' := 111) rfl (hb hby d3_69) rfl (XT.ii_gt_t c69) (by decide) (by decide) kk) ?_
              show Goes _ _ _ _ _ _ _ (T.setTop (mkF m 111 _ []))
              refine Goes.go (fun _ kk => XS.iloadN X0.here hx rfl (hb hby d3_111) rfl kk) ?_
              show Goes _ _ _ _ _ _ _ (T.setTop (mkF m 112 _ [(.int (gi u i))]))
              refine Goes.go (fun _ kk => XS.sipush X0.here hx rfl (hb hby d3_112) kk) ?_
              show Goes _ _ _ _ _ _ _ (T.setTop (mkF m 115 _ [(.int (240 : Int32)), (.int (gi u i))]))
              have c115 : ¬ (gi u i) < (240 : Int32) := by
                simp only [own_ieq, Int32.lt_iff_toInt_lt, Int32.reduceToInt] at c69 ⊢
                omega
              refine Goes.go (fun _ kk => XS.icmpNo X0.here hx rfl (hb hby d3_115) rfl (XT.ii_lt_f c115) kk) ?_
              show Goes _ _ _ _ _ _ _ (T.setTop (mkF m 118 _ []))
              refine Goes.go (fun _ kk => XS.iloadN X0.here hx rfl (hb hby d3_118) rfl kk) ?_
              show Goes _ _ _ _ _ _ _ (T.setTop (mkF m 119 _ [(.int (gi u i))]))
              refine Goes.go (fun _ kk => XS.sipush X0.here hx rfl (hb hby d3_119) kk) ?_
              show Goes _ _ _ _ _ _ _ (T.setTop (mkF m 122 _ [(.int (244 : Int32)), (.int (gi u i))]))
              by_cases c122 : (244 : Int32) < (gi u i)
              · skip
                refine Goes.go (fun _ kk => XS.icmpYes X0.here hx rfl (pc0 := 122) (pc' := 164) rfl (hb hby d3_122) rfl (XT.ii_gt_t c122) (by decide) (by decide) kk) ?_
                show Goes _ _ _ _ _ _ _ (T.setTop (mkF m 164 _ []))
                refine Goes.go (fun _ kk => XS.iconst X0.here hx rfl (hb hby d3_164) kk) ?_
                show Goes _ _ _ _ _ _ _ (T.setTop (mkF m 165 _ [(.int (0 : Int32))]))
                have hut : utF u n i = 0 := by simp only [utF, ut2, ut3, ck1, ck2, ck3, if_pos c5, if_neg c20, if_neg c43, if_pos c50, if_neg c62, if_pos c69, if_neg c115, if_pos c122]
                have hu : UF u n (k + 1) i = 0 := by
                  show (if i < n then (if utF u n i = 0 then 0 else UF u n k (i + utF u n i)) else 1) = _
                  rw [if_pos c5, hut, if_pos rfl]
                rw [hu] at hQ
                exact Goes.outZ X0 hx hlk hret rfl (hb hby d3_165) e0 (hQ _ N0) (by decide) (by decide)
              · skip
                refine Goes.go (fun _ kk => XS.icmpNo X0.here hx rfl (hb hby d3_122) rfl (XT.ii_gt_f c122) kk) ?_
                show Goes _ _ _ _ _ _ _ (T.setTop (mkF m 125 _ []))
                refine Goes.go (fun _ kk => XS.iconst X0.here hx rfl (hb hby d3_125) kk) ?_
                show Goes _ _ _ _ _ _ _ (T.setTop (mkF m 126 _ [(.int (3 : Int32))]))
                refine Goes.go (fun _ kk => XS.istoreNS X0.here hx rfl (hb hby d3_126) rfl rfl q3 kk) ?_
                show Goes _ _ _ _ _ _ _ (T.setTop (mkF m 127 #[.val (.ref bb), .val (.int i), .val (.int (gi u i)), .val (.int (3 : Int32)), .val (.int (128 : Int32)), .val (.int (191 : Int32)), o6, o7] []))
                refine Goes.go (fun _ kk => XS.iloadN X0.here hx rfl (hb hby d3_127) rfl kk) ?_
                show Goes _ _ _ _ _ _ _ (T.setTop (mkF m 128 _ [(.int (gi u i))]))
                refine Goes.go (fun _ kk => XS.sipush X0.here hx rfl (hb hby d3_128) kk) ?_
                show Goes _ _ _ _ _ _ _ (T.setTop (mkF m 131 _ [(.int (240 : Int32)), (.int (gi u i))]))
                by_cases c131 : (gi u i) = (240 : Int32)
                · skip
                  refine Goes.go (fun _ kk => XS.icmpNo X0.here hx rfl (hb hby d3_131) rfl (XT.ii_ne_f c131) kk) ?_
                  show Goes _ _ _ _ _ _ _ (T.setTop (mkF m 134 _ []))
                  refine Goes.go (fun _ kk => XS.sipush X0.here hx rfl (hb hby d3_134) kk) ?_
                  show Goes _ _ _ _ _ _ _ (T.setTop (mkF m 137 _ [(.int (144 : Int32))]))
                  refine Goes.go (fun _ kk => XS.goto X0.here hx rfl (pc0 := 137) (pc' := 142) rfl (hb hby d3_137) (by decide) (by decide) kk) ?_
                  show Goes _ _ _ _ _ _ _ (T.setTop (mkF m 142 _ [(.int (144 : Int32))]))
                  refine Goes.go (fun _ kk => XS.istore X0.here hx rfl (hb hby d3_142) rfl (l' := #[.val (.ref bb), .val (.int i), .val (.int (gi u i)), .val (.int (3 : Int32)), .val (.int (144 : Int32)), .val (.int (191 : Int32)), o6, o7]) rfl kk) ?_
                  show Goes _ _ _ _ _ _ _ (T.setTop (mkF m 144 #[.val (.ref bb), .val (.int i), .val (.int (gi u i)), .val (.int (3 : Int32)), .val (.int (144 : Int32)), .val (.int (191 : Int32)), o6, o7] []))
                  refine Goes.go (fun _ kk => XS.iloadN X0.here hx rfl (hb hby d3_144) rfl kk) ?_
                  show Goes _ _ _ _ _ _ _ (T.setTop (mkF m 145 _ [(.int (gi u i))]))
                  refine Goes.go (fun _ kk => XS.sipush X0.here hx rfl (hb hby d3_145) kk) ?_
                  show Goes _ _ _ _ _ _ _ (T.setTop (mkF m 148 _ [(.int (244 : Int32)), (.int (gi u i))]))
                  have c148 : ¬ (gi u i) = (244 : Int32) := by
                    simp only [own_ieq, Int32.lt_iff_toInt_lt, Int32.reduceToInt] at c131 ⊢
                    omega
                  refine Goes.go (fun _ kk => XS.icmpYes X0.here hx rfl (pc0 := 148) (pc' := 157) rfl (hb hby d3_148) rfl (XT.ii_ne_t c148) (by decide) (by decide) kk) ?_
                  show Goes _ _ _ _ _ _ _ (T.setTop (mkF m 157 _ []))
                  refine Goes.go (fun _ kk => XS.iload X0.here hx rfl (hb hby d3_157) rfl kk) ?_
                  show Goes _ _ _ _ _ _ _ (T.setTop (mkF m 159 _ [(.int (191 : Int32))]))
                  refine Goes.go (fun _ kk => XS.istore X0.here hx rfl (hb hby d3_159) rfl (l' := #[.val (.ref bb), .val (.int i), .val (.int (gi u i)), .val (.int (3 : Int32)), .val (.int (144 : Int32)), .val (.int (191 : Int32)), o6, o7]) rfl kk) ?_
                  show Goes _ _ _ _ _ _ _ (T.setTop (mkF m 161 _ []))
                  refine Goes.go (fun _ kk => XS.goto X0.here hx rfl (pc0 := 161) (pc' := 166) rfl (hb hby d3_161) (by decide) (by decide) kk) ?_
                  show Goes _ _ _ _ _ _ _ (T.setTop (mkF m 166 _ []))
                  have a1 : (i + (1 : Int32)).toInt = i.toInt + 1 := own_ad (by decide) hi0 (by omega) (by decide) (by decide)
                  have a2 : (i + (2 : Int32)).toInt = i.toInt + 2 := own_ad (by decide) hi0 (by omega) (by decide) (by decide)
                  have a3 : (i + (3 : Int32)).toInt = i.toInt + 3 := own_ad (by decide) hi0 (by omega) (by decide) (by decide)
                  have a4 : (i + (4 : Int32)).toInt = i.toInt + 4 := own_ad (by decide) hi0 (by omega) (by decide) (by decide)
                  have sb := own_sb hi0 (by omega) (by omega : 0 ≤ n.toInt) (by omega)
                  refine Goes.go (fun _ kk => XS.aloadN X0.here hx rfl (hb hby d3_166) rfl rfl kk) ?_
                  show Goes _ _ _ _ _ _ _ (T.setTop (mkF m 167 _ [(.ref bb)]))
                  refine Goes.go (own_len X0 hx hZ e0 A0 (n := n) hln rfl rfl (hb hby d3_167)) ?_
                  show Goes _ _ _ _ _ _ _ (T.setTop (mkF m 168 _ [(.int n)]))
                  refine Goes.go (fun _ kk => XS.iloadN X0.here hx rfl (hb hby d3_168) rfl kk) ?_
                  show Goes _ _ _ _ _ _ _ (T.setTop (mkF m 169 _ [(.int i), (.int n)]))
                  refine Goes.go (fun _ kk => XS.isub X0.here hx rfl (hb hby d3_169) rfl kk) ?_
                  show Goes _ _ _ _ _ _ _ (T.setTop (mkF m 170 _ [(.int (n - i))]))
                  refine Goes.go (fun _ kk => XS.iloadN X0.here hx rfl (hb hby d3_170) rfl kk) ?_
                  show Goes _ _ _ _ _ _ _ (T.setTop (mkF m 171 _ [(.int (3 : Int32)), (.int (n - i))]))
                  by_cases c171 : (3 : Int32) < (n - i)
                  · skip
                    refine Goes.go (fun _ kk => XS.icmpYes X0.here hx rfl (pc0 := 171) (pc' := 176) rfl (hb hby d3_171) rfl (XT.ii_gt_t c171) (by decide) (by decide) kk) ?_
                    show Goes _ _ _ _ _ _ _ (T.setTop (mkF m 176 _ []))
                    have hf : 3 < n.toInt - i.toInt := by have q := Int32.lt_iff_toInt_lt.mp c171; rw [sb] at q; exact q
                    refine Goes.go (fun _ kk => XS.aloadN X0.here hx rfl (hb hby d3_176) rfl rfl kk) ?_
                    show Goes _ _ _ _ _ _ _ (T.setTop (mkF m 177 _ [(.ref bb)]))
                    refine Goes.go (fun _ kk => XS.iloadN X0.here hx rfl (hb hby d3_177) rfl kk) ?_
                    show Goes _ _ _ _ _ _ _ (T.setTop (mkF m 178 _ [(.int i), (.ref bb)]))
                    refine Goes.go (fun _ kk => XS.iconst X0.here hx rfl (hb hby d3_178) kk) ?_
                    show Goes _ _ _ _ _ _ _ (T.setTop (mkF m 179 _ [(.int (1 : Int32)), (.int i), (.ref bb)]))
                    refine Goes.go (fun _ kk => XS.iadd X0.here hx rfl (hb hby d3_179) rfl kk) ?_
                    show Goes _ _ _ _ _ _ _ (T.setTop (mkF m 180 _ [(.int (i + (1 : Int32))), (.ref bb)]))
                    refine Goes.go (own_ldB X0 hx hZ e0 A0 (j := (i + (1 : Int32))) (v := (.int ((gi u (i + (1 : Int32)))).toInt8.toInt32)) (gi_take (f := (fun x : Int32 => Value.int x.toInt8.toInt32)) hl hN8 (by omega) (by omega)).1 (gi_take (f := (fun x : Int32 => Value.int x.toInt8.toInt32)) hl hN8 (by omega) (by omega)).2 rfl rfl (hb hby d3_180)) ?_
                    show Goes _ _ _ _ _ _ _ (T.setTop (mkF m 181 _ [(.int ((gi u (i + (1 : Int32)))).toInt8.toInt32)]))
                    refine Goes.go (fun _ kk => XS.sipush X0.here hx rfl (hb hby d3_181) kk) ?_
                    show Goes _ _ _ _ _ _ _ (T.setTop (mkF m 184 _ [(.int (255 : Int32)), (.int ((gi u (i + (1 : Int32)))).toInt8.toInt32)]))
                    refine Goes.go (fun _ kk => XS.iand X0.here hx rfl (hb hby d3_184) rfl kk) ?_
                    show Goes _ _ _ _ _ _ _ (T.setTop (mkF m 185 _ [(.int (((gi u (i + (1 : Int32)))).toInt8.toInt32 &&& (255 : Int32)))]))
                    rw [(m5 (hB _)).1]
                    show Goes _ _ _ _ _ _ _ (T.setTop (mkF m 185 _ [(.int (gi u (i + (1 : Int32))))]))
                    refine Goes.go (fun _ kk => XS.istoreS X0.here hx rfl (hb hby d3_185) rfl rfl q6 kk) ?_
                    show Goes _ _ _ _ _ _ _ (T.setTop (mkF m 187 #[.val (.ref bb), .val (.int i), .val (.int (gi u i)), .val (.int (3 : Int32)), .val (.int (144 : Int32)), .val (.int (191 : Int32)), .val (.int (gi u (i + (1 : Int32)))), o7] []))
                    refine Goes.go (fun _ kk => XS.iload X0.here hx rfl (hb hby d3_187) rfl kk) ?_
                    show Goes _ _ _ _ _ _ _ (T.setTop (mkF m 189 _ [(.int (gi u (i + (1 : Int32))))]))
                    refine Goes.go (fun _ kk => XS.iload X0.here hx rfl (hb hby d3_189) rfl kk) ?_
                    show Goes _ _ _ _ _ _ _ (T.setTop (mkF m 191 _ [(.int (144 : Int32)), (.int (gi u (i + (1 : Int32))))]))
                    by_cases c191 : (gi u (i + (1 : Int32))) < (144 : Int32)
                    · skip
                      refine Goes.go (fun _ kk => XS.icmpYes X0.here hx rfl (pc0 := 191) (pc' := 201) rfl (hb hby d3_191) rfl (XT.ii_lt_t c191) (by decide) (by decide) kk) ?_
                      show Goes _ _ _ _ _ _ _ (T.setTop (mkF m 201 _ []))
                      refine Goes.go (fun _ kk => XS.iconst X0.here hx rfl (hb hby d3_201) kk) ?_
                      show Goes _ _ _ _ _ _ _ (T.setTop (mkF m 202 _ [(.int (0 : Int32))]))
                      have hut : utF u n i = 0 := by simp only [utF, ut2, ut3, ck1, ck2, ck3, if_pos c5, if_neg c20, if_neg c43, if_pos c50, if_neg c62, if_pos c69, if_neg c115, if_neg c122, if_pos c131, if_neg c148, if_pos c171, if_pos c191]
                      have hu : UF u n (k + 1) i = 0 := by
                        show (if i < n then (if utF u n i = 0 then 0 else UF u n k (i + utF u n i)) else 1) = _
                        rw [if_pos c5, hut, if_pos rfl]
                      rw [hu] at hQ
                      exact Goes.outZ X0 hx hlk hret rfl (hb hby d3_202) e0 (hQ _ N0) (by decide) (by decide)
                    · skip
                      refine Goes.go (fun _ kk => XS.icmpNo X0.here hx rfl (hb hby d3_191) rfl (XT.ii_lt_f c191) kk) ?_
                      show Goes _ _ _ _ _ _ _ (T.setTop (mkF m 194 _ []))
                      refine Goes.go (fun _ kk => XS.iload X0.here hx rfl (hb hby d3_194) rfl kk) ?_
                      show Goes _ _ _ _ _ _ _ (T.setTop (mkF m 196 _ [(.int (gi u (i + (1 : Int32))))]))
                      refine Goes.go (fun _ kk => XS.iload X0.here hx rfl (hb hby d3_196) rfl kk) ?_
                      show Goes _ _ _ _ _ _ _ (T.setTop (mkF m 198 _ [(.int (191 : Int32)), (.int (gi u (i + (1 : Int32))))]))
                      by_cases c198 : (191 : Int32) < (gi u (i + (1 : Int32)))
                      · skip
                        refine Goes.go (fun _ kk => XS.icmpNo X0.here hx rfl (hb hby d3_198) rfl (XT.ii_le_f c198) kk) ?_
                        show Goes _ _ _ _ _ _ _ (T.setTop (mkF m 201 _ []))
                        refine Goes.go (fun _ kk => XS.iconst X0.here hx rfl (hb hby d3_201) kk) ?_
                        show Goes _ _ _ _ _ _ _ (T.setTop (mkF m 202 _ [(.int (0 : Int32))]))
                        have hut : utF u n i = 0 := by simp only [utF, ut2, ut3, ck1, ck2, ck3, if_pos c5, if_neg c20, if_neg c43, if_pos c50, if_neg c62, if_pos c69, if_neg c115, if_neg c122, if_pos c131, if_neg c148, if_pos c171, if_neg c191, if_pos c198]
                        have hu : UF u n (k + 1) i = 0 := by
                          show (if i < n then (if utF u n i = 0 then 0 else UF u n k (i + utF u n i)) else 1) = _
                          rw [if_pos c5, hut, if_pos rfl]
                        rw [hu] at hQ
                        exact Goes.outZ X0 hx hlk hret rfl (hb hby d3_202) e0 (hQ _ N0) (by decide) (by decide)
                      · skip
                        refine Goes.go (fun _ kk => XS.icmpYes X0.here hx rfl (pc0 := 198) (pc' := 203) rfl (hb hby d3_198) rfl (XT.ii_le_t c198) (by decide) (by decide) kk) ?_
                        show Goes _ _ _ _ _ _ _ (T.setTop (mkF m 203 _ []))
                        refine Goes.go (fun _ kk => XS.iloadN X0.here hx rfl (hb hby d3_203) rfl kk) ?_
                        show Goes _ _ _ _ _ _ _ (T.setTop (mkF m 204 _ [(.int i)]))
                        refine Goes.go (fun _ kk => XS.iconst X0.here hx rfl (hb hby d3_204) kk) ?_
                        show Goes _ _ _ _ _ _ _ (T.setTop (mkF m 205 _ [(.int (2 : Int32)), (.int i)]))
                        refine Goes.go (fun _ kk => XS.iadd X0.here hx rfl (hb hby d3_205) rfl kk) ?_
                        show Goes _ _ _ _ _ _ _ (T.setTop (mkF m 206 _ [(.int (i + (2 : Int32)))]))
                        refine Goes.go (fun _ kk => XS.istoreS X0.here hx rfl (hb hby d3_206) rfl rfl q7 kk) ?_
                        show Goes _ _ _ _ _ _ _ (T.setTop (mkF m 208 #[.val (.ref bb), .val (.int i), .val (.int (gi u i)), .val (.int (3 : Int32)), .val (.int (144 : Int32)), .val (.int (191 : Int32)), .val (.int (gi u (i + (1 : Int32)))), .val (.int (i + (2 : Int32)))] []))
                        refine Goes.go (fun _ kk => XS.iload X0.here hx rfl (hb hby d3_208) rfl kk) ?_
                        show Goes _ _ _ _ _ _ _ (T.setTop (mkF m 210 _ [(.int (i + (2 : Int32)))]))
                        refine Goes.go (fun _ kk => XS.iloadN X0.here hx rfl (hb hby d3_210) rfl kk) ?_
                        show Goes _ _ _ _ _ _ _ (T.setTop (mkF m 211 _ [(.int i), (.int (i + (2 : Int32)))]))
                        refine Goes.go (fun _ kk => XS.iloadN X0.here hx rfl (hb hby d3_211) rfl kk) ?_
                        show Goes _ _ _ _ _ _ _ (T.setTop (mkF m 212 _ [(.int (3 : Int32)), (.int i), (.int (i + (2 : Int32)))]))
                        refine Goes.go (fun _ kk => XS.iadd X0.here hx rfl (hb hby d3_212) rfl kk) ?_
                        show Goes _ _ _ _ _ _ _ (T.setTop (mkF m 213 _ [(.int (i + (3 : Int32))), (.int (i + (2 : Int32)))]))
                        refine Goes.go (fun _ kk => XS.icmpNo X0.here hx rfl (hb hby d3_213) rfl (XT.ii_gt_f (fun q => by have q := Int32.lt_iff_toInt_lt.mp q; rw [a3, a2] at q; omega)) kk) ?_
                        show Goes _ _ _ _ _ _ _ (T.setTop (mkF m 216 _ []))
                        refine Goes.go (fun _ kk => XS.aloadN X0.here hx rfl (hb hby d3_216) rfl rfl kk) ?_
                        show Goes _ _ _ _ _ _ _ (T.setTop (mkF m 217 _ [(.ref bb)]))
                        refine Goes.go (fun _ kk => XS.iload X0.here hx rfl (hb hby d3_217) rfl kk) ?_
                        show Goes _ _ _ _ _ _ _ (T.setTop (mkF m 219 _ [(.int (i + (2 : Int32))), (.ref bb)]))
                        refine Goes.go (own_ldB X0 hx hZ e0 A0 (j := (i + (2 : Int32))) (v := (.int ((gi u (i + (2 : Int32)))).toInt8.toInt32)) (gi_take (f := (fun x : Int32 => Value.int x.toInt8.toInt32)) hl hN8 (by omega) (by omega)).1 (gi_take (f := (fun x : Int32 => Value.int x.toInt8.toInt32)) hl hN8 (by omega) (by omega)).2 rfl rfl (hb hby d3_219)) ?_
                        show Goes _ _ _ _ _ _ _ (T.setTop (mkF m 220 _ [(.int ((gi u (i + (2 : Int32)))).toInt8.toInt32)]))
                        refine Goes.go (fun _ kk => XS.sipush X0.here hx rfl (hb hby d3_220) kk) ?_
                        show Goes _ _ _ _ _ _ _ (T.setTop (mkF m 223 _ [(.int (192 : Int32)), (.int ((gi u (i + (2 : Int32)))).toInt8.toInt32)]))
                        refine Goes.go (fun _ kk => XS.iand X0.here hx rfl (hb hby d3_223) rfl kk) ?_
                        show Goes _ _ _ _ _ _ _ (T.setTop (mkF m 224 _ [(.int (((gi u (i + (2 : Int32)))).toInt8.toInt32 &&& (192 : Int32)))]))
                        rw [(m5 (hB _)).2]
                        show Goes _ _ _ _ _ _ _ (T.setTop (mkF m 224 _ [(.int ((gi u (i + (2 : Int32))) &&& (192 : Int32)))]))
                        refine Goes.go (fun _ kk => XS.sipush X0.here hx rfl (hb hby d3_224) kk) ?_
                        show Goes _ _ _ _ _ _ _ (T.setTop (mkF m 227 _ [(.int (128 : Int32)), (.int ((gi u (i + (2 : Int32))) &&& (192 : Int32)))]))
                        by_cases c227 : ((gi u (i + (2 : Int32))) &&& (192 : Int32)) = (128 : Int32)
                        · skip
                          refine Goes.go (fun _ kk => XS.icmpYes X0.here hx rfl (pc0 := 227) (pc' := 232) rfl (hb hby d3_227) rfl (XT.ii_eq_t c227) (by decide) (by decide) kk) ?_
                          show Goes _ _ _ _ _ _ _ (T.setTop (mkF m 232 _ []))
                          refine Goes.go (fun _ kk => XT.iincV X0.here hx rfl (1 : Int32) (hb hby d3_232) rfl rfl (l' := #[.val (.ref bb), .val (.int i), .val (.int (gi u i)), .val (.int (3 : Int32)), .val (.int (144 : Int32)), .val (.int (191 : Int32)), .val (.int (gi u (i + (1 : Int32)))), .val (.int ((i + (2 : Int32)) + (1 : Int32)))]) rfl kk) ?_
                          show Goes _ _ _ _ _ _ _ (T.setTop (mkF m 235 #[.val (.ref bb), .val (.int i), .val (.int (gi u i)), .val (.int (3 : Int32)), .val (.int (144 : Int32)), .val (.int (191 : Int32)), .val (.int (gi u (i + (1 : Int32)))), .val (.int ((i + (2 : Int32)) + (1 : Int32)))] []))
                          rw [own_23]
                          show Goes _ _ _ _ _ _ _ (T.setTop (mkF m 235 #[.val (.ref bb), .val (.int i), .val (.int (gi u i)), .val (.int (3 : Int32)), .val (.int (144 : Int32)), .val (.int (191 : Int32)), .val (.int (gi u (i + (1 : Int32)))), .val (.int (i + (3 : Int32)))] []))
                          refine Goes.go (fun _ kk => XS.goto X0.here hx rfl (pc0 := 235) (pc' := 208) rfl (hb hby d3_235) (by decide) (by decide) kk) ?_
                          show Goes _ _ _ _ _ _ _ (T.setTop (mkF m 208 _ []))
                          refine Goes.go (fun _ kk => XS.iload X0.here hx rfl (hb hby d3_208) rfl kk) ?_
                          show Goes _ _ _ _ _ _ _ (T.setTop (mkF m 210 _ [(.int (i + (3 : Int32)))]))
                          refine Goes.go (fun _ kk => XS.iloadN X0.here hx rfl (hb hby d3_210) rfl kk) ?_
                          show Goes _ _ _ _ _ _ _ (T.setTop (mkF m 211 _ [(.int i), (.int (i + (3 : Int32)))]))
                          refine Goes.go (fun _ kk => XS.iloadN X0.here hx rfl (hb hby d3_211) rfl kk) ?_
                          show Goes _ _ _ _ _ _ _ (T.setTop (mkF m 212 _ [(.int (3 : Int32)), (.int i), (.int (i + (3 : Int32)))]))
                          refine Goes.go (fun _ kk => XS.iadd X0.here hx rfl (hb hby d3_212) rfl kk) ?_
                          show Goes _ _ _ _ _ _ _ (T.setTop (mkF m 213 _ [(.int (i + (3 : Int32))), (.int (i + (3 : Int32)))]))
                          refine Goes.go (fun _ kk => XS.icmpNo X0.here hx rfl (hb hby d3_213) rfl (XT.ii_gt_f (fun q => by have q := Int32.lt_iff_toInt_lt.mp q; rw [a3] at q; omega)) kk) ?_
                          show Goes _ _ _ _ _ _ _ (T.setTop (mkF m 216 _ []))
                          refine Goes.go (fun _ kk => XS.aloadN X0.here hx rfl (hb hby d3_216) rfl rfl kk) ?_
                          show Goes _ _ _ _ _ _ _ (T.setTop (mkF m 217 _ [(.ref bb)]))
                          refine Goes.go (fun _ kk => XS.iload X0.here hx rfl (hb hby d3_217) rfl kk) ?_
                          show Goes _ _ _ _ _ _ _ (T.setTop (mkF m 219 _ [(.int (i + (3 : Int32))), (.ref bb)]))
                          refine Goes.go (own_ldB X0 hx hZ e0 A0 (j := (i + (3 : Int32))) (v := (.int ((gi u (i + (3 : Int32)))).toInt8.toInt32)) (gi_take (f := (fun x : Int32 => Value.int x.toInt8.toInt32)) hl hN8 (by omega) (by omega)).1 (gi_take (f := (fun x : Int32 => Value.int x.toInt8.toInt32)) hl hN8 (by omega) (by omega)).2 rfl rfl (hb hby d3_219)) ?_
                          show Goes _ _ _ _ _ _ _ (T.setTop (mkF m 220 _ [(.int ((gi u (i + (3 : Int32)))).toInt8.toInt32)]))
                          refine Goes.go (fun _ kk => XS.sipush X0.here hx rfl (hb hby d3_220) kk) ?_
                          show Goes _ _ _ _ _ _ _ (T.setTop (mkF m 223 _ [(.int (192 : Int32)), (.int ((gi u (i + (3 : Int32)))).toInt8.toInt32)]))
                          refine Goes.go (fun _ kk => XS.iand X0.here hx rfl (hb hby d3_223) rfl kk) ?_
                          show Goes _ _ _ _ _ _ _ (T.setTop (mkF m 224 _ [(.int (((gi u (i + (3 : Int32)))).toInt8.toInt32 &&& (192 : Int32)))]))
                          rw [(m5 (hB _)).2]
                          show Goes _ _ _ _ _ _ _ (T.setTop (mkF m 224 _ [(.int ((gi u (i + (3 : Int32))) &&& (192 : Int32)))]))
                          refine Goes.go (fun _ kk => XS.sipush X0.here hx rfl (hb hby d3_224) kk) ?_
                          show Goes _ _ _ _ _ _ _ (T.setTop (mkF m 227 _ [(.int (128 : Int32)), (.int ((gi u (i + (3 : Int32))) &&& (192 : Int32)))]))
                          by_cases c227_1 : ((gi u (i + (3 : Int32))) &&& (192 : Int32)) = (128 : Int32)
                          · skip
                            refine Goes.go (fun _ kk => XS.icmpYes X0.here hx rfl (pc0 := 227) (pc' := 232) rfl (hb hby d3_227) rfl (XT.ii_eq_t c227_1) (by decide) (by decide) kk) ?_
                            show Goes _ _ _ _ _ _ _ (T.setTop (mkF m 232 _ []))
                            refine Goes.go (fun _ kk => XT.iincV X0.here hx rfl (1 : Int32) (hb hby d3_232) rfl rfl (l' := #[.val (.ref bb), .val (.int i), .val (.int (gi u i)), .val (.int (3 : Int32)), .val (.int (144 : Int32)), .val (.int (191 : Int32)), .val (.int (gi u (i + (1 : Int32)))), .val (.int ((i + (3 : Int32)) + (1 : Int32)))]) rfl kk) ?_
                            show Goes _ _ _ _ _ _ _ (T.setTop (mkF m 235 #[.val (.ref bb), .val (.int i), .val (.int (gi u i)), .val (.int (3 : Int32)), .val (.int (144 : Int32)), .val (.int (191 : Int32)), .val (.int (gi u (i + (1 : Int32)))), .val (.int ((i + (3 : Int32)) + (1 : Int32)))] []))
                            rw [own_34]
                            show Goes _ _ _ _ _ _ _ (T.setTop (mkF m 235 #[.val (.ref bb), .val (.int i), .val (.int (gi u i)), .val (.int (3 : Int32)), .val (.int (144 : Int32)), .val (.int (191 : Int32)), .val (.int (gi u (i + (1 : Int32)))), .val (.int (i + (4 : Int32)))] []))
                            refine Goes.go (fun _ kk => XS.goto X0.here hx rfl (pc0 := 235) (pc' := 208) rfl (hb hby d3_235) (by decide) (by decide) kk) ?_
                            show Goes _ _ _ _ _ _ _ (T.setTop (mkF m 208 _ []))
                            refine Goes.go (fun _ kk => XS.iload X0.here hx rfl (hb hby d3_208) rfl kk) ?_
                            show Goes _ _ _ _ _ _ _ (T.setTop (mkF m 210 _ [(.int (i + (4 : Int32)))]))
                            refine Goes.go (fun _ kk => XS.iloadN X0.here hx rfl (hb hby d3_210) rfl kk) ?_
                            show Goes _ _ _ _ _ _ _ (T.setTop (mkF m 211 _ [(.int i), (.int (i + (4 : Int32)))]))
                            refine Goes.go (fun _ kk => XS.iloadN X0.here hx rfl (hb hby d3_211) rfl kk) ?_
                            show Goes _ _ _ _ _ _ _ (T.setTop (mkF m 212 _ [(.int (3 : Int32)), (.int i), (.int (i + (4 : Int32)))]))
                            refine Goes.go (fun _ kk => XS.iadd X0.here hx rfl (hb hby d3_212) rfl kk) ?_
                            show Goes _ _ _ _ _ _ _ (T.setTop (mkF m 213 _ [(.int (i + (3 : Int32))), (.int (i + (4 : Int32)))]))
                            refine Goes.go (fun _ kk => XS.icmpYes X0.here hx rfl (pc0 := 213) (pc' := 238) rfl (hb hby d3_213) rfl (XT.ii_gt_t (Int32.lt_iff_toInt_lt.mpr (by rw [a3, a4]; omega))) (by decide) (by decide) kk) ?_
                            show Goes _ _ _ _ _ _ _ (T.setTop (mkF m 238 _ []))
                            refine Goes.go (fun _ kk => XS.iloadN X0.here hx rfl (hb hby d3_238) rfl kk) ?_
                            show Goes _ _ _ _ _ _ _ (T.setTop (mkF m 239 _ [(.int i)]))
                            refine Goes.go (fun _ kk => XS.iconst X0.here hx rfl (hb hby d3_239) kk) ?_
                            show Goes _ _ _ _ _ _ _ (T.setTop (mkF m 240 _ [(.int (1 : Int32)), (.int i)]))
                            refine Goes.go (fun _ kk => XS.iloadN X0.here hx rfl (hb hby d3_240) rfl kk) ?_
                            show Goes _ _ _ _ _ _ _ (T.setTop (mkF m 241 _ [(.int (3 : Int32)), (.int (1 : Int32)), (.int i)]))
                            refine Goes.go (fun _ kk => XS.iadd X0.here hx rfl (hb hby d3_241) rfl kk) ?_
                            show Goes _ _ _ _ _ _ _ (T.setTop (mkF m 242 _ [(.int (4 : Int32)), (.int i)]))
                            refine Goes.go (fun _ kk => XS.iadd X0.here hx rfl (hb hby d3_242) rfl kk) ?_
                            show Goes _ _ _ _ _ _ _ (T.setTop (mkF m 243 _ [(.int (i + (4 : Int32)))]))
                            refine Goes.go (fun _ kk => XS.istoreN X0.here hx rfl (hb hby d3_243) rfl (l' := #[.val (.ref bb), .val (.int (i + (4 : Int32))), .val (.int (gi u i)), .val (.int (3 : Int32)), .val (.int (144 : Int32)), .val (.int (191 : Int32)), .val (.int (gi u (i + (1 : Int32)))), .val (.int (i + (4 : Int32)))]) rfl kk) ?_
                            show Goes _ _ _ _ _ _ _ (T.setTop (mkF m 244 #[.val (.ref bb), .val (.int (i + (4 : Int32))), .val (.int (gi u i)), .val (.int (3 : Int32)), .val (.int (144 : Int32)), .val (.int (191 : Int32)), .val (.int (gi u (i + (1 : Int32)))), .val (.int (i + (4 : Int32)))] []))
                            refine Goes.go (fun _ kk => XS.goto X0.here hx rfl (pc0 := 244) (pc' := 2) rfl (hb hby d3_244) (by decide) (by decide) kk) ?_
                            show Goes _ _ _ _ _ _ _ (T.setTop (mkF m 2 _ []))
                            have hut : utF u n i = 4 := by simp only [utF, ut2, ut3, ck1, ck2, ck3, if_pos c5, if_neg c20, if_neg c43, if_pos c50, if_neg c62, if_pos c69, if_neg c115, if_neg c122, if_pos c131, if_neg c148, if_pos c171, if_neg c191, if_neg c198, if_pos c227, if_pos c227_1]
                            have hu : UF u n (k + 1) i = UF u n k (i + (4 : Int32)) := by
                              show (if i < n then (if utF u n i = 0 then 0 else UF u n k (i + utF u n i)) else 1) = _
                              rw [if_pos c5, hut, if_neg (by decide)]
                            rw [hu] at hQ
                            exact ih _ _ _ _ _ _ _ (One.val rfl) (One.val rfl) (One.val rfl) (One.val rfl) (One.val rfl) (One.val rfl) (by omega) (by omega) (by omega) hQ
                          · skip
                            refine Goes.go (fun _ kk => XS.icmpNo X0.here hx rfl (hb hby d3_227) rfl (XT.ii_eq_f c227_1) kk) ?_
                            show Goes _ _ _ _ _ _ _ (T.setTop (mkF m 230 _ []))
                            refine Goes.go (fun _ kk => XS.iconst X0.here hx rfl (hb hby d3_230) kk) ?_
                            show Goes _ _ _ _ _ _ _ (T.setTop (mkF m 231 _ [(.int (0 : Int32))]))
                            have hut : utF u n i = 0 := by simp only [utF, ut2, ut3, ck1, ck2, ck3, if_pos c5, if_neg c20, if_neg c43, if_pos c50, if_neg c62, if_pos c69, if_neg c115, if_neg c122, if_pos c131, if_neg c148, if_pos c171, if_neg c191, if_neg c198, if_pos c227, if_neg c227_1]
                            have hu : UF u n (k + 1) i = 0 := by
                              show (if i < n then (if utF u n i = 0 then 0 else UF u n k (i + utF u n i)) else 1) = _
                              rw [if_pos c5, hut, if_pos rfl]
                            rw [hu] at hQ
                            exact Goes.outZ X0 hx hlk hret rfl (hb hby d3_231) e0 (hQ _ N0) (by decide) (by decide)
                        · skip
                          refine Goes.go (fun _ kk => XS.icmpNo X0.here hx rfl (hb hby d3_227) rfl (XT.ii_eq_f c227) kk) ?_
                          show Goes _ _ _ _ _ _ _ (T.setTop (mkF m 230 _ []))
                          refine Goes.go (fun _ kk => XS.iconst X0.here hx rfl (hb hby d3_230) kk) ?_
                          show Goes _ _ _ _ _ _ _ (T.setTop (mkF m 231 _ [(.int (0 : Int32))]))
                          have hut : utF u n i = 0 := by simp only [utF, ut2, ut3, ck1, ck2, ck3, if_pos c5, if_neg c20, if_neg c43, if_pos c50, if_neg c62, if_pos c69, if_neg c115, if_neg c122, if_pos c131, if_neg c148, if_pos c171, if_neg c191, if_neg c198, if_neg c227]
                          have hu : UF u n (k + 1) i = 0 := by
                            show (if i < n then (if utF u n i = 0 then 0 else UF u n k (i + utF u n i)) else 1) = _
                            rw [if_pos c5, hut, if_pos rfl]
                          rw [hu] at hQ
                          exact Goes.outZ X0 hx hlk hret rfl (hb hby d3_231) e0 (hQ _ N0) (by decide) (by decide)
                  · skip
                    refine Goes.go (fun _ kk => XS.icmpNo X0.here hx rfl (hb hby d3_171) rfl (XT.ii_gt_f c171) kk) ?_
                    show Goes _ _ _ _ _ _ _ (T.setTop (mkF m 174 _ []))
                    refine Goes.go (fun _ kk => XS.iconst X0.here hx rfl (hb hby d3_174) kk) ?_
                    show Goes _ _ _ _ _ _ _ (T.setTop (mkF m 175 _ [(.int (0 : Int32))]))
                    have hut : utF u n i = 0 := by simp only [utF, ut2, ut3, ck1, ck2, ck3, if_pos c5, if_neg c20, if_neg c43, if_pos c50, if_neg c62, if_pos c69, if_neg c115, if_neg c122, if_pos c131, if_neg c148, if_neg c171]
                    have hu : UF u n (k + 1) i = 0 := by
                      show (if i < n then (if utF u n i = 0 then 0 else UF u n k (i + utF u n i)) else 1) = _
                      rw [if_pos c5, hut, if_pos rfl]
                    rw [hu] at hQ
                    exact Goes.outZ X0 hx hlk hret rfl (hb hby d3_175) e0 (hQ _ N0) (by decide) (by decide)
                · skip
                  refine Goes.go (fun _ kk => XS.icmpYes X0.here hx rfl (pc0 := 131) (pc' := 140) rfl (hb hby d3_131) rfl (XT.ii_ne_t c131) (by decide) (by decide) kk) ?_
                  show Goes _ _ _ _ _ _ _ (T.setTop (mkF m 140 _ []))
                  refine Goes.go (fun _ kk => XS.iload X0.here hx rfl (hb hby d3_140) rfl kk) ?_
                  show Goes _ _ _ _ _ _ _ (T.setTop (mkF m 142 _ [(.int (128 : Int32))]))
                  refine Goes.go (fun _ kk => XS.istore X0.here hx rfl (hb hby d3_142) rfl (l' := #[.val (.ref bb), .val (.int i), .val (.int (gi u i)), .val (.int (3 : Int32)), .val (.int (128 : Int32)), .val (.int (191 : Int32)), o6, o7]) rfl kk) ?_
                  show Goes _ _ _ _ _ _ _ (T.setTop (mkF m 144 _ []))
                  refine Goes.go (fun _ kk => XS.iloadN X0.here hx rfl (hb hby d3_144) rfl kk) ?_
                  show Goes _ _ _ _ _ _ _ (T.setTop (mkF m 145 _ [(.int (gi u i))]))
                  refine Goes.go (fun _ kk => XS.sipush X0.here hx rfl (hb hby d3_145) kk) ?_
                  show Goes _ _ _ _ _ _ _ (T.setTop (mkF m 148 _ [(.int (244 : Int32)), (.int (gi u i))]))
                  by_cases c148 : (gi u i) = (244 : Int32)
                  · skip
                    refine Goes.go (fun _ kk => XS.icmpNo X0.here hx rfl (hb hby d3_148) rfl (XT.ii_ne_f c148) kk) ?_
                    show Goes _ _ _ _ _ _ _ (T.setTop (mkF m 151 _ []))
                    refine Goes.go (fun _ kk => XS.sipush X0.here hx rfl (hb hby d3_151) kk) ?_
                    show Goes _ _ _ _ _ _ _ (T.setTop (mkF m 154 _ [(.int (143 : Int32))]))
                    refine Goes.go (fun _ kk => XS.goto X0.here hx rfl (pc0 := 154) (pc' := 159) rfl (hb hby d3_154) (by decide) (by decide) kk) ?_
                    show Goes _ _ _ _ _ _ _ (T.setTop (mkF m 159 _ [(.int (143 : Int32))]))
                    refine Goes.go (fun _ kk => XS.istore X0.here hx rfl (hb hby d3_159) rfl (l' := #[.val (.ref bb), .val (.int i), .val (.int (gi u i)), .val (.int (3 : Int32)), .val (.int (128 : Int32)), .val (.int (143 : Int32)), o6, o7]) rfl kk) ?_
                    show Goes _ _ _ _ _ _ _ (T.setTop (mkF m 161 #[.val (.ref bb), .val (.int i), .val (.int (gi u i)), .val (.int (3 : Int32)), .val (.int (128 : Int32)), .val (.int (143 : Int32)), o6, o7] []))
                    refine Goes.go (fun _ kk => XS.goto X0.here hx rfl (pc0 := 161) (pc' := 166) rfl (hb hby d3_161) (by decide) (by decide) kk) ?_
                    show Goes _ _ _ _ _ _ _ (T.setTop (mkF m 166 _ []))
                    have a1 : (i + (1 : Int32)).toInt = i.toInt + 1 := own_ad (by decide) hi0 (by omega) (by decide) (by decide)
                    have a2 : (i + (2 : Int32)).toInt = i.toInt + 2 := own_ad (by decide) hi0 (by omega) (by decide) (by decide)
                    have a3 : (i + (3 : Int32)).toInt = i.toInt + 3 := own_ad (by decide) hi0 (by omega) (by decide) (by decide)
                    have a4 : (i + (4 : Int32)).toInt = i.toInt + 4 := own_ad (by decide) hi0 (by omega) (by decide) (by decide)
                    have sb := own_sb hi0 (by omega) (by omega : 0 ≤ n.toInt) (by omega)
                    refine Goes.go (fun _ kk => XS.aloadN X0.here hx rfl (hb hby d3_166) rfl rfl kk) ?_
                    show Goes _ _ _ _ _ _ _ (T.setTop (mkF m 167 _ [(.ref bb)]))
                    refine Goes.go (own_len X0 hx hZ e0 A0 (n := n) hln rfl rfl (hb hby d3_167)) ?_
                    show Goes _ _ _ _ _ _ _ (T.setTop (mkF m 168 _ [(.int n)]))
                    refine Goes.go (fun _ kk => XS.iloadN X0.here hx rfl (hb hby d3_168) rfl kk) ?_
                    show Goes _ _ _ _ _ _ _ (T.setTop (mkF m 169 _ [(.int i), (.int n)]))
                    refine Goes.go (fun _ kk => XS.isub X0.here hx rfl (hb hby d3_169) rfl kk) ?_
                    show Goes _ _ _ _ _ _ _ (T.setTop (mkF m 170 _ [(.int (n - i))]))
                    refine Goes.go (fun _ kk => XS.iloadN X0.here hx rfl (hb hby d3_170) rfl kk) ?_
                    show Goes _ _ _ _ _ _ _ (T.setTop (mkF m 171 _ [(.int (3 : Int32)), (.int (n - i))]))
                    by_cases c171 : (3 : Int32) < (n - i)
                    · skip
                      refine Goes.go (fun _ kk => XS.icmpYes X0.here hx rfl (pc0 := 171) (pc' := 176) rfl (hb hby d3_171) rfl (XT.ii_gt_t c171) (by decide) (by decide) kk) ?_
                      show Goes _ _ _ _ _ _ _ (T.setTop (mkF m 176 _ []))
                      have hf : 3 < n.toInt - i.toInt := by have q := Int32.lt_iff_toInt_lt.mp c171; rw [sb] at q; exact q
                      refine Goes.go (fun _ kk => XS.aloadN X0.here hx rfl (hb hby d3_176) rfl rfl kk) ?_
                      show Goes _ _ _ _ _ _ _ (T.setTop (mkF m 177 _ [(.ref bb)]))
                      refine Goes.go (fun _ kk => XS.iloadN X0.here hx rfl (hb hby d3_177) rfl kk) ?_
                      show Goes _ _ _ _ _ _ _ (T.setTop (mkF m 178 _ [(.int i), (.ref bb)]))
                      refine Goes.go (fun _ kk => XS.iconst X0.here hx rfl (hb hby d3_178) kk) ?_
                      show Goes _ _ _ _ _ _ _ (T.setTop (mkF m 179 _ [(.int (1 : Int32)), (.int i), (.ref bb)]))
                      refine Goes.go (fun _ kk => XS.iadd X0.here hx rfl (hb hby d3_179) rfl kk) ?_
                      show Goes _ _ _ _ _ _ _ (T.setTop (mkF m 180 _ [(.int (i + (1 : Int32))), (.ref bb)]))
                      refine Goes.go (own_ldB X0 hx hZ e0 A0 (j := (i + (1 : Int32))) (v := (.int ((gi u (i + (1 : Int32)))).toInt8.toInt32)) (gi_take (f := (fun x : Int32 => Value.int x.toInt8.toInt32)) hl hN8 (by omega) (by omega)).1 (gi_take (f := (fun x : Int32 => Value.int x.toInt8.toInt32)) hl hN8 (by omega) (by omega)).2 rfl rfl (hb hby d3_180)) ?_
                      show Goes _ _ _ _ _ _ _ (T.setTop (mkF m 181 _ [(.int ((gi u (i + (1 : Int32)))).toInt8.toInt32)]))
                      refine Goes.go (fun _ kk => XS.sipush X0.here hx rfl (hb hby d3_181) kk) ?_
                      show Goes _ _ _ _ _ _ _ (T.setTop (mkF m 184 _ [(.int (255 : Int32)), (.int ((gi u (i + (1 : Int32)))).toInt8.toInt32)]))
                      refine Goes.go (fun _ kk => XS.iand X0.here hx rfl (hb hby d3_184) rfl kk) ?_
                      show Goes _ _ _ _ _ _ _ (T.setTop (mkF m 185 _ [(.int (((gi u (i + (1 : Int32)))).toInt8.toInt32 &&& (255 : Int32)))]))
                      rw [(m5 (hB _)).1]
                      show Goes _ _ _ _ _ _ _ (T.setTop (mkF m 185 _ [(.int (gi u (i + (1 : Int32))))]))
                      refine Goes.go (fun _ kk => XS.istoreS X0.here hx rfl (hb hby d3_185) rfl rfl q6 kk) ?_
                      show Goes _ _ _ _ _ _ _ (T.setTop (mkF m 187 #[.val (.ref bb), .val (.int i), .val (.int (gi u i)), .val (.int (3 : Int32)), .val (.int (128 : Int32)), .val (.int (143 : Int32)), .val (.int (gi u (i + (1 : Int32)))), o7] []))
                      refine Goes.go (fun _ kk => XS.iload X0.here hx rfl (hb hby d3_187) rfl kk) ?_
                      show Goes _ _ _ _ _ _ _ (T.setTop (mkF m 189 _ [(.int (gi u (i + (1 : Int32))))]))
                      refine Goes.go (fun _ kk => XS.iload X0.here hx rfl (hb hby d3_189) rfl kk) ?_
                      show Goes _ _ _ _ _ _ _ (T.setTop (mkF m 191 _ [(.int (128 : Int32)), (.int (gi u (i + (1 : Int32))))]))
                      by_cases c191 : (gi u (i + (1 : Int32))) < (128 : Int32)
                      · skip
                        refine Goes.go (fun _ kk => XS.icmpYes X0.here hx rfl (pc0 := 191) (pc' := 201) rfl (hb hby d3_191) rfl (XT.ii_lt_t c191) (by decide) (by decide) kk) ?_
                        show Goes _ _ _ _ _ _ _ (T.setTop (mkF m 201 _ []))
                        refine Goes.go (fun _ kk => XS.iconst X0.here hx rfl (hb hby d3_201) kk) ?_
                        show Goes _ _ _ _ _ _ _ (T.setTop (mkF m 202 _ [(.int (0 : Int32))]))
                        have hut : utF u n i = 0 := by simp only [utF, ut2, ut3, ck1, ck2, ck3, if_pos c5, if_neg c20, if_neg c43, if_pos c50, if_neg c62, if_pos c69, if_neg c115, if_neg c122, if_neg c131, if_pos c148, if_pos c171, if_pos c191]
                        have hu : UF u n (k + 1) i = 0 := by
                          show (if i < n then (if utF u n i = 0 then 0 else UF u n k (i + utF u n i)) else 1) = _
                          rw [if_pos c5, hut, if_pos rfl]
                        rw [hu] at hQ
                        exact Goes.outZ X0 hx hlk hret rfl (hb hby d3_202) e0 (hQ _ N0) (by decide) (by decide)
                      · skip
                        refine Goes.go (fun _ kk => XS.icmpNo X0.here hx rfl (hb hby d3_191) rfl (XT.ii_lt_f c191) kk) ?_
                        show Goes _ _ _ _ _ _ _ (T.setTop (mkF m 194 _ []))
                        refine Goes.go (fun _ kk => XS.iload X0.here hx rfl (hb hby d3_194) rfl kk) ?_
                        show Goes _ _ _ _ _ _ _ (T.setTop (mkF m 196 _ [(.int (gi u (i + (1 : Int32))))]))
                        refine Goes.go (fun _ kk => XS.iload X0.here hx rfl (hb hby d3_196) rfl kk) ?_
                        show Goes _ _ _ _ _ _ _ (T.setTop (mkF m 198 _ [(.int (143 : Int32)), (.int (gi u (i + (1 : Int32))))]))
                        by_cases c198 : (143 : Int32) < (gi u (i + (1 : Int32)))
                        · skip
                          refine Goes.go (fun _ kk => XS.icmpNo X0.here hx rfl (hb hby d3_198) rfl (XT.ii_le_f c198) kk) ?_
                          show Goes _ _ _ _ _ _ _ (T.setTop (mkF m 201 _ []))
                          refine Goes.go (fun _ kk => XS.iconst X0.here hx rfl (hb hby d3_201) kk) ?_
                          show Goes _ _ _ _ _ _ _ (T.setTop (mkF m 202 _ [(.int (0 : Int32))]))
                          have hut : utF u n i = 0 := by simp only [utF, ut2, ut3, ck1, ck2, ck3, if_pos c5, if_neg c20, if_neg c43, if_pos c50, if_neg c62, if_pos c69, if_neg c115, if_neg c122, if_neg c131, if_pos c148, if_pos c171, if_neg c191, if_pos c198]
                          have hu : UF u n (k + 1) i = 0 := by
                            show (if i < n then (if utF u n i = 0 then 0 else UF u n k (i + utF u n i)) else 1) = _
                            rw [if_pos c5, hut, if_pos rfl]
                          rw [hu] at hQ
                          exact Goes.outZ X0 hx hlk hret rfl (hb hby d3_202) e0 (hQ _ N0) (by decide) (by decide)
                        · skip
                          refine Goes.go (fun _ kk => XS.icmpYes X0.here hx rfl (pc0 := 198) (pc' := 203) rfl (hb hby d3_198) rfl (XT.ii_le_t c198) (by decide) (by decide) kk) ?_
                          show Goes _ _ _ _ _ _ _ (T.setTop (mkF m 203 _ []))
                          refine Goes.go (fun _ kk => XS.iloadN X0.here hx rfl (hb hby d3_203) rfl kk) ?_
                          show Goes _ _ _ _ _ _ _ (T.setTop (mkF m 204 _ [(.int i)]))
                          refine Goes.go (fun _ kk => XS.iconst X0.here hx rfl (hb hby d3_204) kk) ?_
                          show Goes _ _ _ _ _ _ _ (T.setTop (mkF m 205 _ [(.int (2 : Int32)), (.int i)]))
                          refine Goes.go (fun _ kk => XS.iadd X0.here hx rfl (hb hby d3_205) rfl kk) ?_
                          show Goes _ _ _ _ _ _ _ (T.setTop (mkF m 206 _ [(.int (i + (2 : Int32)))]))
                          refine Goes.go (fun _ kk => XS.istoreS X0.here hx rfl (hb hby d3_206) rfl rfl q7 kk) ?_
                          show Goes _ _ _ _ _ _ _ (T.setTop (mkF m 208 #[.val (.ref bb), .val (.int i), .val (.int (gi u i)), .val (.int (3 : Int32)), .val (.int (128 : Int32)), .val (.int (143 : Int32)), .val (.int (gi u (i + (1 : Int32)))), .val (.int (i + (2 : Int32)))] []))
                          refine Goes.go (fun _ kk => XS.iload X0.here hx rfl (hb hby d3_208) rfl kk) ?_
                          show Goes _ _ _ _ _ _ _ (T.setTop (mkF m 210 _ [(.int (i + (2 : Int32)))]))
                          refine Goes.go (fun _ kk => XS.iloadN X0.here hx rfl (hb hby d3_210) rfl kk) ?_
                          show Goes _ _ _ _ _ _ _ (T.setTop (mkF m 211 _ [(.int i), (.int (i + (2 : Int32)))]))
                          refine Goes.go (fun _ kk => XS.iloadN X0.here hx rfl (hb hby d3_211) rfl kk) ?_
                          show Goes _ _ _ _ _ _ _ (T.setTop (mkF m 212 _ [(.int (3 : Int32)), (.int i), (.int (i + (2 : Int32)))]))
                          refine Goes.go (fun _ kk => XS.iadd X0.here hx rfl (hb hby d3_212) rfl kk) ?_
                          show Goes _ _ _ _ _ _ _ (T.setTop (mkF m 213 _ [(.int (i + (3 : Int32))), (.int (i + (2 : Int32)))]))
                          refine Goes.go (fun _ kk => XS.icmpNo X0.here hx rfl (hb hby d3_213) rfl (XT.ii_gt_f (fun q => by have q := Int32.lt_iff_toInt_lt.mp q; rw [a3, a2] at q; omega)) kk) ?_
                          show Goes _ _ _ _ _ _ _ (T.setTop (mkF m 216 _ []))
                          refine Goes.go (fun _ kk => XS.aloadN X0.here hx rfl (hb hby d3_216) rfl rfl kk) ?_
                          show Goes _ _ _ _ _ _ _ (T.setTop (mkF m 217 _ [(.ref bb)]))
                          refine Goes.go (fun _ kk => XS.iload X0.here hx rfl (hb hby d3_217) rfl kk) ?_
                          show Goes _ _ _ _ _ _ _ (T.setTop (mkF m 219 _ [(.int (i + (2 : Int32))), (.ref bb)]))
                          refine Goes.go (own_ldB X0 hx hZ e0 A0 (j := (i + (2 : Int32))) (v := (.int ((gi u (i + (2 : Int32)))).toInt8.toInt32)) (gi_take (f := (fun x : Int32 => Value.int x.toInt8.toInt32)) hl hN8 (by omega) (by omega)).1 (gi_take (f := (fun x : Int32 => Value.int x.toInt8.toInt32)) hl hN8 (by omega) (by omega)).2 rfl rfl (hb hby d3_219)) ?_
                          show Goes _ _ _ _ _ _ _ (T.setTop (mkF m 220 _ [(.int ((gi u (i + (2 : Int32)))).toInt8.toInt32)]))
                          refine Goes.go (fun _ kk => XS.sipush X0.here hx rfl (hb hby d3_220) kk) ?_
                          show Goes _ _ _ _ _ _ _ (T.setTop (mkF m 223 _ [(.int (192 : Int32)), (.int ((gi u (i + (2 : Int32)))).toInt8.toInt32)]))
                          refine Goes.go (fun _ kk => XS.iand X0.here hx rfl (hb hby d3_223) rfl kk) ?_
                          show Goes _ _ _ _ _ _ _ (T.setTop (mkF m 224 _ [(.int (((gi u (i + (2 : Int32)))).toInt8.toInt32 &&& (192 : Int32)))]))
                          rw [(m5 (hB _)).2]
                          show Goes _ _ _ _ _ _ _ (T.setTop (mkF m 224 _ [(.int ((gi u (i + (2 : Int32))) &&& (192 : Int32)))]))
                          refine Goes.go (fun _ kk => XS.sipush X0.here hx rfl (hb hby d3_224) kk) ?_
                          show Goes _ _ _ _ _ _ _ (T.setTop (mkF m 227 _ [(.int (128 : Int32)), (.int ((gi u (i + (2 : Int32))) &&& (192 : Int32)))]))
                          by_cases c227 : ((gi u (i + (2 : Int32))) &&& (192 : Int32)) = (128 : Int32)
                          · skip
                            refine Goes.go (fun _ kk => XS.icmpYes X0.here hx rfl (pc0 := 227) (pc' := 232) rfl (hb hby d3_227) rfl (XT.ii_eq_t c227) (by decide) (by decide) kk) ?_
                            show Goes _ _ _ _ _ _ _ (T.setTop (mkF m 232 _ []))
                            refine Goes.go (fun _ kk => XT.iincV X0.here hx rfl (1 : Int32) (hb hby d3_232) rfl rfl (l' := #[.val (.ref bb), .val (.int i), .val (.int (gi u i)), .val (.int (3 : Int32)), .val (.int (128 : Int32)), .val (.int (143 : Int32)), .val (.int (gi u (i + (1 : Int32)))), .val (.int ((i + (2 : Int32)) + (1 : Int32)))]) rfl kk) ?_
                            show Goes _ _ _ _ _ _ _ (T.setTop (mkF m 235 #[.val (.ref bb), .val (.int i), .val (.int (gi u i)), .val (.int (3 : Int32)), .val (.int (128 : Int32)), .val (.int (143 : Int32)), .val (.int (gi u (i + (1 : Int32)))), .val (.int ((i + (2 : Int32)) + (1 : Int32)))] []))
                            rw [own_23]
                            show Goes _ _ _ _ _ _ _ (T.setTop (mkF m 235 #[.val (.ref bb), .val (.int i), .val (.int (gi u i)), .val (.int (3 : Int32)), .val (.int (128 : Int32)), .val (.int (143 : Int32)), .val (.int (gi u (i + (1 : Int32)))), .val (.int (i + (3 : Int32)))] []))
                            refine Goes.go (fun _ kk => XS.goto X0.here hx rfl (pc0 := 235) (pc' := 208) rfl (hb hby d3_235) (by decide) (by decide) kk) ?_
                            show Goes _ _ _ _ _ _ _ (T.setTop (mkF m 208 _ []))
                            refine Goes.go (fun _ kk => XS.iload X0.here hx rfl (hb hby d3_208) rfl kk) ?_
                            show Goes _ _ _ _ _ _ _ (T.setTop (mkF m 210 _ [(.int (i + (3 : Int32)))]))
                            refine Goes.go (fun _ kk => XS.iloadN X0.here hx rfl (hb hby d3_210) rfl kk) ?_
                            show Goes _ _ _ _ _ _ _ (T.setTop (mkF m 211 _ [(.int i), (.int (i + (3 : Int32)))]))
                            refine Goes.go (fun _ kk => XS.iloadN X0.here hx rfl (hb hby d3_211) rfl kk) ?_
                            show Goes _ _ _ _ _ _ _ (T.setTop (mkF m 212 _ [(.int (3 : Int32)), (.int i), (.int (i + (3 : Int32)))]))
                            refine Goes.go (fun _ kk => XS.iadd X0.here hx rfl (hb hby d3_212) rfl kk) ?_
                            show Goes _ _ _ _ _ _ _ (T.setTop (mkF m 213 _ [(.int (i + (3 : Int32))), (.int (i + (3 : Int32)))]))
                            refine Goes.go (fun _ kk => XS.icmpNo X0.here hx rfl (hb hby d3_213) rfl (XT.ii_gt_f (fun q => by have q := Int32.lt_iff_toInt_lt.mp q; rw [a3] at q; omega)) kk) ?_
                            show Goes _ _ _ _ _ _ _ (T.setTop (mkF m 216 _ []))
                            refine Goes.go (fun _ kk => XS.aloadN X0.here hx rfl (hb hby d3_216) rfl rfl kk) ?_
                            show Goes _ _ _ _ _ _ _ (T.setTop (mkF m 217 _ [(.ref bb)]))
                            refine Goes.go (fun _ kk => XS.iload X0.here hx rfl (hb hby d3_217) rfl kk) ?_
                            show Goes _ _ _ _ _ _ _ (T.setTop (mkF m 219 _ [(.int (i + (3 : Int32))), (.ref bb)]))
                            refine Goes.go (own_ldB X0 hx hZ e0 A0 (j := (i + (3 : Int32))) (v := (.int ((gi u (i + (3 : Int32)))).toInt8.toInt32)) (gi_take (f := (fun x : Int32 => Value.int x.toInt8.toInt32)) hl hN8 (by omega) (by omega)).1 (gi_take (f := (fun x : Int32 => Value.int x.toInt8.toInt32)) hl hN8 (by omega) (by omega)).2 rfl rfl (hb hby d3_219)) ?_
                            show Goes _ _ _ _ _ _ _ (T.setTop (mkF m 220 _ [(.int ((gi u (i + (3 : Int32)))).toInt8.toInt32)]))
                            refine Goes.go (fun _ kk => XS.sipush X0.here hx rfl (hb hby d3_220) kk) ?_
                            show Goes _ _ _ _ _ _ _ (T.setTop (mkF m 223 _ [(.int (192 : Int32)), (.int ((gi u (i + (3 : Int32)))).toInt8.toInt32)]))
                            refine Goes.go (fun _ kk => XS.iand X0.here hx rfl (hb hby d3_223) rfl kk) ?_
                            show Goes _ _ _ _ _ _ _ (T.setTop (mkF m 224 _ [(.int (((gi u (i + (3 : Int32)))).toInt8.toInt32 &&& (192 : Int32)))]))
                            rw [(m5 (hB _)).2]
                            show Goes _ _ _ _ _ _ _ (T.setTop (mkF m 224 _ [(.int ((gi u (i + (3 : Int32))) &&& (192 : Int32)))]))
                            refine Goes.go (fun _ kk => XS.sipush X0.here hx rfl (hb hby d3_224) kk) ?_
                            show Goes _ _ _ _ _ _ _ (T.setTop (mkF m 227 _ [(.int (128 : Int32)), (.int ((gi u (i + (3 : Int32))) &&& (192 : Int32)))]))
                            by_cases c227_1 : ((gi u (i + (3 : Int32))) &&& (192 : Int32)) = (128 : Int32)
                            · skip
                              refine Goes.go (fun _ kk => XS.icmpYes X0.here hx rfl (pc0 := 227) (pc' := 232) rfl (hb hby d3_227) rfl (XT.ii_eq_t c227_1) (by decide) (by decide) kk) ?_
                              show Goes _ _ _ _ _ _ _ (T.setTop (mkF m 232 _ []))
                              refine Goes.go (fun _ kk => XT.iincV X0.here hx rfl (1 : Int32) (hb hby d3_232) rfl rfl (l' := #[.val (.ref bb), .val (.int i), .val (.int (gi u i)), .val (.int (3 : Int32)), .val (.int (128 : Int32)), .val (.int (143 : Int32)), .val (.int (gi u (i + (1 : Int32)))), .val (.int ((i + (3 : Int32)) + (1 : Int32)))]) rfl kk) ?_
                              show Goes _ _ _ _ _ _ _ (T.setTop (mkF m 235 #[.val (.ref bb), .val (.int i), .val (.int (gi u i)), .val (.int (3 : Int32)), .val (.int (128 : Int32)), .val (.int (143 : Int32)), .val (.int (gi u (i + (1 : Int32)))), .val (.int ((i + (3 : Int32)) + (1 : Int32)))] []))
                              rw [own_34]
                              show Goes _ _ _ _ _ _ _ (T.setTop (mkF m 235 #[.val (.ref bb), .val (.int i), .val (.int (gi u i)), .val (.int (3 : Int32)), .val (.int (128 : Int32)), .val (.int (143 : Int32)), .val (.int (gi u (i + (1 : Int32)))), .val (.int (i + (4 : Int32)))] []))
                              refine Goes.go (fun _ kk => XS.goto X0.here hx rfl (pc0 := 235) (pc' := 208) rfl (hb hby d3_235) (by decide) (by decide) kk) ?_
                              show Goes _ _ _ _ _ _ _ (T.setTop (mkF m 208 _ []))
                              refine Goes.go (fun _ kk => XS.iload X0.here hx rfl (hb hby d3_208) rfl kk) ?_
                              show Goes _ _ _ _ _ _ _ (T.setTop (mkF m 210 _ [(.int (i + (4 : Int32)))]))
                              refine Goes.go (fun _ kk => XS.iloadN X0.here hx rfl (hb hby d3_210) rfl kk) ?_
                              show Goes _ _ _ _ _ _ _ (T.setTop (mkF m 211 _ [(.int i), (.int (i + (4 : Int32)))]))
                              refine Goes.go (fun _ kk => XS.iloadN X0.here hx rfl (hb hby d3_211) rfl kk) ?_
                              show Goes _ _ _ _ _ _ _ (T.setTop (mkF m 212 _ [(.int (3 : Int32)), (.int i), (.int (i + (4 : Int32)))]))
                              refine Goes.go (fun _ kk => XS.iadd X0.here hx rfl (hb hby d3_212) rfl kk) ?_
                              show Goes _ _ _ _ _ _ _ (T.setTop (mkF m 213 _ [(.int (i + (3 : Int32))), (.int (i + (4 : Int32)))]))
                              refine Goes.go (fun _ kk => XS.icmpYes X0.here hx rfl (pc0 := 213) (pc' := 238) rfl (hb hby d3_213) rfl (XT.ii_gt_t (Int32.lt_iff_toInt_lt.mpr (by rw [a3, a4]; omega))) (by decide) (by decide) kk) ?_
                              show Goes _ _ _ _ _ _ _ (T.setTop (mkF m 238 _ []))
                              refine Goes.go (fun _ kk => XS.iloadN X0.here hx rfl (hb hby d3_238) rfl kk) ?_
                              show Goes _ _ _ _ _ _ _ (T.setTop (mkF m 239 _ [(.int i)]))
                              refine Goes.go (fun _ kk => XS.iconst X0.here hx rfl (hb hby d3_239) kk) ?_
                              show Goes _ _ _ _ _ _ _ (T.setTop (mkF m 240 _ [(.int (1 : Int32)), (.int i)]))
                              refine Goes.go (fun _ kk => XS.iloadN X0.here hx rfl (hb hby d3_240) rfl kk) ?_
                              show Goes _ _ _ _ _ _ _ (T.setTop (mkF m 241 _ [(.int (3 : Int32)), (.int (1 : Int32)), (.int i)]))
                              refine Goes.go (fun _ kk => XS.iadd X0.here hx rfl (hb hby d3_241) rfl kk) ?_
                              show Goes _ _ _ _ _ _ _ (T.setTop (mkF m 242 _ [(.int (4 : Int32)), (.int i)]))
                              refine Goes.go (fun _ kk => XS.iadd X0.here hx rfl (hb hby d3_242) rfl kk) ?_
                              show Goes _ _ _ _ _ _ _ (T.setTop (mkF m 243 _ [(.int (i + (4 : Int32)))]))
                              refine Goes.go (fun _ kk => XS.istoreN X0.here hx rfl (hb hby d3_243) rfl (l' := #[.val (.ref bb), .val (.int (i + (4 : Int32))), .val (.int (gi u i)), .val (.int (3 : Int32)), .val (.int (128 : Int32)), .val (.int (143 : Int32)), .val (.int (gi u (i + (1 : Int32)))), .val (.int (i + (4 : Int32)))]) rfl kk) ?_
                              show Goes _ _ _ _ _ _ _ (T.setTop (mkF m 244 #[.val (.ref bb), .val (.int (i + (4 : Int32))), .val (.int (gi u i)), .val (.int (3 : Int32)), .val (.int (128 : Int32)), .val (.int (143 : Int32)), .val (.int (gi u (i + (1 : Int32)))), .val (.int (i + (4 : Int32)))] []))
                              refine Goes.go (fun _ kk => XS.goto X0.here hx rfl (pc0 := 244) (pc' := 2) rfl (hb hby d3_244) (by decide) (by decide) kk) ?_
                              show Goes _ _ _ _ _ _ _ (T.setTop (mkF m 2 _ []))
                              have hut : utF u n i = 4 := by simp only [utF, ut2, ut3, ck1, ck2, ck3, if_pos c5, if_neg c20, if_neg c43, if_pos c50, if_neg c62, if_pos c69, if_neg c115, if_neg c122, if_neg c131, if_pos c148, if_pos c171, if_neg c191, if_neg c198, if_pos c227, if_pos c227_1]
                              have hu : UF u n (k + 1) i = UF u n k (i + (4 : Int32)) := by
                                show (if i < n then (if utF u n i = 0 then 0 else UF u n k (i + utF u n i)) else 1) = _
                                rw [if_pos c5, hut, if_neg (by decide)]
                              rw [hu] at hQ
                              exact ih _ _ _ _ _ _ _ (One.val rfl) (One.val rfl) (One.val rfl) (One.val rfl) (One.val rfl) (One.val rfl) (by omega) (by omega) (by omega) hQ
                            · skip
                              refine Goes.go (fun _ kk => XS.icmpNo X0.here hx rfl (hb hby d3_227) rfl (XT.ii_eq_f c227_1) kk) ?_
                              show Goes _ _ _ _ _ _ _ (T.setTop (mkF m 230 _ []))
                              refine Goes.go (fun _ kk => XS.iconst X0.here hx rfl (hb hby d3_230) kk) ?_
                              show Goes _ _ _ _ _ _ _ (T.setTop (mkF m 231 _ [(.int (0 : Int32))]))
                              have hut : utF u n i = 0 := by simp only [utF, ut2, ut3, ck1, ck2, ck3, if_pos c5, if_neg c20, if_neg c43, if_pos c50, if_neg c62, if_pos c69, if_neg c115, if_neg c122, if_neg c131, if_pos c148, if_pos c171, if_neg c191, if_neg c198, if_pos c227, if_neg c227_1]
                              have hu : UF u n (k + 1) i = 0 := by
                                show (if i < n then (if utF u n i = 0 then 0 else UF u n k (i + utF u n i)) else 1) = _
                                rw [if_pos c5, hut, if_pos rfl]
                              rw [hu] at hQ
                              exact Goes.outZ X0 hx hlk hret rfl (hb hby d3_231) e0 (hQ _ N0) (by decide) (by decide)
                          · skip
                            refine Goes.go (fun _ kk => XS.icmpNo X0.here hx rfl (hb hby d3_227) rfl (XT.ii_eq_f c227) kk) ?_
                            show Goes _ _ _ _ _ _ _ (T.setTop (mkF m 230 _ []))
                            refine Goes.go (fun _ kk => XS.iconst X0.here hx rfl (hb hby d3_230) kk) ?_
                            show Goes _ _ _ _ _ _ _ (T.setTop (mkF m 231 _ [(.int (0 : Int32))]))
                            have hut : utF u n i = 0 := by simp only [utF, ut2, ut3, ck1, ck2, ck3, if_pos c5, if_neg c20, if_neg c43, if_pos c50, if_neg c62, if_pos c69, if_neg c115, if_neg c122, if_neg c131, if_pos c148, if_pos c171, if_neg c191, if_neg c198, if_neg c227]
                            have hu : UF u n (k + 1) i = 0 := by
                              show (if i < n then (if utF u n i = 0 then 0 else UF u n k (i + utF u n i)) else 1) = _
                              rw [if_pos c5, hut, if_pos rfl]
                            rw [hu] at hQ
                            exact Goes.outZ X0 hx hlk hret rfl (hb hby d3_231) e0 (hQ _ N0) (by decide) (by decide)
                    · skip
                      refine Goes.go (fun _ kk => XS.icmpNo X0.here hx rfl (hb hby d3_171) rfl (XT.ii_gt_f c171) kk) ?_
                      show Goes _ _ _ _ _ _ _ (T.setTop (mkF m 174 _ []))
                      refine Goes.go (fun _ kk => XS.iconst X0.here hx rfl (hb hby d3_174) kk) ?_
                      show Goes _ _ _ _ _ _ _ (T.setTop (mkF m 175 _ [(.int (0 : Int32))]))
                      have hut : utF u n i = 0 := by simp only [utF, ut2, ut3, ck1, ck2, ck3, if_pos c5, if_neg c20, if_neg c43, if_pos c50, if_neg c62, if_pos c69, if_neg c115, if_neg c122, if_neg c131, if_pos c148, if_neg c171]
                      have hu : UF u n (k + 1) i = 0 := by
                        show (if i < n then (if utF u n i = 0 then 0 else UF u n k (i + utF u n i)) else 1) = _
                        rw [if_pos c5, hut, if_pos rfl]
                      rw [hu] at hQ
                      exact Goes.outZ X0 hx hlk hret rfl (hb hby d3_175) e0 (hQ _ N0) (by decide) (by decide)
                  · skip
                    refine Goes.go (fun _ kk => XS.icmpYes X0.here hx rfl (pc0 := 148) (pc' := 157) rfl (hb hby d3_148) rfl (XT.ii_ne_t c148) (by decide) (by decide) kk) ?_
                    show Goes _ _ _ _ _ _ _ (T.setTop (mkF m 157 _ []))
                    refine Goes.go (fun _ kk => XS.iload X0.here hx rfl (hb hby d3_157) rfl kk) ?_
                    show Goes _ _ _ _ _ _ _ (T.setTop (mkF m 159 _ [(.int (191 : Int32))]))
                    refine Goes.go (fun _ kk => XS.istore X0.here hx rfl (hb hby d3_159) rfl (l' := #[.val (.ref bb), .val (.int i), .val (.int (gi u i)), .val (.int (3 : Int32)), .val (.int (128 : Int32)), .val (.int (191 : Int32)), o6, o7]) rfl kk) ?_
                    show Goes _ _ _ _ _ _ _ (T.setTop (mkF m 161 _ []))
                    refine Goes.go (fun _ kk => XS.goto X0.here hx rfl (pc0 := 161) (pc' := 166) rfl (hb hby d3_161) (by decide) (by decide) kk) ?_
                    show Goes _ _ _ _ _ _ _ (T.setTop (mkF m 166 _ []))
                    have a1 : (i + (1 : Int32)).toInt = i.toInt + 1 := own_ad (by decide) hi0 (by omega) (by decide) (by decide)
                    have a2 : (i + (2 : Int32)).toInt = i.toInt + 2 := own_ad (by decide) hi0 (by omega) (by decide) (by decide)
                    have a3 : (i + (3 : Int32)).toInt = i.toInt + 3 := own_ad (by decide) hi0 (by omega) (by decide) (by decide)
                    have a4 : (i + (4 : Int32)).toInt = i.toInt + 4 := own_ad (by decide) hi0 (by omega) (by decide) (by decide)
                    have sb := own_sb hi0 (by omega) (by omega : 0 ≤ n.toInt) (by omega)
                    refine Goes.go (fun _ kk => XS.aloadN X0.here hx rfl (hb hby d3_166) rfl rfl kk) ?_
                    show Goes _ _ _ _ _ _ _ (T.setTop (mkF m 167 _ [(.ref bb)]))
                    refine Goes.go (own_len X0 hx hZ e0 A0 (n := n) hln rfl rfl (hb hby d3_167)) ?_
                    show Goes _ _ _ _ _ _ _ (T.setTop (mkF m 168 _ [(.int n)]))
                    refine Goes.go (fun _ kk => XS.iloadN X0.here hx rfl (hb hby d3_168) rfl kk) ?_
                    show Goes _ _ _ _ _ _ _ (T.setTop (mkF m 169 _ [(.int i), (.int n)]))
                    refine Goes.go (fun _ kk => XS.isub X0.here hx rfl (hb hby d3_169) rfl kk) ?_
                    show Goes _ _ _ _ _ _ _ (T.setTop (mkF m 170 _ [(.int (n - i))]))
                    refine Goes.go (fun _ kk => XS.iloadN X0.here hx rfl (hb hby d3_170) rfl kk) ?_
                    show Goes _ _ _ _ _ _ _ (T.setTop (mkF m 171 _ [(.int (3 : Int32)), (.int (n - i))]))
                    by_cases c171 : (3 : Int32) < (n - i)
                    · skip
                      refine Goes.go (fun _ kk => XS.icmpYes X0.here hx rfl (pc0 := 171) (pc' := 176) rfl (hb hby d3_171) rfl (XT.ii_gt_t c171) (by decide) (by decide) kk) ?_
                      show Goes _ _ _ _ _ _ _ (T.setTop (mkF m 176 _ []))
                      have hf : 3 < n.toInt - i.toInt := by have q := Int32.lt_iff_toInt_lt.mp c171; rw [sb] at q; exact q
                      refine Goes.go (fun _ kk => XS.aloadN X0.here hx rfl (hb hby d3_176) rfl rfl kk) ?_
                      show Goes _ _ _ _ _ _ _ (T.setTop (mkF m 177 _ [(.ref bb)]))
                      refine Goes.go (fun _ kk => XS.iloadN X0.here hx rfl (hb hby d3_177) rfl kk) ?_
                      show Goes _ _ _ _ _ _ _ (T.setTop (mkF m 178 _ [(.int i), (.ref bb)]))
                      refine Goes.go (fun _ kk => XS.iconst X0.here hx rfl (hb hby d3_178) kk) ?_
                      show Goes _ _ _ _ _ _ _ (T.setTop (mkF m 179 _ [(.int (1 : Int32)), (.int i), (.ref bb)]))
                      refine Goes.go (fun _ kk => XS.iadd X0.here hx rfl (hb hby d3_179) rfl kk) ?_
                      show Goes _ _ _ _ _ _ _ (T.setTop (mkF m 180 _ [(.int (i + (1 : Int32))), (.ref bb)]))
                      refine Goes.go (own_ldB X0 hx hZ e0 A0 (j := (i + (1 : Int32))) (v := (.int ((gi u (i + (1 : Int32)))).toInt8.toInt32)) (gi_take (f := (fun x : Int32 => Value.int x.toInt8.toInt32)) hl hN8 (by omega) (by omega)).1 (gi_take (f := (fun x : Int32 => Value.int x.toInt8.toInt32)) hl hN8 (by omega) (by omega)).2 rfl rfl (hb hby d3_180)) ?_
                      show Goes _ _ _ _ _ _ _ (T.setTop (mkF m 181 _ [(.int ((gi u (i + (1 : Int32)))).toInt8.toInt32)]))
                      refine Goes.go (fun _ kk => XS.sipush X0.here hx rfl (hb hby d3_181) kk) ?_
                      show Goes _ _ _ _ _ _ _ (T.setTop (mkF m 184 _ [(.int (255 : Int32)), (.int ((gi u (i + (1 : Int32)))).toInt8.toInt32)]))
                      refine Goes.go (fun _ kk => XS.iand X0.here hx rfl (hb hby d3_184) rfl kk) ?_
                      show Goes _ _ _ _ _ _ _ (T.setTop (mkF m 185 _ [(.int (((gi u (i + (1 : Int32)))).toInt8.toInt32 &&& (255 : Int32)))]))
                      rw [(m5 (hB _)).1]
                      show Goes _ _ _ _ _ _ _ (T.setTop (mkF m 185 _ [(.int (gi u (i + (1 : Int32))))]))
                      refine Goes.go (fun _ kk => XS.istoreS X0.here hx rfl (hb hby d3_185) rfl rfl q6 kk) ?_
                      show Goes _ _ _ _ _ _ _ (T.setTop (mkF m 187 #[.val (.ref bb), .val (.int i), .val (.int (gi u i)), .val (.int (3 : Int32)), .val (.int (128 : Int32)), .val (.int (191 : Int32)), .val (.int (gi u (i + (1 : Int32)))), o7] []))
                      refine Goes.go (fun _ kk => XS.iload X0.here hx rfl (hb hby d3_187) rfl kk) ?_
                      show Goes _ _ _ _ _ _ _ (T.setTop (mkF m 189 _ [(.int (gi u (i + (1 : Int32))))]))
                      refine Goes.go (fun _ kk => XS.iload X0.here hx rfl (hb hby d3_189) rfl kk) ?_
                      show Goes _ _ _ _ _ _ _ (T.setTop (mkF m 191 _ [(.int (128 : Int32)), (.int (gi u (i + (1 : Int32))))]))
                      by_cases c191 : (gi u (i + (1 : Int32))) < (128 : Int32)
                      · skip
                        refine Goes.go (fun _ kk => XS.icmpYes X0.here hx rfl (pc0 := 191) (pc' := 201) rfl (hb hby d3_191) rfl (XT.ii_lt_t c191) (by decide) (by decide) kk) ?_
                        show Goes _ _ _ _ _ _ _ (T.setTop (mkF m 201 _ []))
                        refine Goes.go (fun _ kk => XS.iconst X0.here hx rfl (hb hby d3_201) kk) ?_
                        show Goes _ _ _ _ _ _ _ (T.setTop (mkF m 202 _ [(.int (0 : Int32))]))
                        have hut : utF u n i = 0 := by simp only [utF, ut2, ut3, ck1, ck2, ck3, if_pos c5, if_neg c20, if_neg c43, if_pos c50, if_neg c62, if_pos c69, if_neg c115, if_neg c122, if_neg c131, if_neg c148, if_pos c171, if_pos c191]
                        have hu : UF u n (k + 1) i = 0 := by
                          show (if i < n then (if utF u n i = 0 then 0 else UF u n k (i + utF u n i)) else 1) = _
                          rw [if_pos c5, hut, if_pos rfl]
                        rw [hu] at hQ
                        exact Goes.outZ X0 hx hlk hret rfl (hb hby d3_202) e0 (hQ _ N0) (by decide) (by decide)
                      · skip
                        refine Goes.go (fun _ kk => XS.icmpNo X0.here hx rfl (hb hby d3_191) rfl (XT.ii_lt_f c191) kk) ?_
                        show Goes _ _ _ _ _ _ _ (T.setTop (mkF m 194 _ []))
                        refine Goes.go (fun _ kk => XS.iload X0.here hx rfl (hb hby d3_194) rfl kk) ?_
                        show Goes _ _ _ _ _ _ _ (T.setTop (mkF m 196 _ [(.int (gi u (i + (1 : Int32))))]))
                        refine Goes.go (fun _ kk => XS.iload X0.here hx rfl (hb hby d3_196) rfl kk) ?_
                        show Goes _ _ _ _ _ _ _ (T.setTop (mkF m 198 _ [(.int (191 : Int32)), (.int (gi u (i + (1 : Int32))))]))
                        by_cases c198 : (191 : Int32) < (gi u (i + (1 : Int32)))
                        · skip
                          refine Goes.go (fun _ kk => XS.icmpNo X0.here hx rfl (hb hby d3_198) rfl (XT.ii_le_f c198) kk) ?_
                          show Goes _ _ _ _ _ _ _ (T.setTop (mkF m 201 _ []))
                          refine Goes.go (fun _ kk => XS.iconst X0.here hx rfl (hb hby d3_201) kk) ?_
                          show Goes _ _ _ _ _ _ _ (T.setTop (mkF m 202 _ [(.int (0 : Int32))]))
                          have hut : utF u n i = 0 := by simp only [utF, ut2, ut3, ck1, ck2, ck3, if_pos c5, if_neg c20, if_neg c43, if_pos c50, if_neg c62, if_pos c69, if_neg c115, if_neg c122, if_neg c131, if_neg c148, if_pos c171, if_neg c191, if_pos c198]
                          have hu : UF u n (k + 1) i = 0 := by
                            show (if i < n then (if utF u n i = 0 then 0 else UF u n k (i + utF u n i)) else 1) = _
                            rw [if_pos c5, hut, if_pos rfl]
                          rw [hu] at hQ
                          exact Goes.outZ X0 hx hlk hret rfl (hb hby d3_202) e0 (hQ _ N0) (by decide) (by decide)
                        · skip
                          refine Goes.go (fun _ kk => XS.icmpYes X0.here hx rfl (pc0 := 198) (pc' := 203) rfl (hb hby d3_198) rfl (XT.ii_le_t c198) (by decide) (by decide) kk) ?_
                          show Goes _ _ _ _ _ _ _ (T.setTop (mkF m 203 _ []))
                          refine Goes.go (fun _ kk => XS.iloadN X0.here hx rfl (hb hby d3_203) rfl kk) ?_
                          show Goes _ _ _ _ _ _ _ (T.setTop (mkF m 204 _ [(.int i)]))
                          refine Goes.go (fun _ kk => XS.iconst X0.here hx rfl (hb hby d3_204) kk) ?_
                          show Goes _ _ _ _ _ _ _ (T.setTop (mkF m 205 _ [(.int (2 : Int32)), (.int i)]))
                          refine Goes.go (fun _ kk => XS.iadd X0.here hx rfl (hb hby d3_205) rfl kk) ?_
                          show Goes _ _ _ _ _ _ _ (T.setTop (mkF m 206 _ [(.int (i + (2 : Int32)))]))
                          refine Goes.go (fun _ kk => XS.istoreS X0.here hx rfl (hb hby d3_206) rfl rfl q7 kk) ?_
                          show Goes _ _ _ _ _ _ _ (T.setTop (mkF m 208 #[.val (.ref bb), .val (.int i), .val (.int (gi u i)), .val (.int (3 : Int32)), .val (.int (128 : Int32)), .val (.int (191 : Int32)), .val (.int (gi u (i + (1 : Int32)))), .val (.int (i + (2 : Int32)))] []))
                          refine Goes.go (fun _ kk => XS.iload X0.here hx rfl (hb hby d3_208) rfl kk) ?_
                          show Goes _ _ _ _ _ _ _ (T.setTop (mkF m 210 _ [(.int (i + (2 : Int32)))]))
                          refine Goes.go (fun _ kk => XS.iloadN X0.here hx rfl (hb hby d3_210) rfl kk) ?_
                          show Goes _ _ _ _ _ _ _ (T.setTop (mkF m 211 _ [(.int i), (.int (i + (2 : Int32)))]))
                          refine Goes.go (fun _ kk => XS.iloadN X0.here hx rfl (hb hby d3_211) rfl kk) ?_
                          show Goes _ _ _ _ _ _ _ (T.setTop (mkF m 212 _ [(.int (3 : Int32)), (.int i), (.int (i + (2 : Int32)))]))
                          refine Goes.go (fun _ kk => XS.iadd X0.here hx rfl (hb hby d3_212) rfl kk) ?_
                          show Goes _ _ _ _ _ _ _ (T.setTop (mkF m 213 _ [(.int (i + (3 : Int32))), (.int (i + (2 : Int32)))]))
                          refine Goes.go (fun _ kk => XS.icmpNo X0.here hx rfl (hb hby d3_213) rfl (XT.ii_gt_f (fun q => by have q := Int32.lt_iff_toInt_lt.mp q; rw [a3, a2] at q; omega)) kk) ?_
                          show Goes _ _ _ _ _ _ _ (T.setTop (mkF m 216 _ []))
                          refine Goes.go (fun _ kk => XS.aloadN X0.here hx rfl (hb hby d3_216) rfl rfl kk) ?_
                          show Goes _ _ _ _ _ _ _ (T.setTop (mkF m 217 _ [(.ref bb)]))
                          refine Goes.go (fun _ kk => XS.iload X0.here hx rfl (hb hby d3_217) rfl kk) ?_
                          show Goes _ _ _ _ _ _ _ (T.setTop (mkF m 219 _ [(.int (i + (2 : Int32))), (.ref bb)]))
                          refine Goes.go (own_ldB X0 hx hZ e0 A0 (j := (i + (2 : Int32))) (v := (.int ((gi u (i + (2 : Int32)))).toInt8.toInt32)) (gi_take (f := (fun x : Int32 => Value.int x.toInt8.toInt32)) hl hN8 (by omega) (by omega)).1 (gi_take (f := (fun x : Int32 => Value.int x.toInt8.toInt32)) hl hN8 (by omega) (by omega)).2 rfl rfl (hb hby d3_219)) ?_
                          show Goes _ _ _ _ _ _ _ (T.setTop (mkF m 220 _ [(.int ((gi u (i + (2 : Int32)))).toInt8.toInt32)]))
                          refine Goes.go (fun _ kk => XS.sipush X0.here hx rfl (hb hby d3_220) kk) ?_
                          show Goes _ _ _ _ _ _ _ (T.setTop (mkF m 223 _ [(.int (192 : Int32)), (.int ((gi u (i + (2 : Int32)))).toInt8.toInt32)]))
                          refine Goes.go (fun _ kk => XS.iand X0.here hx rfl (hb hby d3_223) rfl kk) ?_
                          show Goes _ _ _ _ _ _ _ (T.setTop (mkF m 224 _ [(.int (((gi u (i + (2 : Int32)))).toInt8.toInt32 &&& (192 : Int32)))]))
                          rw [(m5 (hB _)).2]
                          show Goes _ _ _ _ _ _ _ (T.setTop (mkF m 224 _ [(.int ((gi u (i + (2 : Int32))) &&& (192 : Int32)))]))
                          refine Goes.go (fun _ kk => XS.sipush X0.here hx rfl (hb hby d3_224) kk) ?_
                          show Goes _ _ _ _ _ _ _ (T.setTop (mkF m 227 _ [(.int (128 : Int32)), (.int ((gi u (i + (2 : Int32))) &&& (192 : Int32)))]))
                          by_cases c227 : ((gi u (i + (2 : Int32))) &&& (192 : Int32)) = (128 : Int32)
                          · skip
                            refine Goes.go (fun _ kk => XS.icmpYes X0.here hx rfl (pc0 := 227) (pc' := 232) rfl (hb hby d3_227) rfl (XT.ii_eq_t c227) (by decide) (by decide) kk) ?_
                            show Goes _ _ _ _ _ _ _ (T.setTop (mkF m 232 _ []))
                            refine Goes.go (fun _ kk => XT.iincV X0.here hx rfl (1 : Int32) (hb hby d3_232) rfl rfl (l' := #[.val (.ref bb), .val (.int i), .val (.int (gi u i)), .val (.int (3 : Int32)), .val (.int (128 : Int32)), .val (.int (191 : Int32)), .val (.int (gi u (i + (1 : Int32)))), .val (.int ((i + (2 : Int32)) + (1 : Int32)))]) rfl kk) ?_
                            show Goes _ _ _ _ _ _ _ (T.setTop (mkF m 235 #[.val (.ref bb), .val (.int i), .val (.int (gi u i)), .val (.int (3 : Int32)), .val (.int (128 : Int32)), .val (.int (191 : Int32)), .val (.int (gi u (i + (1 : Int32)))), .val (.int ((i + (2 : Int32)) + (1 : Int32)))] []))
                            rw [own_23]
                            show Goes _ _ _ _ _ _ _ (T.setTop (mkF m 235 #[.val (.ref bb), .val (.int i), .val (.int (gi u i)), .val (.int (3 : Int32)), .val (.int (128 : Int32)), .val (.int (191 : Int32)), .val (.int (gi u (i + (1 : Int32)))), .val (.int (i + (3 : Int32)))] []))
                            refine Goes.go (fun _ kk => XS.goto X0.here hx rfl (pc0 := 235) (pc' := 208) rfl (hb hby d3_235) (by decide) (by decide) kk) ?_
                            show Goes _ _ _ _ _ _ _ (T.setTop (mkF m 208 _ []))
                            refine Goes.go (fun _ kk => XS.iload X0.here hx rfl (hb hby d3_208) rfl kk) ?_
                            show Goes _ _ _ _ _ _ _ (T.setTop (mkF m 210 _ [(.int (i + (3 : Int32)))]))
                            refine Goes.go (fun _ kk => XS.iloadN X0.here hx rfl (hb hby d3_210) rfl kk) ?_
                            show Goes _ _ _ _ _ _ _ (T.setTop (mkF m 211 _ [(.int i), (.int (i + (3 : Int32)))]))
                            refine Goes.go (fun _ kk => XS.iloadN X0.here hx rfl (hb hby d3_211) rfl kk) ?_
                            show Goes _ _ _ _ _ _ _ (T.setTop (mkF m 212 _ [(.int (3 : Int32)), (.int i), (.int (i + (3 : Int32)))]))
                            refine Goes.go (fun _ kk => XS.iadd X0.here hx rfl (hb hby d3_212) rfl kk) ?_
                            show Goes _ _ _ _ _ _ _ (T.setTop (mkF m 213 _ [(.int (i + (3 : Int32))), (.int (i + (3 : Int32)))]))
                            refine Goes.go (fun _ kk => XS.icmpNo X0.here hx rfl (hb hby d3_213) rfl (XT.ii_gt_f (fun q => by have q := Int32.lt_iff_toInt_lt.mp q; rw [a3] at q; omega)) kk) ?_
                            show Goes _ _ _ _ _ _ _ (T.setTop (mkF m 216 _ []))
                            refine Goes.go (fun _ kk => XS.aloadN X0.here hx rfl (hb hby d3_216) rfl rfl kk) ?_
                            show Goes _ _ _ _ _ _ _ (T.setTop (mkF m 217 _ [(.ref bb)]))
                            refine Goes.go (fun _ kk => XS.iload X0.here hx rfl (hb hby d3_217) rfl kk) ?_
                            show Goes _ _ _ _ _ _ _ (T.setTop (mkF m 219 _ [(.int (i + (3 : Int32))), (.ref bb)]))
                            refine Goes.go (own_ldB X0 hx hZ e0 A0 (j := (i + (3 : Int32))) (v := (.int ((gi u (i + (3 : Int32)))).toInt8.toInt32)) (gi_take (f := (fun x : Int32 => Value.int x.toInt8.toInt32)) hl hN8 (by omega) (by omega)).1 (gi_take (f := (fun x : Int32 => Value.int x.toInt8.toInt32)) hl hN8 (by omega) (by omega)).2 rfl rfl (hb hby d3_219)) ?_
                            show Goes _ _ _ _ _ _ _ (T.setTop (mkF m 220 _ [(.int ((gi u (i + (3 : Int32)))).toInt8.toInt32)]))
                            refine Goes.go (fun _ kk => XS.sipush X0.here hx rfl (hb hby d3_220) kk) ?_
                            show Goes _ _ _ _ _ _ _ (T.setTop (mkF m 223 _ [(.int (192 : Int32)), (.int ((gi u (i + (3 : Int32)))).toInt8.toInt32)]))
                            refine Goes.go (fun _ kk => XS.iand X0.here hx rfl (hb hby d3_223) rfl kk) ?_
                            show Goes _ _ _ _ _ _ _ (T.setTop (mkF m 224 _ [(.int (((gi u (i + (3 : Int32)))).toInt8.toInt32 &&& (192 : Int32)))]))
                            rw [(m5 (hB _)).2]
                            show Goes _ _ _ _ _ _ _ (T.setTop (mkF m 224 _ [(.int ((gi u (i + (3 : Int32))) &&& (192 : Int32)))]))
                            refine Goes.go (fun _ kk => XS.sipush X0.here hx rfl (hb hby d3_224) kk) ?_
                            show Goes _ _ _ _ _ _ _ (T.setTop (mkF m 227 _ [(.int (128 : Int32)), (.int ((gi u (i + (3 : Int32))) &&& (192 : Int32)))]))
                            by_cases c227_1 : ((gi u (i + (3 : Int32))) &&& (192 : Int32)) = (128 : Int32)
                            · skip
                              refine Goes.go (fun _ kk => XS.icmpYes X0.here hx rfl (pc0 := 227) (pc' := 232) rfl (hb hby d3_227) rfl (XT.ii_eq_t c227_1) (by decide) (by decide) kk) ?_
                              show Goes _ _ _ _ _ _ _ (T.setTop (mkF m 232 _ []))
                              refine Goes.go (fun _ kk => XT.iincV X0.here hx rfl (1 : Int32) (hb hby d3_232) rfl rfl (l' := #[.val (.ref bb), .val (.int i), .val (.int (gi u i)), .val (.int (3 : Int32)), .val (.int (128 : Int32)), .val (.int (191 : Int32)), .val (.int (gi u (i + (1 : Int32)))), .val (.int ((i + (3 : Int32)) + (1 : Int32)))]) rfl kk) ?_
                              show Goes _ _ _ _ _ _ _ (T.setTop (mkF m 235 #[.val (.ref bb), .val (.int i), .val (.int (gi u i)), .val (.int (3 : Int32)), .val (.int (128 : Int32)), .val (.int (191 : Int32)), .val (.int (gi u (i + (1 : Int32)))), .val (.int ((i + (3 : Int32)) + (1 : Int32)))] []))
                              rw [own_34]
                              show Goes _ _ _ _ _ _ _ (T.setTop (mkF m 235 #[.val (.ref bb), .val (.int i), .val (.int (gi u i)), .val (.int (3 : Int32)), .val (.int (128 : Int32)), .val (.int (191 : Int32)), .val (.int (gi u (i + (1 : Int32)))), .val (.int (i + (4 : Int32)))] []))
                              refine Goes.go (fun _ kk => XS.goto X0.here hx rfl (pc0 := 235) (pc' := 208) rfl (hb hby d3_235) (by decide) (by decide) kk) ?_
                              show Goes _ _ _ _ _ _ _ (T.setTop (mkF m 208 _ []))
                              refine Goes.go (fun _ kk => XS.iload X0.here hx rfl (hb hby d3_208) rfl kk) ?_
                              show Goes _ _ _ _ _ _ _ (T.setTop (mkF m 210 _ [(.int (i + (4 : Int32)))]))
                              refine Goes.go (fun _ kk => XS.iloadN X0.here hx rfl (hb hby d3_210) rfl kk) ?_
                              show Goes _ _ _ _ _ _ _ (T.setTop (mkF m 211 _ [(.int i), (.int (i + (4 : Int32)))]))
                              refine Goes.go (fun _ kk => XS.iloadN X0.here hx rfl (hb hby d3_211) rfl kk) ?_
                              show Goes _ _ _ _ _ _ _ (T.setTop (mkF m 212 _ [(.int (3 : Int32)), (.int i), (.int (i + (4 : Int32)))]))
                              refine Goes.go (fun _ kk => XS.iadd X0.here hx rfl (hb hby d3_212) rfl kk) ?_
                              show Goes _ _ _ _ _ _ _ (T.setTop (mkF m 213 _ [(.int (i + (3 : Int32))), (.int (i + (4 : Int32)))]))
                              refine Goes.go (fun _ kk => XS.icmpYes X0.here hx rfl (pc0 := 213) (pc' := 238) rfl (hb hby d3_213) rfl (XT.ii_gt_t (Int32.lt_iff_toInt_lt.mpr (by rw [a3, a4]; omega))) (by decide) (by decide) kk) ?_
                              show Goes _ _ _ _ _ _ _ (T.setTop (mkF m 238 _ []))
                              refine Goes.go (fun _ kk => XS.iloadN X0.here hx rfl (hb hby d3_238) rfl kk) ?_
                              show Goes _ _ _ _ _ _ _ (T.setTop (mkF m 239 _ [(.int i)]))
                              refine Goes.go (fun _ kk => XS.iconst X0.here hx rfl (hb hby d3_239) kk) ?_
                              show Goes _ _ _ _ _ _ _ (T.setTop (mkF m 240 _ [(.int (1 : Int32)), (.int i)]))
                              refine Goes.go (fun _ kk => XS.iloadN X0.here hx rfl (hb hby d3_240) rfl kk) ?_
                              show Goes _ _ _ _ _ _ _ (T.setTop (mkF m 241 _ [(.int (3 : Int32)), (.int (1 : Int32)), (.int i)]))
                              refine Goes.go (fun _ kk => XS.iadd X0.here hx rfl (hb hby d3_241) rfl kk) ?_
                              show Goes _ _ _ _ _ _ _ (T.setTop (mkF m 242 _ [(.int (4 : Int32)), (.int i)]))
                              refine Goes.go (fun _ kk => XS.iadd X0.here hx rfl (hb hby d3_242) rfl kk) ?_
                              show Goes _ _ _ _ _ _ _ (T.setTop (mkF m 243 _ [(.int (i + (4 : Int32)))]))
                              refine Goes.go (fun _ kk => XS.istoreN X0.here hx rfl (hb hby d3_243) rfl (l' := #[.val (.ref bb), .val (.int (i + (4 : Int32))), .val (.int (gi u i)), .val (.int (3 : Int32)), .val (.int (128 : Int32)), .val (.int (191 : Int32)), .val (.int (gi u (i + (1 : Int32)))), .val (.int (i + (4 : Int32)))]) rfl kk) ?_
                              show Goes _ _ _ _ _ _ _ (T.setTop (mkF m 244 #[.val (.ref bb), .val (.int (i + (4 : Int32))), .val (.int (gi u i)), .val (.int (3 : Int32)), .val (.int (128 : Int32)), .val (.int (191 : Int32)), .val (.int (gi u (i + (1 : Int32)))), .val (.int (i + (4 : Int32)))] []))
                              refine Goes.go (fun _ kk => XS.goto X0.here hx rfl (pc0 := 244) (pc' := 2) rfl (hb hby d3_244) (by decide) (by decide) kk) ?_
                              show Goes _ _ _ _ _ _ _ (T.setTop (mkF m 2 _ []))
                              have hut : utF u n i = 4 := by simp only [utF, ut2, ut3, ck1, ck2, ck3, if_pos c5, if_neg c20, if_neg c43, if_pos c50, if_neg c62, if_pos c69, if_neg c115, if_neg c122, if_neg c131, if_neg c148, if_pos c171, if_neg c191, if_neg c198, if_pos c227, if_pos c227_1]
                              have hu : UF u n (k + 1) i = UF u n k (i + (4 : Int32)) := by
                                show (if i < n then (if utF u n i = 0 then 0 else UF u n k (i + utF u n i)) else 1) = _
                                rw [if_pos c5, hut, if_neg (by decide)]
                              rw [hu] at hQ
                              exact ih _ _ _ _ _ _ _ (One.val rfl) (One.val rfl) (One.val rfl) (One.val rfl) (One.val rfl) (One.val rfl) (by omega) (by omega) (by omega) hQ
                            · skip
                              refine Goes.go (fun _ kk => XS.icmpNo X0.here hx rfl (hb hby d3_227) rfl (XT.ii_eq_f c227_1) kk) ?_
                              show Goes _ _ _ _ _ _ _ (T.setTop (mkF m 230 _ []))
                              refine Goes.go (fun _ kk => XS.iconst X0.here hx rfl (hb hby d3_230) kk) ?_
                              show Goes _ _ _ _ _ _ _ (T.setTop (mkF m 231 _ [(.int (0 : Int32))]))
                              have hut : utF u n i = 0 := by simp only [utF, ut2, ut3, ck1, ck2, ck3, if_pos c5, if_neg c20, if_neg c43, if_pos c50, if_neg c62, if_pos c69, if_neg c115, if_neg c122, if_neg c131, if_neg c148, if_pos c171, if_neg c191, if_neg c198, if_pos c227, if_neg c227_1]
                              have hu : UF u n (k + 1) i = 0 := by
                                show (if i < n then (if utF u n i = 0 then 0 else UF u n k (i + utF u n i)) else 1) = _
                                rw [if_pos c5, hut, if_pos rfl]
                              rw [hu] at hQ
                              exact Goes.outZ X0 hx hlk hret rfl (hb hby d3_231) e0 (hQ _ N0) (by decide) (by decide)
                          · skip
                            refine Goes.go (fun _ kk => XS.icmpNo X0.here hx rfl (hb hby d3_227) rfl (XT.ii_eq_f c227) kk) ?_
                            show Goes _ _ _ _ _ _ _ (T.setTop (mkF m 230 _ []))
                            refine Goes.go (fun _ kk => XS.iconst X0.here hx rfl (hb hby d3_230) kk) ?_
                            show Goes _ _ _ _ _ _ _ (T.setTop (mkF m 231 _ [(.int (0 : Int32))]))
                            have hut : utF u n i = 0 := by simp only [utF, ut2, ut3, ck1, ck2, ck3, if_pos c5, if_neg c20, if_neg c43, if_pos c50, if_neg c62, if_pos c69, if_neg c115, if_neg c122, if_neg c131, if_neg c148, if_pos c171, if_neg c191, if_neg c198, if_neg c227]
                            have hu : UF u n (k + 1) i = 0 := by
                              show (if i < n then (if utF u n i = 0 then 0 else UF u n k (i + utF u n i)) else 1) = _
                              rw [if_pos c5, hut, if_pos rfl]
                            rw [hu] at hQ
                            exact Goes.outZ X0 hx hlk hret rfl (hb hby d3_231) e0 (hQ _ N0) (by decide) (by decide)
                    · skip
                      refine Goes.go (fun _ kk => XS.icmpNo X0.here hx rfl (hb hby d3_171) rfl (XT.ii_gt_f c171) kk) ?_
                      show Goes _ _ _ _ _ _ _ (T.setTop (mkF m 174 _ []))
                      refine Goes.go (fun _ kk => XS.iconst X0.here hx rfl (hb hby d3_174) kk) ?_
                      show Goes _ _ _ _ _ _ _ (T.setTop (mkF m 175 _ [(.int (0 : Int32))]))
                      have hut : utF u n i = 0 := by simp only [utF, ut2, ut3, ck1, ck2, ck3, if_pos c5, if_neg c20, if_neg c43, if_pos c50, if_neg c62, if_pos c69, if_neg c115, if_neg c122, if_neg c131, if_neg c148, if_neg c171]
                      have hu : UF u n (k + 1) i = 0 := by
                        show (if i < n then (if utF u n i = 0 then 0 else UF u n k (i + utF u n i)) else 1) = _
                        rw [if_pos c5, hut, if_pos rfl]
                      rw [hu] at hQ
                      exact Goes.outZ X0 hx hlk hret rfl (hb hby d3_175) e0 (hQ _ N0) (by decide) (by decide)
            · skip
              refine Goes.go (fun _ kk => XS.icmpNo X0.here hx rfl (hb hby d3_69) rfl (XT.ii_gt_f c69) kk) ?_
              show Goes _ _ _ _ _ _ _ (T.setTop (mkF m 72 _ []))
              refine Goes.go (fun _ kk => XS.iconst X0.here hx rfl (hb hby d3_72) kk) ?_
              show Goes _ _ _ _ _ _ _ (T.setTop (mkF m 73 _ [(.int (2 : Int32))]))
              refine Goes.go (fun _ kk => XS.istoreNS X0.here hx rfl (hb hby d3_73) rfl rfl q3 kk) ?_
              show Goes _ _ _ _ _ _ _ (T.setTop (mkF m 74 #[.val (.ref bb), .val (.int i), .val (.int (gi u i)), .val (.int (2 : Int32)), .val (.int (128 : Int32)), .val (.int (191 : Int32)), o6, o7] []))
              refine Goes.go (fun _ kk => XS.iloadN X0.here hx rfl (hb hby d3_74) rfl kk) ?_
              show Goes _ _ _ _ _ _ _ (T.setTop (mkF m 75 _ [(.int (gi u i))]))
              refine Goes.go (fun _ kk => XS.sipush X0.here hx rfl (hb hby d3_75) kk) ?_
              show Goes _ _ _ _ _ _ _ (T.setTop (mkF m 78 _ [(.int (224 : Int32)), (.int (gi u i))]))
              by_cases c78 : (gi u i) = (224 : Int32)
              · skip
                refine Goes.go (fun _ kk => XS.icmpNo X0.here hx rfl (hb hby d3_78) rfl (XT.ii_ne_f c78) kk) ?_
                show Goes _ _ _ _ _ _ _ (T.setTop (mkF m 81 _ []))
                refine Goes.go (fun _ kk => XS.sipush X0.here hx rfl (hb hby d3_81) kk) ?_
                show Goes _ _ _ _ _ _ _ (T.setTop (mkF m 84 _ [(.int (160 : Int32))]))
                refine Goes.go (fun _ kk => XS.goto X0.here hx rfl (pc0 := 84) (pc' := 89) rfl (hb hby d3_84) (by decide) (by decide) kk) ?_
                show Goes _ _ _ _ _ _ _ (T.setTop (mkF m 89 _ [(.int (160 : Int32))]))
                refine Goes.go (fun _ kk => XS.istore X0.here hx rfl (hb hby d3_89) rfl (l' := #[.val (.ref bb), .val (.int i), .val (.int (gi u i)), .val (.int (2 : Int32)), .val (.int (160 : Int32)), .val (.int (191 : Int32)), o6, o7]) rfl kk) ?_
                show Goes _ _ _ _ _ _ _ (T.setTop (mkF m 91 #[.val (.ref bb), .val (.int i), .val (.int (gi u i)), .val (.int (2 : Int32)), .val (.int (160 : Int32)), .val (.int (191 : Int32)), o6, o7] []))
                refine Goes.go (fun _ kk => XS.iloadN X0.here hx rfl (hb hby d3_91) rfl kk) ?_
                show Goes _ _ _ _ _ _ _ (T.setTop (mkF m 92 _ [(.int (gi u i))]))
                refine Goes.go (fun _ kk => XS.sipush X0.here hx rfl (hb hby d3_92) kk) ?_
                show Goes _ _ _ _ _ _ _ (T.setTop (mkF m 95 _ [(.int (237 : Int32)), (.int (gi u i))]))
                have c95 : ¬ (gi u i) = (237 : Int32) := by
                  simp only [own_ieq, Int32.lt_iff_toInt_lt, Int32.reduceToInt] at c78 ⊢
                  omega
                refine Goes.go (fun _ kk => XS.icmpYes X0.here hx rfl (pc0 := 95) (pc' := 104) rfl (hb hby d3_95) rfl (XT.ii_ne_t c95) (by decide) (by decide) kk) ?_
                show Goes _ _ _ _ _ _ _ (T.setTop (mkF m 104 _ []))
                refine Goes.go (fun _ kk => XS.iload X0.here hx rfl (hb hby d3_104) rfl kk) ?_
                show Goes _ _ _ _ _ _ _ (T.setTop (mkF m 106 _ [(.int (191 : Int32))]))
                refine Goes.go (fun _ kk => XS.istore X0.here hx rfl (hb hby d3_106) rfl (l' := #[.val (.ref bb), .val (.int i), .val (.int (gi u i)), .val (.int (2 : Int32)), .val (.int (160 : Int32)), .val (.int (191 : Int32)), o6, o7]) rfl kk) ?_
                show Goes _ _ _ _ _ _ _ (T.setTop (mkF m 108 _ []))
                refine Goes.go (fun _ kk => XS.goto X0.here hx rfl (pc0 := 108) (pc' := 166) rfl (hb hby d3_108) (by decide) (by decide) kk) ?_
                show Goes _ _ _ _ _ _ _ (T.setTop (mkF m 166 _ []))
                have a1 : (i + (1 : Int32)).toInt = i.toInt + 1 := own_ad (by decide) hi0 (by omega) (by decide) (by decide)
                have a2 : (i + (2 : Int32)).toInt = i.toInt + 2 := own_ad (by decide) hi0 (by omega) (by decide) (by decide)
                have a3 : (i + (3 : Int32)).toInt = i.toInt + 3 := own_ad (by decide) hi0 (by omega) (by decide) (by decide)
                have a4 : (i + (4 : Int32)).toInt = i.toInt + 4 := own_ad (by decide) hi0 (by omega) (by decide) (by decide)
                have sb := own_sb hi0 (by omega) (by omega : 0 ≤ n.toInt) (by omega)
                refine Goes.go (fun _ kk => XS.aloadN X0.here hx rfl (hb hby d3_166) rfl rfl kk) ?_
                show Goes _ _ _ _ _ _ _ (T.setTop (mkF m 167 _ [(.ref bb)]))
                refine Goes.go (own_len X0 hx hZ e0 A0 (n := n) hln rfl rfl (hb hby d3_167)) ?_
                show Goes _ _ _ _ _ _ _ (T.setTop (mkF m 168 _ [(.int n)]))
                refine Goes.go (fun _ kk => XS.iloadN X0.here hx rfl (hb hby d3_168) rfl kk) ?_
                show Goes _ _ _ _ _ _ _ (T.setTop (mkF m 169 _ [(.int i), (.int n)]))
                refine Goes.go (fun _ kk => XS.isub X0.here hx rfl (hb hby d3_169) rfl kk) ?_
                show Goes _ _ _ _ _ _ _ (T.setTop (mkF m 170 _ [(.int (n - i))]))
                refine Goes.go (fun _ kk => XS.iloadN X0.here hx rfl (hb hby d3_170) rfl kk) ?_
                show Goes _ _ _ _ _ _ _ (T.setTop (mkF m 171 _ [(.int (2 : Int32)), (.int (n - i))]))
                by_cases c171 : (2 : Int32) < (n - i)
                · skip
                  refine Goes.go (fun _ kk => XS.icmpYes X0.here hx rfl (pc0 := 171) (pc' := 176) rfl (hb hby d3_171) rfl (XT.ii_gt_t c171) (by decide) (by decide) kk) ?_
                  show Goes _ _ _ _ _ _ _ (T.setTop (mkF m 176 _ []))
                  have hf : 2 < n.toInt - i.toInt := by have q := Int32.lt_iff_toInt_lt.mp c171; rw [sb] at q; exact q
                  refine Goes.go (fun _ kk => XS.aloadN X0.here hx rfl (hb hby d3_176) rfl rfl kk) ?_
                  show Goes _ _ _ _ _ _ _ (T.setTop (mkF m 177 _ [(.ref bb)]))
                  refine Goes.go (fun _ kk => XS.iloadN X0.here hx rfl (hb hby d3_177) rfl kk) ?_
                  show Goes _ _ _ _ _ _ _ (T.setTop (mkF m 178 _ [(.int i), (.ref bb)]))
                  refine Goes.go (fun _ kk => XS.iconst X0.here hx rfl (hb hby d3_178) kk) ?_
                  show Goes _ _ _ _ _ _ _ (T.setTop (mkF m 179 _ [(.int (1 : Int32)), (.int i), (.ref bb)]))
                  refine Goes.go (fun _ kk => XS.iadd X0.here hx rfl (hb hby d3_179) rfl kk) ?_
                  show Goes _ _ _ _ _ _ _ (T.setTop (mkF m 180 _ [(.int (i + (1 : Int32))), (.ref bb)]))
                  refine Goes.go (own_ldB X0 hx hZ e0 A0 (j := (i + (1 : Int32))) (v := (.int ((gi u (i + (1 : Int32)))).toInt8.toInt32)) (gi_take (f := (fun x : Int32 => Value.int x.toInt8.toInt32)) hl hN8 (by omega) (by omega)).1 (gi_take (f := (fun x : Int32 => Value.int x.toInt8.toInt32)) hl hN8 (by omega) (by omega)).2 rfl rfl (hb hby d3_180)) ?_
                  show Goes _ _ _ _ _ _ _ (T.setTop (mkF m 181 _ [(.int ((gi u (i + (1 : Int32)))).toInt8.toInt32)]))
                  refine Goes.go (fun _ kk => XS.sipush X0.here hx rfl (hb hby d3_181) kk) ?_
                  show Goes _ _ _ _ _ _ _ (T.setTop (mkF m 184 _ [(.int (255 : Int32)), (.int ((gi u (i + (1 : Int32)))).toInt8.toInt32)]))
                  refine Goes.go (fun _ kk => XS.iand X0.here hx rfl (hb hby d3_184) rfl kk) ?_
                  show Goes _ _ _ _ _ _ _ (T.setTop (mkF m 185 _ [(.int (((gi u (i + (1 : Int32)))).toInt8.toInt32 &&& (255 : Int32)))]))
                  rw [(m5 (hB _)).1]
                  show Goes _ _ _ _ _ _ _ (T.setTop (mkF m 185 _ [(.int (gi u (i + (1 : Int32))))]))
                  refine Goes.go (fun _ kk => XS.istoreS X0.here hx rfl (hb hby d3_185) rfl rfl q6 kk) ?_
                  show Goes _ _ _ _ _ _ _ (T.setTop (mkF m 187 #[.val (.ref bb), .val (.int i), .val (.int (gi u i)), .val (.int (2 : Int32)), .val (.int (160 : Int32)), .val (.int (191 : Int32)), .val (.int (gi u (i + (1 : Int32)))), o7] []))
                  refine Goes.go (fun _ kk => XS.iload X0.here hx rfl (hb hby d3_187) rfl kk) ?_
                  show Goes _ _ _ _ _ _ _ (T.setTop (mkF m 189 _ [(.int (gi u (i + (1 : Int32))))]))
                  refine Goes.go (fun _ kk => XS.iload X0.here hx rfl (hb hby d3_189) rfl kk) ?_
                  show Goes _ _ _ _ _ _ _ (T.setTop (mkF m 191 _ [(.int (160 : Int32)), (.int (gi u (i + (1 : Int32))))]))
                  by_cases c191 : (gi u (i + (1 : Int32))) < (160 : Int32)
                  · skip
                    refine Goes.go (fun _ kk => XS.icmpYes X0.here hx rfl (pc0 := 191) (pc' := 201) rfl (hb hby d3_191) rfl (XT.ii_lt_t c191) (by decide) (by decide) kk) ?_
                    show Goes _ _ _ _ _ _ _ (T.setTop (mkF m 201 _ []))
                    refine Goes.go (fun _ kk => XS.iconst X0.here hx rfl (hb hby d3_201) kk) ?_
                    show Goes _ _ _ _ _ _ _ (T.setTop (mkF m 202 _ [(.int (0 : Int32))]))
                    have hut : utF u n i = 0 := by simp only [utF, ut2, ut3, ck1, ck2, ck3, if_pos c5, if_neg c20, if_neg c43, if_pos c50, if_neg c62, if_neg c69, if_pos c78, if_neg c95, if_pos c171, if_pos c191]
                    have hu : UF u n (k + 1) i = 0 := by
                      show (if i < n then (if utF u n i = 0 then 0 else UF u n k (i + utF u n i)) else 1) = _
                      rw [if_pos c5, hut, if_pos rfl]
                    rw [hu] at hQ
                    exact Goes.outZ X0 hx hlk hret rfl (hb hby d3_202) e0 (hQ _ N0) (by decide) (by decide)
                  · skip
                    refine Goes.go (fun _ kk => XS.icmpNo X0.here hx rfl (hb hby d3_191) rfl (XT.ii_lt_f c191) kk) ?_
                    show Goes _ _ _ _ _ _ _ (T.setTop (mkF m 194 _ []))
                    refine Goes.go (fun _ kk => XS.iload X0.here hx rfl (hb hby d3_194) rfl kk) ?_
                    show Goes _ _ _ _ _ _ _ (T.setTop (mkF m 196 _ [(.int (gi u (i + (1 : Int32))))]))
                    refine Goes.go (fun _ kk => XS.iload X0.here hx rfl (hb hby d3_196) rfl kk) ?_
                    show Goes _ _ _ _ _ _ _ (T.setTop (mkF m 198 _ [(.int (191 : Int32)), (.int (gi u (i + (1 : Int32))))]))
                    by_cases c198 : (191 : Int32) < (gi u (i + (1 : Int32)))
                    · skip
                      refine Goes.go (fun _ kk => XS.icmpNo X0.here hx rfl (hb hby d3_198) rfl (XT.ii_le_f c198) kk) ?_
                      show Goes _ _ _ _ _ _ _ (T.setTop (mkF m 201 _ []))
                      refine Goes.go (fun _ kk => XS.iconst X0.here hx rfl (hb hby d3_201) kk) ?_
                      show Goes _ _ _ _ _ _ _ (T.setTop (mkF m 202 _ [(.int (0 : Int32))]))
                      have hut : utF u n i = 0 := by simp only [utF, ut2, ut3, ck1, ck2, ck3, if_pos c5, if_neg c20, if_neg c43, if_pos c50, if_neg c62, if_neg c69, if_pos c78, if_neg c95, if_pos c171, if_neg c191, if_pos c198]
                      have hu : UF u n (k + 1) i = 0 := by
                        show (if i < n then (if utF u n i = 0 then 0 else UF u n k (i + utF u n i)) else 1) = _
                        rw [if_pos c5, hut, if_pos rfl]
                      rw [hu] at hQ
                      exact Goes.outZ X0 hx hlk hret rfl (hb hby d3_202) e0 (hQ _ N0) (by decide) (by decide)
                    · skip
                      refine Goes.go (fun _ kk => XS.icmpYes X0.here hx rfl (pc0 := 198) (pc' := 203) rfl (hb hby d3_198) rfl (XT.ii_le_t c198) (by decide) (by decide) kk) ?_
                      show Goes _ _ _ _ _ _ _ (T.setTop (mkF m 203 _ []))
                      refine Goes.go (fun _ kk => XS.iloadN X0.here hx rfl (hb hby d3_203) rfl kk) ?_
                      show Goes _ _ _ _ _ _ _ (T.setTop (mkF m 204 _ [(.int i)]))
                      refine Goes.go (fun _ kk => XS.iconst X0.here hx rfl (hb hby d3_204) kk) ?_
                      show Goes _ _ _ _ _ _ _ (T.setTop (mkF m 205 _ [(.int (2 : Int32)), (.int i)]))
                      refine Goes.go (fun _ kk => XS.iadd X0.here hx rfl (hb hby d3_205) rfl kk) ?_
                      show Goes _ _ _ _ _ _ _ (T.setTop (mkF m 206 _ [(.int (i + (2 : Int32)))]))
                      refine Goes.go (fun _ kk => XS.istoreS X0.here hx rfl (hb hby d3_206) rfl rfl q7 kk) ?_
                      show Goes _ _ _ _ _ _ _ (T.setTop (mkF m 208 #[.val (.ref bb), .val (.int i), .val (.int (gi u i)), .val (.int (2 : Int32)), .val (.int (160 : Int32)), .val (.int (191 : Int32)), .val (.int (gi u (i + (1 : Int32)))), .val (.int (i + (2 : Int32)))] []))
                      refine Goes.go (fun _ kk => XS.iload X0.here hx rfl (hb hby d3_208) rfl kk) ?_
                      show Goes _ _ _ _ _ _ _ (T.setTop (mkF m 210 _ [(.int (i + (2 : Int32)))]))
                      refine Goes.go (fun _ kk => XS.iloadN X0.here hx rfl (hb hby d3_210) rfl kk) ?_
                      show Goes _ _ _ _ _ _ _ (T.setTop (mkF m 211 _ [(.int i), (.int (i + (2 : Int32)))]))
                      refine Goes.go (fun _ kk => XS.iloadN X0.here hx rfl (hb hby d3_211) rfl kk) ?_
                      show Goes _ _ _ _ _ _ _ (T.setTop (mkF m 212 _ [(.int (2 : Int32)), (.int i), (.int (i + (2 : Int32)))]))
                      refine Goes.go (fun _ kk => XS.iadd X0.here hx rfl (hb hby d3_212) rfl kk) ?_
                      show Goes _ _ _ _ _ _ _ (T.setTop (mkF m 213 _ [(.int (i + (2 : Int32))), (.int (i + (2 : Int32)))]))
                      refine Goes.go (fun _ kk => XS.icmpNo X0.here hx rfl (hb hby d3_213) rfl (XT.ii_gt_f (fun q => by have q := Int32.lt_iff_toInt_lt.mp q; rw [a2] at q; omega)) kk) ?_
                      show Goes _ _ _ _ _ _ _ (T.setTop (mkF m 216 _ []))
                      refine Goes.go (fun _ kk => XS.aloadN X0.here hx rfl (hb hby d3_216) rfl rfl kk) ?_
                      show Goes _ _ _ _ _ _ _ (T.setTop (mkF m 217 _ [(.ref bb)]))
                      refine Goes.go (fun _ kk => XS.iload X0.here hx rfl (hb hby d3_217) rfl kk) ?_
                      show Goes _ _ _ _ _ _ _ (T.setTop (mkF m 219 _ [(.int (i + (2 : Int32))), (.ref bb)]))
                      refine Goes.go (own_ldB X0 hx hZ e0 A0 (j := (i + (2 : Int32))) (v := (.int ((gi u (i + (2 : Int32)))).toInt8.toInt32)) (gi_take (f := (fun x : Int32 => Value.int x.toInt8.toInt32)) hl hN8 (by omega) (by omega)).1 (gi_take (f := (fun x : Int32 => Value.int x.toInt8.toInt32)) hl hN8 (by omega) (by omega)).2 rfl rfl (hb hby d3_219)) ?_
                      show Goes _ _ _ _ _ _ _ (T.setTop (mkF m 220 _ [(.int ((gi u (i + (2 : Int32)))).toInt8.toInt32)]))
                      refine Goes.go (fun _ kk => XS.sipush X0.here hx rfl (hb hby d3_220) kk) ?_
                      show Goes _ _ _ _ _ _ _ (T.setTop (mkF m 223 _ [(.int (192 : Int32)), (.int ((gi u (i + (2 : Int32)))).toInt8.toInt32)]))
                      refine Goes.go (fun _ kk => XS.iand X0.here hx rfl (hb hby d3_223) rfl kk) ?_
                      show Goes _ _ _ _ _ _ _ (T.setTop (mkF m 224 _ [(.int (((gi u (i + (2 : Int32)))).toInt8.toInt32 &&& (192 : Int32)))]))
                      rw [(m5 (hB _)).2]
                      show Goes _ _ _ _ _ _ _ (T.setTop (mkF m 224 _ [(.int ((gi u (i + (2 : Int32))) &&& (192 : Int32)))]))
                      refine Goes.go (fun _ kk => XS.sipush X0.here hx rfl (hb hby d3_224) kk) ?_
                      show Goes _ _ _ _ _ _ _ (T.setTop (mkF m 227 _ [(.int (128 : Int32)), (.int ((gi u (i + (2 : Int32))) &&& (192 : Int32)))]))
                      by_cases c227 : ((gi u (i + (2 : Int32))) &&& (192 : Int32)) = (128 : Int32)
                      · skip
                        refine Goes.go (fun _ kk => XS.icmpYes X0.here hx rfl (pc0 := 227) (pc' := 232) rfl (hb hby d3_227) rfl (XT.ii_eq_t c227) (by decide) (by decide) kk) ?_
                        show Goes _ _ _ _ _ _ _ (T.setTop (mkF m 232 _ []))
                        refine Goes.go (fun _ kk => XT.iincV X0.here hx rfl (1 : Int32) (hb hby d3_232) rfl rfl (l' := #[.val (.ref bb), .val (.int i), .val (.int (gi u i)), .val (.int (2 : Int32)), .val (.int (160 : Int32)), .val (.int (191 : Int32)), .val (.int (gi u (i + (1 : Int32)))), .val (.int ((i + (2 : Int32)) + (1 : Int32)))]) rfl kk) ?_
                        show Goes _ _ _ _ _ _ _ (T.setTop (mkF m 235 #[.val (.ref bb), .val (.int i), .val (.int (gi u i)), .val (.int (2 : Int32)), .val (.int (160 : Int32)), .val (.int (191 : Int32)), .val (.int (gi u (i + (1 : Int32)))), .val (.int ((i + (2 : Int32)) + (1 : Int32)))] []))
                        rw [own_23]
                        show Goes _ _ _ _ _ _ _ (T.setTop (mkF m 235 #[.val (.ref bb), .val (.int i), .val (.int (gi u i)), .val (.int (2 : Int32)), .val (.int (160 : Int32)), .val (.int (191 : Int32)), .val (.int (gi u (i + (1 : Int32)))), .val (.int (i + (3 : Int32)))] []))
                        refine Goes.go (fun _ kk => XS.goto X0.here hx rfl (pc0 := 235) (pc' := 208) rfl (hb hby d3_235) (by decide) (by decide) kk) ?_
                        show Goes _ _ _ _ _ _ _ (T.setTop (mkF m 208 _ []))
                        refine Goes.go (fun _ kk => XS.iload X0.here hx rfl (hb hby d3_208) rfl kk) ?_
                        show Goes _ _ _ _ _ _ _ (T.setTop (mkF m 210 _ [(.int (i + (3 : Int32)))]))
                        refine Goes.go (fun _ kk => XS.iloadN X0.here hx rfl (hb hby d3_210) rfl kk) ?_
                        show Goes _ _ _ _ _ _ _ (T.setTop (mkF m 211 _ [(.int i), (.int (i + (3 : Int32)))]))
                        refine Goes.go (fun _ kk => XS.iloadN X0.here hx rfl (hb hby d3_211) rfl kk) ?_
                        show Goes _ _ _ _ _ _ _ (T.setTop (mkF m 212 _ [(.int (2 : Int32)), (.int i), (.int (i + (3 : Int32)))]))
                        refine Goes.go (fun _ kk => XS.iadd X0.here hx rfl (hb hby d3_212) rfl kk) ?_
                        show Goes _ _ _ _ _ _ _ (T.setTop (mkF m 213 _ [(.int (i + (2 : Int32))), (.int (i + (3 : Int32)))]))
                        refine Goes.go (fun _ kk => XS.icmpYes X0.here hx rfl (pc0 := 213) (pc' := 238) rfl (hb hby d3_213) rfl (XT.ii_gt_t (Int32.lt_iff_toInt_lt.mpr (by rw [a2, a3]; omega))) (by decide) (by decide) kk) ?_
                        show Goes _ _ _ _ _ _ _ (T.setTop (mkF m 238 _ []))
                        refine Goes.go (fun _ kk => XS.iloadN X0.here hx rfl (hb hby d3_238) rfl kk) ?_
                        show Goes _ _ _ _ _ _ _ (T.setTop (mkF m 239 _ [(.int i)]))
                        refine Goes.go (fun _ kk => XS.iconst X0.here hx rfl (hb hby d3_239) kk) ?_
                        show Goes _ _ _ _ _ _ _ (T.setTop (mkF m 240 _ [(.int (1 : Int32)), (.int i)]))
                        refine Goes.go (fun _ kk => XS.iloadN X0.here hx rfl (hb hby d3_240) rfl kk) ?_
                        show Goes _ _ _ _ _ _ _ (T.setTop (mkF m 241 _ [(.int (2 : Int32)), (.int (1 : Int32)), (.int i)]))
                        refine Goes.go (fun _ kk => XS.iadd X0.here hx rfl (hb hby d3_241) rfl kk) ?_
                        show Goes _ _ _ _ _ _ _ (T.setTop (mkF m 242 _ [(.int (3 : Int32)), (.int i)]))
                        refine Goes.go (fun _ kk => XS.iadd X0.here hx rfl (hb hby d3_242) rfl kk) ?_
                        show Goes _ _ _ _ _ _ _ (T.setTop (mkF m 243 _ [(.int (i + (3 : Int32)))]))
                        refine Goes.go (fun _ kk => XS.istoreN X0.here hx rfl (hb hby d3_243) rfl (l' := #[.val (.ref bb), .val (.int (i + (3 : Int32))), .val (.int (gi u i)), .val (.int (2 : Int32)), .val (.int (160 : Int32)), .val (.int (191 : Int32)), .val (.int (gi u (i + (1 : Int32)))), .val (.int (i + (3 : Int32)))]) rfl kk) ?_
                        show Goes _ _ _ _ _ _ _ (T.setTop (mkF m 244 #[.val (.ref bb), .val (.int (i + (3 : Int32))), .val (.int (gi u i)), .val (.int (2 : Int32)), .val (.int (160 : Int32)), .val (.int (191 : Int32)), .val (.int (gi u (i + (1 : Int32)))), .val (.int (i + (3 : Int32)))] []))
                        refine Goes.go (fun _ kk => XS.goto X0.here hx rfl (pc0 := 244) (pc' := 2) rfl (hb hby d3_244) (by decide) (by decide) kk) ?_
                        show Goes _ _ _ _ _ _ _ (T.setTop (mkF m 2 _ []))
                        have hut : utF u n i = 3 := by simp only [utF, ut2, ut3, ck1, ck2, ck3, if_pos c5, if_neg c20, if_neg c43, if_pos c50, if_neg c62, if_neg c69, if_pos c78, if_neg c95, if_pos c171, if_neg c191, if_neg c198, if_pos c227]
                        have hu : UF u n (k + 1) i = UF u n k (i + (3 : Int32)) := by
                          show (if i < n then (if utF u n i = 0 then 0 else UF u n k (i + utF u n i)) else 1) = _
                          rw [if_pos c5, hut, if_neg (by decide)]
                        rw [hu] at hQ
                        exact ih _ _ _ _ _ _ _ (One.val rfl) (One.val rfl) (One.val rfl) (One.val rfl) (One.val rfl) (One.val rfl) (by omega) (by omega) (by omega) hQ
                      · skip
                        refine Goes.go (fun _ kk => XS.icmpNo X0.here hx rfl (hb hby d3_227) rfl (XT.ii_eq_f c227) kk) ?_
                        show Goes _ _ _ _ _ _ _ (T.setTop (mkF m 230 _ []))
                        refine Goes.go (fun _ kk => XS.iconst X0.here hx rfl (hb hby d3_230) kk) ?_
                        show Goes _ _ _ _ _ _ _ (T.setTop (mkF m 231 _ [(.int (0 : Int32))]))
                        have hut : utF u n i = 0 := by simp only [utF, ut2, ut3, ck1, ck2, ck3, if_pos c5, if_neg c20, if_neg c43, if_pos c50, if_neg c62, if_neg c69, if_pos c78, if_neg c95, if_pos c171, if_neg c191, if_neg c198, if_neg c227]
                        have hu : UF u n (k + 1) i = 0 := by
                          show (if i < n then (if utF u n i = 0 then 0 else UF u n k (i + utF u n i)) else 1) = _
                          rw [if_pos c5, hut, if_pos rfl]
                        rw [hu] at hQ
                        exact Goes.outZ X0 hx hlk hret rfl (hb hby d3_231) e0 (hQ _ N0) (by decide) (by decide)
                · skip
                  refine Goes.go (fun _ kk => XS.icmpNo X0.here hx rfl (hb hby d3_171) rfl (XT.ii_gt_f c171) kk) ?_
                  show Goes _ _ _ _ _ _ _ (T.setTop (mkF m 174 _ []))
                  refine Goes.go (fun _ kk => XS.iconst X0.here hx rfl (hb hby d3_174) kk) ?_
                  show Goes _ _ _ _ _ _ _ (T.setTop (mkF m 175 _ [(.int (0 : Int32))]))
                  have hut : utF u n i = 0 := by simp only [utF, ut2, ut3, ck1, ck2, ck3, if_pos c5, if_neg c20, if_neg c43, if_pos c50, if_neg c62, if_neg c69, if_pos c78, if_neg c95, if_neg c171]
                  have hu : UF u n (k + 1) i = 0 := by
                    show (if i < n then (if utF u n i = 0 then 0 else UF u n k (i + utF u n i)) else 1) = _
                    rw [if_pos c5, hut, if_pos rfl]
                  rw [hu] at hQ
                  exact Goes.outZ X0 hx hlk hret rfl (hb hby d3_175) e0 (hQ _ N0) (by decide) (by decide)
              · skip
                refine Goes.go (fun _ kk => XS.icmpYes X0.here hx rfl (pc0 := 78) (pc' := 87) rfl (hb hby d3_78) rfl (XT.ii_ne_t c78) (by decide) (by decide) kk) ?_
                show Goes _ _ _ _ _ _ _ (T.setTop (mkF m 87 _ []))
                refine Goes.go (fun _ kk => XS.iload X0.here hx rfl (hb hby d3_87) rfl kk) ?_
                show Goes _ _ _ _ _ _ _ (T.setTop (mkF m 89 _ [(.int (128 : Int32))]))
                refine Goes.go (fun _ kk => XS.istore X0.here hx rfl (hb hby d3_89) rfl (l' := #[.val (.ref bb), .val (.int i), .val (.int (gi u i)), .val (.int (2 : Int32)), .val (.int (128 : Int32)), .val (.int (191 : Int32)), o6, o7]) rfl kk) ?_
                show Goes _ _ _ _ _ _ _ (T.setTop (mkF m 91 _ []))
                refine Goes.go (fun _ kk => XS.iloadN X0.here hx rfl (hb hby d3_91) rfl kk) ?_
                show Goes _ _ _ _ _ _ _ (T.setTop (mkF m 92 _ [(.int (gi u i))]))
                refine Goes.go (fun _ kk => XS.sipush X0.here hx rfl (hb hby d3_92) kk) ?_
                show Goes _ _ _ _ _ _ _ (T.setTop (mkF m 95 _ [(.int (237 : Int32)), (.int (gi u i))]))
                by_cases c95 : (gi u i) = (237 : Int32)
                · skip
                  refine Goes.go (fun _ kk => XS.icmpNo X0.here hx rfl (hb hby d3_95) rfl (XT.ii_ne_f c95) kk) ?_
                  show Goes _ _ _ _ _ _ _ (T.setTop (mkF m 98 _ []))
                  refine Goes.go (fun _ kk => XS.sipush X0.here hx rfl (hb hby d3_98) kk) ?_
                  show Goes _ _ _ _ _ _ _ (T.setTop (mkF m 101 _ [(.int (159 : Int32))]))
                  refine Goes.go (fun _ kk => XS.goto X0.here hx rfl (pc0 := 101) (pc' := 106) rfl (hb hby d3_101) (by decide) (by decide) kk) ?_
                  show Goes _ _ _ _ _ _ _ (T.setTop (mkF m 106 _ [(.int (159 : Int32))]))
                  refine Goes.go (fun _ kk => XS.istore X0.here hx rfl (hb hby d3_106) rfl (l' := #[.val (.ref bb), .val (.int i), .val (.int (gi u i)), .val (.int (2 : Int32)), .val (.int (128 : Int32)), .val (.int (159 : Int32)), o6, o7]) rfl kk) ?_
                  show Goes _ _ _ _ _ _ _ (T.setTop (mkF m 108 #[.val (.ref bb), .val (.int i), .val (.int (gi u i)), .val (.int (2 : Int32)), .val (.int (128 : Int32)), .val (.int (159 : Int32)), o6, o7] []))
                  refine Goes.go (fun _ kk => XS.goto X0.here hx rfl (pc0 := 108) (pc' := 166) rfl (hb hby d3_108) (by decide) (by decide) kk) ?_
                  show Goes _ _ _ _ _ _ _ (T.setTop (mkF m 166 _ []))
                  have a1 : (i + (1 : Int32)).toInt = i.toInt + 1 := own_ad (by decide) hi0 (by omega) (by decide) (by decide)
                  have a2 : (i + (2 : Int32)).toInt = i.toInt + 2 := own_ad (by decide) hi0 (by omega) (by decide) (by decide)
                  have a3 : (i + (3 : Int32)).toInt = i.toInt + 3 := own_ad (by decide) hi0 (by omega) (by decide) (by decide)
                  have a4 : (i + (4 : Int32)).toInt = i.toInt + 4 := own_ad (by decide) hi0 (by omega) (by decide) (by decide)
                  have sb := own_sb hi0 (by omega) (by omega : 0 ≤ n.toInt) (by omega)
                  refine Goes.go (fun _ kk => XS.aloadN X0.here hx rfl (hb hby d3_166) rfl rfl kk) ?_
                  show Goes _ _ _ _ _ _ _ (T.setTop (mkF m 167 _ [(.ref bb)]))
                  refine Goes.go (own_len X0 hx hZ e0 A0 (n := n) hln rfl rfl (hb hby d3_167)) ?_
                  show Goes _ _ _ _ _ _ _ (T.setTop (mkF m 168 _ [(.int n)]))
                  refine Goes.go (fun _ kk => XS.iloadN X0.here hx rfl (hb hby d3_168) rfl kk) ?_
                  show Goes _ _ _ _ _ _ _ (T.setTop (mkF m 169 _ [(.int i), (.int n)]))
                  refine Goes.go (fun _ kk => XS.isub X0.here hx rfl (hb hby d3_169) rfl kk) ?_
                  show Goes _ _ _ _ _ _ _ (T.setTop (mkF m 170 _ [(.int (n - i))]))
                  refine Goes.go (fun _ kk => XS.iloadN X0.here hx rfl (hb hby d3_170) rfl kk) ?_
                  show Goes _ _ _ _ _ _ _ (T.setTop (mkF m 171 _ [(.int (2 : Int32)), (.int (n - i))]))
                  by_cases c171 : (2 : Int32) < (n - i)
                  · skip
                    refine Goes.go (fun _ kk => XS.icmpYes X0.here hx rfl (pc0 := 171) (pc' := 176) rfl (hb hby d3_171) rfl (XT.ii_gt_t c171) (by decide) (by decide) kk) ?_
                    show Goes _ _ _ _ _ _ _ (T.setTop (mkF m 176 _ []))
                    have hf : 2 < n.toInt - i.toInt := by have q := Int32.lt_iff_toInt_lt.mp c171; rw [sb] at q; exact q
                    refine Goes.go (fun _ kk => XS.aloadN X0.here hx rfl (hb hby d3_176) rfl rfl kk) ?_
                    show Goes _ _ _ _ _ _ _ (T.setTop (mkF m 177 _ [(.ref bb)]))
                    refine Goes.go (fun _ kk => XS.iloadN X0.here hx rfl (hb hby d3_177) rfl kk) ?_
                    show Goes _ _ _ _ _ _ _ (T.setTop (mkF m 178 _ [(.int i), (.ref bb)]))
                    refine Goes.go (fun _ kk => XS.iconst X0.here hx rfl (hb hby d3_178) kk) ?_
                    show Goes _ _ _ _ _ _ _ (T.setTop (mkF m 179 _ [(.int (1 : Int32)), (.int i), (.ref bb)]))
                    refine Goes.go (fun _ kk => XS.iadd X0.here hx rfl (hb hby d3_179) rfl kk) ?_
                    show Goes _ _ _ _ _ _ _ (T.setTop (mkF m 180 _ [(.int (i + (1 : Int32))), (.ref bb)]))
                    refine Goes.go (own_ldB X0 hx hZ e0 A0 (j := (i + (1 : Int32))) (v := (.int ((gi u (i + (1 : Int32)))).toInt8.toInt32)) (gi_take (f := (fun x : Int32 => Value.int x.toInt8.toInt32)) hl hN8 (by omega) (by omega)).1 (gi_take (f := (fun x : Int32 => Value.int x.toInt8.toInt32)) hl hN8 (by omega) (by omega)).2 rfl rfl (hb hby d3_180)) ?_
                    show Goes _ _ _ _ _ _ _ (T.setTop (mkF m 181 _ [(.int ((gi u (i + (1 : Int32)))).toInt8.toInt32)]))
                    refine Goes.go (fun _ kk => XS.sipush X0.here hx rfl (hb hby d3_181) kk) ?_
                    show Goes _ _ _ _ _ _ _ (T.setTop (mkF m 184 _ [(.int (255 : Int32)), (.int ((gi u (i + (1 : Int32)))).toInt8.toInt32)]))
                    refine Goes.go (fun _ kk => XS.iand X0.here hx rfl (hb hby d3_184) rfl kk) ?_
                    show Goes _ _ _ _ _ _ _ (T.setTop (mkF m 185 _ [(.int (((gi u (i + (1 : Int32)))).toInt8.toInt32 &&& (255 : Int32)))]))
                    rw [(m5 (hB _)).1]
                    show Goes _ _ _ _ _ _ _ (T.setTop (mkF m 185 _ [(.int (gi u (i + (1 : Int32))))]))
                    refine Goes.go (fun _ kk => XS.istoreS X0.here hx rfl (hb hby d3_185) rfl rfl q6 kk) ?_
                    show Goes _ _ _ _ _ _ _ (T.setTop (mkF m 187 #[.val (.ref bb), .val (.int i), .val (.int (gi u i)), .val (.int (2 : Int32)), .val (.int (128 : Int32)), .val (.int (159 : Int32)), .val (.int (gi u (i + (1 : Int32)))), o7] []))
                    refine Goes.go (fun _ kk => XS.iload X0.here hx rfl (hb hby d3_187) rfl kk) ?_
                    show Goes _ _ _ _ _ _ _ (T.setTop (mkF m 189 _ [(.int (gi u (i + (1 : Int32))))]))
                    refine Goes.go (fun _ kk => XS.iload X0.here hx rfl (hb hby d3_189) rfl kk) ?_
                    show Goes _ _ _ _ _ _ _ (T.setTop (mkF m 191 _ [(.int (128 : Int32)), (.int (gi u (i + (1 : Int32))))]))
                    by_cases c191 : (gi u (i + (1 : Int32))) < (128 : Int32)
                    · skip
                      refine Goes.go (fun _ kk => XS.icmpYes X0.here hx rfl (pc0 := 191) (pc' := 201) rfl (hb hby d3_191) rfl (XT.ii_lt_t c191) (by decide) (by decide) kk) ?_
                      show Goes _ _ _ _ _ _ _ (T.setTop (mkF m 201 _ []))
                      refine Goes.go (fun _ kk => XS.iconst X0.here hx rfl (hb hby d3_201) kk) ?_
                      show Goes _ _ _ _ _ _ _ (T.setTop (mkF m 202 _ [(.int (0 : Int32))]))
                      have hut : utF u n i = 0 := by simp only [utF, ut2, ut3, ck1, ck2, ck3, if_pos c5, if_neg c20, if_neg c43, if_pos c50, if_neg c62, if_neg c69, if_neg c78, if_pos c95, if_pos c171, if_pos c191]
                      have hu : UF u n (k + 1) i = 0 := by
                        show (if i < n then (if utF u n i = 0 then 0 else UF u n k (i + utF u n i)) else 1) = _
                        rw [if_pos c5, hut, if_pos rfl]
                      rw [hu] at hQ
                      exact Goes.outZ X0 hx hlk hret rfl (hb hby d3_202) e0 (hQ _ N0) (by decide) (by decide)
                    · skip
                      refine Goes.go (fun _ kk => XS.icmpNo X0.here hx rfl (hb hby d3_191) rfl (XT.ii_lt_f c191) kk) ?_
                      show Goes _ _ _ _ _ _ _ (T.setTop (mkF m 194 _ []))
                      refine Goes.go (fun _ kk => XS.iload X0.here hx rfl (hb hby d3_194) rfl kk) ?_
                      show Goes _ _ _ _ _ _ _ (T.setTop (mkF m 196 _ [(.int (gi u (i + (1 : Int32))))]))
                      refine Goes.go (fun _ kk => XS.iload X0.here hx rfl (hb hby d3_196) rfl kk) ?_
                      show Goes _ _ _ _ _ _ _ (T.setTop (mkF m 198 _ [(.int (159 : Int32)), (.int (gi u (i + (1 : Int32))))]))
                      by_cases c198 : (159 : Int32) < (gi u (i + (1 : Int32)))
                      · skip
                        refine Goes.go (fun _ kk => XS.icmpNo X0.here hx rfl (hb hby d3_198) rfl (XT.ii_le_f c198) kk) ?_
                        show Goes _ _ _ _ _ _ _ (T.setTop (mkF m 201 _ []))
                        refine Goes.go (fun _ kk => XS.iconst X0.here hx rfl (hb hby d3_201) kk) ?_
                        show Goes _ _ _ _ _ _ _ (T.setTop (mkF m 202 _ [(.int (0 : Int32))]))
                        have hut : utF u n i = 0 := by simp only [utF, ut2, ut3, ck1, ck2, ck3, if_pos c5, if_neg c20, if_neg c43, if_pos c50, if_neg c62, if_neg c69, if_neg c78, if_pos c95, if_pos c171, if_neg c191, if_pos c198]
                        have hu : UF u n (k + 1) i = 0 := by
                          show (if i < n then (if utF u n i = 0 then 0 else UF u n k (i + utF u n i)) else 1) = _
                          rw [if_pos c5, hut, if_pos rfl]
                        rw [hu] at hQ
                        exact Goes.outZ X0 hx hlk hret rfl (hb hby d3_202) e0 (hQ _ N0) (by decide) (by decide)
                      · skip
                        refine Goes.go (fun _ kk => XS.icmpYes X0.here hx rfl (pc0 := 198) (pc' := 203) rfl (hb hby d3_198) rfl (XT.ii_le_t c198) (by decide) (by decide) kk) ?_
                        show Goes _ _ _ _ _ _ _ (T.setTop (mkF m 203 _ []))
                        refine Goes.go (fun _ kk => XS.iloadN X0.here hx rfl (hb hby d3_203) rfl kk) ?_
                        show Goes _ _ _ _ _ _ _ (T.setTop (mkF m 204 _ [(.int i)]))
                        refine Goes.go (fun _ kk => XS.iconst X0.here hx rfl (hb hby d3_204) kk) ?_
                        show Goes _ _ _ _ _ _ _ (T.setTop (mkF m 205 _ [(.int (2 : Int32)), (.int i)]))
                        refine Goes.go (fun _ kk => XS.iadd X0.here hx rfl (hb hby d3_205) rfl kk) ?_
                        show Goes _ _ _ _ _ _ _ (T.setTop (mkF m 206 _ [(.int (i + (2 : Int32)))]))
                        refine Goes.go (fun _ kk => XS.istoreS X0.here hx rfl (hb hby d3_206) rfl rfl q7 kk) ?_
                        show Goes _ _ _ _ _ _ _ (T.setTop (mkF m 208 #[.val (.ref bb), .val (.int i), .val (.int (gi u i)), .val (.int (2 : Int32)), .val (.int (128 : Int32)), .val (.int (159 : Int32)), .val (.int (gi u (i + (1 : Int32)))), .val (.int (i + (2 : Int32)))] []))
                        refine Goes.go (fun _ kk => XS.iload X0.here hx rfl (hb hby d3_208) rfl kk) ?_
                        show Goes _ _ _ _ _ _ _ (T.setTop (mkF m 210 _ [(.int (i + (2 : Int32)))]))
                        refine Goes.go (fun _ kk => XS.iloadN X0.here hx rfl (hb hby d3_210) rfl kk) ?_
                        show Goes _ _ _ _ _ _ _ (T.setTop (mkF m 211 _ [(.int i), (.int (i + (2 : Int32)))]))
                        refine Goes.go (fun _ kk => XS.iloadN X0.here hx rfl (hb hby d3_211) rfl kk) ?_
                        show Goes _ _ _ _ _ _ _ (T.setTop (mkF m 212 _ [(.int (2 : Int32)), (.int i), (.int (i + (2 : Int32)))]))
                        refine Goes.go (fun _ kk => XS.iadd X0.here hx rfl (hb hby d3_212) rfl kk) ?_
                        show Goes _ _ _ _ _ _ _ (T.setTop (mkF m 213 _ [(.int (i + (2 : Int32))), (.int (i + (2 : Int32)))]))
                        refine Goes.go (fun _ kk => XS.icmpNo X0.here hx rfl (hb hby d3_213) rfl (XT.ii_gt_f (fun q => by have q := Int32.lt_iff_toInt_lt.mp q; rw [a2] at q; omega)) kk) ?_
                        show Goes _ _ _ _ _ _ _ (T.setTop (mkF m 216 _ []))
                        refine Goes.go (fun _ kk => XS.aloadN X0.here hx rfl (hb hby d3_216) rfl rfl kk) ?_
                        show Goes _ _ _ _ _ _ _ (T.setTop (mkF m 217 _ [(.ref bb)]))
                        refine Goes.go (fun _ kk => XS.iload X0.here hx rfl (hb hby d3_217) rfl kk) ?_
                        show Goes _ _ _ _ _ _ _ (T.setTop (mkF m 219 _ [(.int (i + (2 : Int32))), (.ref bb)]))
                        refine Goes.go (own_ldB X0 hx hZ e0 A0 (j := (i + (2 : Int32))) (v := (.int ((gi u (i + (2 : Int32)))).toInt8.toInt32)) (gi_take (f := (fun x : Int32 => Value.int x.toInt8.toInt32)) hl hN8 (by omega) (by omega)).1 (gi_take (f := (fun x : Int32 => Value.int x.toInt8.toInt32)) hl hN8 (by omega) (by omega)).2 rfl rfl (hb hby d3_219)) ?_
                        show Goes _ _ _ _ _ _ _ (T.setTop (mkF m 220 _ [(.int ((gi u (i + (2 : Int32)))).toInt8.toInt32)]))
                        refine Goes.go (fun _ kk => XS.sipush X0.here hx rfl (hb hby d3_220) kk) ?_
                        show Goes _ _ _ _ _ _ _ (T.setTop (mkF m 223 _ [(.int (192 : Int32)), (.int ((gi u (i + (2 : Int32)))).toInt8.toInt32)]))
                        refine Goes.go (fun _ kk => XS.iand X0.here hx rfl (hb hby d3_223) rfl kk) ?_
                        show Goes _ _ _ _ _ _ _ (T.setTop (mkF m 224 _ [(.int (((gi u (i + (2 : Int32)))).toInt8.toInt32 &&& (192 : Int32)))]))
                        rw [(m5 (hB _)).2]
                        show Goes _ _ _ _ _ _ _ (T.setTop (mkF m 224 _ [(.int ((gi u (i + (2 : Int32))) &&& (192 : Int32)))]))
                        refine Goes.go (fun _ kk => XS.sipush X0.here hx rfl (hb hby d3_224) kk) ?_
                        show Goes _ _ _ _ _ _ _ (T.setTop (mkF m 227 _ [(.int (128 : Int32)), (.int ((gi u (i + (2 : Int32))) &&& (192 : Int32)))]))
                        by_cases c227 : ((gi u (i + (2 : Int32))) &&& (192 : Int32)) = (128 : Int32)
                        · skip
                          refine Goes.go (fun _ kk => XS.icmpYes X0.here hx rfl (pc0 := 227) (pc' := 232) rfl (hb hby d3_227) rfl (XT.ii_eq_t c227) (by decide) (by decide) kk) ?_
                          show Goes _ _ _ _ _ _ _ (T.setTop (mkF m 232 _ []))
                          refine Goes.go (fun _ kk => XT.iincV X0.here hx rfl (1 : Int32) (hb hby d3_232) rfl rfl (l' := #[.val (.ref bb), .val (.int i), .val (.int (gi u i)), .val (.int (2 : Int32)), .val (.int (128 : Int32)), .val (.int (159 : Int32)), .val (.int (gi u (i + (1 : Int32)))), .val (.int ((i + (2 : Int32)) + (1 : Int32)))]) rfl kk) ?_
                          show Goes _ _ _ _ _ _ _ (T.setTop (mkF m 235 #[.val (.ref bb), .val (.int i), .val (.int (gi u i)), .val (.int (2 : Int32)), .val (.int (128 : Int32)), .val (.int (159 : Int32)), .val (.int (gi u (i + (1 : Int32)))), .val (.int ((i + (2 : Int32)) + (1 : Int32)))] []))
                          rw [own_23]
                          show Goes _ _ _ _ _ _ _ (T.setTop (mkF m 235 #[.val (.ref bb), .val (.int i), .val (.int (gi u i)), .val (.int (2 : Int32)), .val (.int (128 : Int32)), .val (.int (159 : Int32)), .val (.int (gi u (i + (1 : Int32)))), .val (.int (i + (3 : Int32)))] []))
                          refine Goes.go (fun _ kk => XS.goto X0.here hx rfl (pc0 := 235) (pc' := 208) rfl (hb hby d3_235) (by decide) (by decide) kk) ?_
                          show Goes _ _ _ _ _ _ _ (T.setTop (mkF m 208 _ []))
                          refine Goes.go (fun _ kk => XS.iload X0.here hx rfl (hb hby d3_208) rfl kk) ?_
                          show Goes _ _ _ _ _ _ _ (T.setTop (mkF m 210 _ [(.int (i + (3 : Int32)))]))
                          refine Goes.go (fun _ kk => XS.iloadN X0.here hx rfl (hb hby d3_210) rfl kk) ?_
                          show Goes _ _ _ _ _ _ _ (T.setTop (mkF m 211 _ [(.int i), (.int (i + (3 : Int32)))]))
                          refine Goes.go (fun _ kk => XS.iloadN X0.here hx rfl (hb hby d3_211) rfl kk) ?_
                          show Goes _ _ _ _ _ _ _ (T.setTop (mkF m 212 _ [(.int (2 : Int32)), (.int i), (.int (i + (3 : Int32)))]))
                          refine Goes.go (fun _ kk => XS.iadd X0.here hx rfl (hb hby d3_212) rfl kk) ?_
                          show Goes _ _ _ _ _ _ _ (T.setTop (mkF m 213 _ [(.int (i + (2 : Int32))), (.int (i + (3 : Int32)))]))
                          refine Goes.go (fun _ kk => XS.icmpYes X0.here hx rfl (pc0 := 213) (pc' := 238) rfl (hb hby d3_213) rfl (XT.ii_gt_t (Int32.lt_iff_toInt_lt.mpr (by rw [a2, a3]; omega))) (by decide) (by decide) kk) ?_
                          show Goes _ _ _ _ _ _ _ (T.setTop (mkF m 238 _ []))
                          refine Goes.go (fun _ kk => XS.iloadN X0.here hx rfl (hb hby d3_238) rfl kk) ?_
                          show Goes _ _ _ _ _ _ _ (T.setTop (mkF m 239 _ [(.int i)]))
                          refine Goes.go (fun _ kk => XS.iconst X0.here hx rfl (hb hby d3_239) kk) ?_
                          show Goes _ _ _ _ _ _ _ (T.setTop (mkF m 240 _ [(.int (1 : Int32)), (.int i)]))
                          refine Goes.go (fun _ kk => XS.iloadN X0.here hx rfl (hb hby d3_240) rfl kk) ?_
                          show Goes _ _ _ _ _ _ _ (T.setTop (mkF m 241 _ [(.int (2 : Int32)), (.int (1 : Int32)), (.int i)]))
                          refine Goes.go (fun _ kk => XS.iadd X0.here hx rfl (hb hby d3_241) rfl kk) ?_
                          show Goes _ _ _ _ _ _ _ (T.setTop (mkF m 242 _ [(.int (3 : Int32)), (.int i)]))
                          refine Goes.go (fun _ kk => XS.iadd X0.here hx rfl (hb hby d3_242) rfl kk) ?_
                          show Goes _ _ _ _ _ _ _ (T.setTop (mkF m 243 _ [(.int (i + (3 : Int32)))]))
                          refine Goes.go (fun _ kk => XS.istoreN X0.here hx rfl (hb hby d3_243) rfl (l' := #[.val (.ref bb), .val (.int (i + (3 : Int32))), .val (.int (gi u i)), .val (.int (2 : Int32)), .val (.int (128 : Int32)), .val (.int (159 : Int32)), .val (.int (gi u (i + (1 : Int32)))), .val (.int (i + (3 : Int32)))]) rfl kk) ?_
                          show Goes _ _ _ _ _ _ _ (T.setTop (mkF m 244 #[.val (.ref bb), .val (.int (i + (3 : Int32))), .val (.int (gi u i)), .val (.int (2 : Int32)), .val (.int (128 : Int32)), .val (.int (159 : Int32)), .val (.int (gi u (i + (1 : Int32)))), .val (.int (i + (3 : Int32)))] []))
                          refine Goes.go (fun _ kk => XS.goto X0.here hx rfl (pc0 := 244) (pc' := 2) rfl (hb hby d3_244) (by decide) (by decide) kk) ?_
                          show Goes _ _ _ _ _ _ _ (T.setTop (mkF m 2 _ []))
                          have hut : utF u n i = 3 := by simp only [utF, ut2, ut3, ck1, ck2, ck3, if_pos c5, if_neg c20, if_neg c43, if_pos c50, if_neg c62, if_neg c69, if_neg c78, if_pos c95, if_pos c171, if_neg c191, if_neg c198, if_pos c227]
                          have hu : UF u n (k + 1) i = UF u n k (i + (3 : Int32)) := by
                            show (if i < n then (if utF u n i = 0 then 0 else UF u n k (i + utF u n i)) else 1) = _
                            rw [if_pos c5, hut, if_neg (by decide)]
                          rw [hu] at hQ
                          exact ih _ _ _ _ _ _ _ (One.val rfl) (One.val rfl) (One.val rfl) (One.val rfl) (One.val rfl) (One.val rfl) (by omega) (by omega) (by omega) hQ
                        · skip
                          refine Goes.go (fun _ kk => XS.icmpNo X0.here hx rfl (hb hby d3_227) rfl (XT.ii_eq_f c227) kk) ?_
                          show Goes _ _ _ _ _ _ _ (T.setTop (mkF m 230 _ []))
                          refine Goes.go (fun _ kk => XS.iconst X0.here hx rfl (hb hby d3_230) kk) ?_
                          show Goes _ _ _ _ _ _ _ (T.setTop (mkF m 231 _ [(.int (0 : Int32))]))
                          have hut : utF u n i = 0 := by simp only [utF, ut2, ut3, ck1, ck2, ck3, if_pos c5, if_neg c20, if_neg c43, if_pos c50, if_neg c62, if_neg c69, if_neg c78, if_pos c95, if_pos c171, if_neg c191, if_neg c198, if_neg c227]
                          have hu : UF u n (k + 1) i = 0 := by
                            show (if i < n then (if utF u n i = 0 then 0 else UF u n k (i + utF u n i)) else 1) = _
                            rw [if_pos c5, hut, if_pos rfl]
                          rw [hu] at hQ
                          exact Goes.outZ X0 hx hlk hret rfl (hb hby d3_231) e0 (hQ _ N0) (by decide) (by decide)
                  · skip
                    refine Goes.go (fun _ kk => XS.icmpNo X0.here hx rfl (hb hby d3_171) rfl (XT.ii_gt_f c171) kk) ?_
                    show Goes _ _ _ _ _ _ _ (T.setTop (mkF m 174 _ []))
                    refine Goes.go (fun _ kk => XS.iconst X0.here hx rfl (hb hby d3_174) kk) ?_
                    show Goes _ _ _ _ _ _ _ (T.setTop (mkF m 175 _ [(.int (0 : Int32))]))
                    have hut : utF u n i = 0 := by simp only [utF, ut2, ut3, ck1, ck2, ck3, if_pos c5, if_neg c20, if_neg c43, if_pos c50, if_neg c62, if_neg c69, if_neg c78, if_pos c95, if_neg c171]
                    have hu : UF u n (k + 1) i = 0 := by
                      show (if i < n then (if utF u n i = 0 then 0 else UF u n k (i + utF u n i)) else 1) = _
                      rw [if_pos c5, hut, if_pos rfl]
                    rw [hu] at hQ
                    exact Goes.outZ X0 hx hlk hret rfl (hb hby d3_175) e0 (hQ _ N0) (by decide) (by decide)
                · skip
                  refine Goes.go (fun _ kk => XS.icmpYes X0.here hx rfl (pc0 := 95) (pc' := 104) rfl (hb hby d3_95) rfl (XT.ii_ne_t c95) (by decide) (by decide) kk) ?_
                  show Goes _ _ _ _ _ _ _ (T.setTop (mkF m 104 _ []))
                  refine Goes.go (fun _ kk => XS.iload X0.here hx rfl (hb hby d3_104) rfl kk) ?_
                  show Goes _ _ _ _ _ _ _ (T.setTop (mkF m 106 _ [(.int (191 : Int32))]))
                  refine Goes.go (fun _ kk => XS.istore X0.here hx rfl (hb hby d3_106) rfl (l' := #[.val (.ref bb), .val (.int i), .val (.int (gi u i)), .val (.int (2 : Int32)), .val (.int (128 : Int32)), .val (.int (191 : Int32)), o6, o7]) rfl kk) ?_
                  show Goes _ _ _ _ _ _ _ (T.setTop (mkF m 108 _ []))
                  refine Goes.go (fun _ kk => XS.goto X0.here hx rfl (pc0 := 108) (pc' := 166) rfl (hb hby d3_108) (by decide) (by decide) kk) ?_
                  show Goes _ _ _ _ _ _ _ (T.setTop (mkF m 166 _ []))
                  have a1 : (i + (1 : Int32)).toInt = i.toInt + 1 := own_ad (by decide) hi0 (by omega) (by decide) (by decide)
                  have a2 : (i + (2 : Int32)).toInt = i.toInt + 2 := own_ad (by decide) hi0 (by omega) (by decide) (by decide)
                  have a3 : (i + (3 : Int32)).toInt = i.toInt + 3 := own_ad (by decide) hi0 (by omega) (by decide) (by decide)
                  have a4 : (i + (4 : Int32)).toInt = i.toInt + 4 := own_ad (by decide) hi0 (by omega) (by decide) (by decide)
                  have sb := own_sb hi0 (by omega) (by omega : 0 ≤ n.toInt) (by omega)
                  refine Goes.go (fun _ kk => XS.aloadN X0.here hx rfl (hb hby d3_166) rfl rfl kk) ?_
                  show Goes _ _ _ _ _ _ _ (T.setTop (mkF m 167 _ [(.ref bb)]))
                  refine Goes.go (own_len X0 hx hZ e0 A0 (n := n) hln rfl rfl (hb hby d3_167)) ?_
                  show Goes _ _ _ _ _ _ _ (T.setTop (mkF m 168 _ [(.int n)]))
                  refine Goes.go (fun _ kk => XS.iloadN X0.here hx rfl (hb hby d3_168) rfl kk) ?_
                  show Goes _ _ _ _ _ _ _ (T.setTop (mkF m 169 _ [(.int i), (.int n)]))
                  refine Goes.go (fun _ kk => XS.isub X0.here hx rfl (hb hby d3_169) rfl kk) ?_
                  show Goes _ _ _ _ _ _ _ (T.setTop (mkF m 170 _ [(.int (n - i))]))
                  refine Goes.go (fun _ kk => XS.iloadN X0.here hx rfl (hb hby d3_170) rfl kk) ?_
                  show Goes _ _ _ _ _ _ _ (T.setTop (mkF m 171 _ [(.int (2 : Int32)), (.int (n - i))]))
                  by_cases c171 : (2 : Int32) < (n - i)
                  · skip
                    refine Goes.go (fun _ kk => XS.icmpYes X0.here hx rfl (pc0 := 171) (pc' := 176) rfl (hb hby d3_171) rfl (XT.ii_gt_t c171) (by decide) (by decide) kk) ?_
                    show Goes _ _ _ _ _ _ _ (T.setTop (mkF m 176 _ []))
                    have hf : 2 < n.toInt - i.toInt := by have q := Int32.lt_iff_toInt_lt.mp c171; rw [sb] at q; exact q
                    refine Goes.go (fun _ kk => XS.aloadN X0.here hx rfl (hb hby d3_176) rfl rfl kk) ?_
                    show Goes _ _ _ _ _ _ _ (T.setTop (mkF m 177 _ [(.ref bb)]))
                    refine Goes.go (fun _ kk => XS.iloadN X0.here hx rfl (hb hby d3_177) rfl kk) ?_
                    show Goes _ _ _ _ _ _ _ (T.setTop (mkF m 178 _ [(.int i), (.ref bb)]))
                    refine Goes.go (fun _ kk => XS.iconst X0.here hx rfl (hb hby d3_178) kk) ?_
                    show Goes _ _ _ _ _ _ _ (T.setTop (mkF m 179 _ [(.int (1 : Int32)), (.int i), (.ref bb)]))
                    refine Goes.go (fun _ kk => XS.iadd X0.here hx rfl (hb hby d3_179) rfl kk) ?_
                    show Goes _ _ _ _ _ _ _ (T.setTop (mkF m 180 _ [(.int (i + (1 : Int32))), (.ref bb)]))
                    refine Goes.go (own_ldB X0 hx hZ e0 A0 (j := (i + (1 : Int32))) (v := (.int ((gi u (i + (1 : Int32)))).toInt8.toInt32)) (gi_take (f := (fun x : Int32 => Value.int x.toInt8.toInt32)) hl hN8 (by omega) (by omega)).1 (gi_take (f := (fun x : Int32 => Value.int x.toInt8.toInt32)) hl hN8 (by omega) (by omega)).2 rfl rfl (hb hby d3_180)) ?_
                    show Goes _ _ _ _ _ _ _ (T.setTop (mkF m 181 _ [(.int ((gi u (i + (1 : Int32)))).toInt8.toInt32)]))
                    refine Goes.go (fun _ kk => XS.sipush X0.here hx rfl (hb hby d3_181) kk) ?_
                    show Goes _ _ _ _ _ _ _ (T.setTop (mkF m 184 _ [(.int (255 : Int32)), (.int ((gi u (i + (1 : Int32)))).toInt8.toInt32)]))
                    refine Goes.go (fun _ kk => XS.iand X0.here hx rfl (hb hby d3_184) rfl kk) ?_
                    show Goes _ _ _ _ _ _ _ (T.setTop (mkF m 185 _ [(.int (((gi u (i + (1 : Int32)))).toInt8.toInt32 &&& (255 : Int32)))]))
                    rw [(m5 (hB _)).1]
                    show Goes _ _ _ _ _ _ _ (T.setTop (mkF m 185 _ [(.int (gi u (i + (1 : Int32))))]))
                    refine Goes.go (fun _ kk => XS.istoreS X0.here hx rfl (hb hby d3_185) rfl rfl q6 kk) ?_
                    show Goes _ _ _ _ _ _ _ (T.setTop (mkF m 187 #[.val (.ref bb), .val (.int i), .val (.int (gi u i)), .val (.int (2 : Int32)), .val (.int (128 : Int32)), .val (.int (191 : Int32)), .val (.int (gi u (i + (1 : Int32)))), o7] []))
                    refine Goes.go (fun _ kk => XS.iload X0.here hx rfl (hb hby d3_187) rfl kk) ?_
                    show Goes _ _ _ _ _ _ _ (T.setTop (mkF m 189 _ [(.int (gi u (i + (1 : Int32))))]))
                    refine Goes.go (fun _ kk => XS.iload X0.here hx rfl (hb hby d3_189) rfl kk) ?_
                    show Goes _ _ _ _ _ _ _ (T.setTop (mkF m 191 _ [(.int (128 : Int32)), (.int (gi u (i + (1 : Int32))))]))
                    by_cases c191 : (gi u (i + (1 : Int32))) < (128 : Int32)
                    · skip
                      refine Goes.go (fun _ kk => XS.icmpYes X0.here hx rfl (pc0 := 191) (pc' := 201) rfl (hb hby d3_191) rfl (XT.ii_lt_t c191) (by decide) (by decide) kk) ?_
                      show Goes _ _ _ _ _ _ _ (T.setTop (mkF m 201 _ []))
                      refine Goes.go (fun _ kk => XS.iconst X0.here hx rfl (hb hby d3_201) kk) ?_
                      show Goes _ _ _ _ _ _ _ (T.setTop (mkF m 202 _ [(.int (0 : Int32))]))
                      have hut : utF u n i = 0 := by simp only [utF, ut2, ut3, ck1, ck2, ck3, if_pos c5, if_neg c20, if_neg c43, if_pos c50, if_neg c62, if_neg c69, if_neg c78, if_neg c95, if_pos c171, if_pos c191]
                      have hu : UF u n (k + 1) i = 0 := by
                        show (if i < n then (if utF u n i = 0 then 0 else UF u n k (i + utF u n i)) else 1) = _
                        rw [if_pos c5, hut, if_pos rfl]
                      rw [hu] at hQ
                      exact Goes.outZ X0 hx hlk hret rfl (hb hby d3_202) e0 (hQ _ N0) (by decide) (by decide)
                    · skip
                      refine Goes.go (fun _ kk => XS.icmpNo X0.here hx rfl (hb hby d3_191) rfl (XT.ii_lt_f c191) kk) ?_
                      show Goes _ _ _ _ _ _ _ (T.setTop (mkF m 194 _ []))
                      refine Goes.go (fun _ kk => XS.iload X0.here hx rfl (hb hby d3_194) rfl kk) ?_
                      show Goes _ _ _ _ _ _ _ (T.setTop (mkF m 196 _ [(.int (gi u (i + (1 : Int32))))]))
                      refine Goes.go (fun _ kk => XS.iload X0.here hx rfl (hb hby d3_196) rfl kk) ?_
                      show Goes _ _ _ _ _ _ _ (T.setTop (mkF m 198 _ [(.int (191 : Int32)), (.int (gi u (i + (1 : Int32))))]))
                      by_cases c198 : (191 : Int32) < (gi u (i + (1 : Int32)))
                      · skip
                        refine Goes.go (fun _ kk => XS.icmpNo X0.here hx rfl (hb hby d3_198) rfl (XT.ii_le_f c198) kk) ?_
                        show Goes _ _ _ _ _ _ _ (T.setTop (mkF m 201 _ []))
                        refine Goes.go (fun _ kk => XS.iconst X0.here hx rfl (hb hby d3_201) kk) ?_
                        show Goes _ _ _ _ _ _ _ (T.setTop (mkF m 202 _ [(.int (0 : Int32))]))
                        have hut : utF u n i = 0 := by simp only [utF, ut2, ut3, ck1, ck2, ck3, if_pos c5, if_neg c20, if_neg c43, if_pos c50, if_neg c62, if_neg c69, if_neg c78, if_neg c95, if_pos c171, if_neg c191, if_pos c198]
                        have hu : UF u n (k + 1) i = 0 := by
                          show (if i < n then (if utF u n i = 0 then 0 else UF u n k (i + utF u n i)) else 1) = _
                          rw [if_pos c5, hut, if_pos rfl]
                        rw [hu] at hQ
                        exact Goes.outZ X0 hx hlk hret rfl (hb hby d3_202) e0 (hQ _ N0) (by decide) (by decide)
                      · skip
                        refine Goes.go (fun _ kk => XS.icmpYes X0.here hx rfl (pc0 := 198) (pc' := 203) rfl (hb hby d3_198) rfl (XT.ii_le_t c198) (by decide) (by decide) kk) ?_
                        show Goes _ _ _ _ _ _ _ (T.setTop (mkF m 203 _ []))
                        refine Goes.go (fun _ kk => XS.iloadN X0.here hx rfl (hb hby d3_203) rfl kk) ?_
                        show Goes _ _ _ _ _ _ _ (T.setTop (mkF m 204 _ [(.int i)]))
                        refine Goes.go (fun _ kk => XS.iconst X0.here hx rfl (hb hby d3_204) kk) ?_
                        show Goes _ _ _ _ _ _ _ (T.setTop (mkF m 205 _ [(.int (2 : Int32)), (.int i)]))
                        refine Goes.go (fun _ kk => XS.iadd X0.here hx rfl (hb hby d3_205) rfl kk) ?_
                        show Goes _ _ _ _ _ _ _ (T.setTop (mkF m 206 _ [(.int (i + (2 : Int32)))]))
                        refine Goes.go (fun _ kk => XS.istoreS X0.here hx rfl (hb hby d3_206) rfl rfl q7 kk) ?_
                        show Goes _ _ _ _ _ _ _ (T.setTop (mkF m 208 #[.val (.ref bb), .val (.int i), .val (.int (gi u i)), .val (.int (2 : Int32)), .val (.int (128 : Int32)), .val (.int (191 : Int32)), .val (.int (gi u (i + (1 : Int32)))), .val (.int (i + (2 : Int32)))] []))
                        refine Goes.go (fun _ kk => XS.iload X0.here hx rfl (hb hby d3_208) rfl kk) ?_
                        show Goes _ _ _ _ _ _ _ (T.setTop (mkF m 210 _ [(.int (i + (2 : Int32)))]))
                        refine Goes.go (fun _ kk => XS.iloadN X0.here hx rfl (hb hby d3_210) rfl kk) ?_
                        show Goes _ _ _ _ _ _ _ (T.setTop (mkF m 211 _ [(.int i), (.int (i + (2 : Int32)))]))
                        refine Goes.go (fun _ kk => XS.iloadN X0.here hx rfl (hb hby d3_211) rfl kk) ?_
                        show Goes _ _ _ _ _ _ _ (T.setTop (mkF m 212 _ [(.int (2 : Int32)), (.int i), (.int (i + (2 : Int32)))]))
                        refine Goes.go (fun _ kk => XS.iadd X0.here hx rfl (hb hby d3_212) rfl kk) ?_
                        show Goes _ _ _ _ _ _ _ (T.setTop (mkF m 213 _ [(.int (i + (2 : Int32))), (.int (i + (2 : Int32)))]))
                        refine Goes.go (fun _ kk => XS.icmpNo X0.here hx rfl (hb hby d3_213) rfl (XT.ii_gt_f (fun q => by have q := Int32.lt_iff_toInt_lt.mp q; rw [a2] at q; omega)) kk) ?_
                        show Goes _ _ _ _ _ _ _ (T.setTop (mkF m 216 _ []))
                        refine Goes.go (fun _ kk => XS.aloadN X0.here hx rfl (hb hby d3_216) rfl rfl kk) ?_
                        show Goes _ _ _ _ _ _ _ (T.setTop (mkF m 217 _ [(.ref bb)]))
                        refine Goes.go (fun _ kk => XS.iload X0.here hx rfl (hb hby d3_217) rfl kk) ?_
                        show Goes _ _ _ _ _ _ _ (T.setTop (mkF m 219 _ [(.int (i + (2 : Int32))), (.ref bb)]))
                        refine Goes.go (own_ldB X0 hx hZ e0 A0 (j := (i + (2 : Int32))) (v := (.int ((gi u (i + (2 : Int32)))).toInt8.toInt32)) (gi_take (f := (fun x : Int32 => Value.int x.toInt8.toInt32)) hl hN8 (by omega) (by omega)).1 (gi_take (f := (fun x : Int32 => Value.int x.toInt8.toInt32)) hl hN8 (by omega) (by omega)).2 rfl rfl (hb hby d3_219)) ?_
                        show Goes _ _ _ _ _ _ _ (T.setTop (mkF m 220 _ [(.int ((gi u (i + (2 : Int32)))).toInt8.toInt32)]))
                        refine Goes.go (fun _ kk => XS.sipush X0.here hx rfl (hb hby d3_220) kk) ?_
                        show Goes _ _ _ _ _ _ _ (T.setTop (mkF m 223 _ [(.int (192 : Int32)), (.int ((gi u (i + (2 : Int32)))).toInt8.toInt32)]))
                        refine Goes.go (fun _ kk => XS.iand X0.here hx rfl (hb hby d3_223) rfl kk) ?_
                        show Goes _ _ _ _ _ _ _ (T.setTop (mkF m 224 _ [(.int (((gi u (i + (2 : Int32)))).toInt8.toInt32 &&& (192 : Int32)))]))
                        rw [(m5 (hB _)).2]
                        show Goes _ _ _ _ _ _ _ (T.setTop (mkF m 224 _ [(.int ((gi u (i + (2 : Int32))) &&& (192 : Int32)))]))
                        refine Goes.go (fun _ kk => XS.sipush X0.here hx rfl (hb hby d3_224) kk) ?_
                        show Goes _ _ _ _ _ _ _ (T.setTop (mkF m 227 _ [(.int (128 : Int32)), (.int ((gi u (i + (2 : Int32))) &&& (192 : Int32)))]))
                        by_cases c227 : ((gi u (i + (2 : Int32))) &&& (192 : Int32)) = (128 : Int32)
                        · skip
                          refine Goes.go (fun _ kk => XS.icmpYes X0.here hx rfl (pc0 := 227) (pc' := 232) rfl (hb hby d3_227) rfl (XT.ii_eq_t c227) (by decide) (by decide) kk) ?_
                          show Goes _ _ _ _ _ _ _ (T.setTop (mkF m 232 _ []))
                          refine Goes.go (fun _ kk => XT.iincV X0.here hx rfl (1 : Int32) (hb hby d3_232) rfl rfl (l' := #[.val (.ref bb), .val (.int i), .val (.int (gi u i)), .val (.int (2 : Int32)), .val (.int (128 : Int32)), .val (.int (191 : Int32)), .val (.int (gi u (i + (1 : Int32)))), .val (.int ((i + (2 : Int32)) + (1 : Int32)))]) rfl kk) ?_
                          show Goes _ _ _ _ _ _ _ (T.setTop (mkF m 235 #[.val (.ref bb), .val (.int i), .val (.int (gi u i)), .val (.int (2 : Int32)), .val (.int (128 : Int32)), .val (.int (191 : Int32)), .val (.int (gi u (i + (1 : Int32)))), .val (.int ((i + (2 : Int32)) + (1 : Int32)))] []))
                          rw [own_23]
                          show Goes _ _ _ _ _ _ _ (T.setTop (mkF m 235 #[.val (.ref bb), .val (.int i), .val (.int (gi u i)), .val (.int (2 : Int32)), .val (.int (128 : Int32)), .val (.int (191 : Int32)), .val (.int (gi u (i + (1 : Int32)))), .val (.int (i + (3 : Int32)))] []))
                          refine Goes.go (fun _ kk => XS.goto X0.here hx rfl (pc0 := 235) (pc' := 208) rfl (hb hby d3_235) (by decide) (by decide) kk) ?_
                          show Goes _ _ _ _ _ _ _ (T.setTop (mkF m 208 _ []))
                          refine Goes.go (fun _ kk => XS.iload X0.here hx rfl (hb hby d3_208) rfl kk) ?_
                          show Goes _ _ _ _ _ _ _ (T.setTop (mkF m 210 _ [(.int (i + (3 : Int32)))]))
                          refine Goes.go (fun _ kk => XS.iloadN X0.here hx rfl (hb hby d3_210) rfl kk) ?_
                          show Goes _ _ _ _ _ _ _ (T.setTop (mkF m 211 _ [(.int i), (.int (i + (3 : Int32)))]))
                          refine Goes.go (fun _ kk => XS.iloadN X0.here hx rfl (hb hby d3_211) rfl kk) ?_
                          show Goes _ _ _ _ _ _ _ (T.setTop (mkF m 212 _ [(.int (2 : Int32)), (.int i), (.int (i + (3 : Int32)))]))
                          refine Goes.go (fun _ kk => XS.iadd X0.here hx rfl (hb hby d3_212) rfl kk) ?_
                          show Goes _ _ _ _ _ _ _ (T.setTop (mkF m 213 _ [(.int (i + (2 : Int32))), (.int (i + (3 : Int32)))]))
                          refine Goes.go (fun _ kk => XS.icmpYes X0.here hx rfl (pc0 := 213) (pc' := 238) rfl (hb hby d3_213) rfl (XT.ii_gt_t (Int32.lt_iff_toInt_lt.mpr (by rw [a2, a3]; omega))) (by decide) (by decide) kk) ?_
                          show Goes _ _ _ _ _ _ _ (T.setTop (mkF m 238 _ []))
                          refine Goes.go (fun _ kk => XS.iloadN X0.here hx rfl (hb hby d3_238) rfl kk) ?_
                          show Goes _ _ _ _ _ _ _ (T.setTop (mkF m 239 _ [(.int i)]))
                          refine Goes.go (fun _ kk => XS.iconst X0.here hx rfl (hb hby d3_239) kk) ?_
                          show Goes _ _ _ _ _ _ _ (T.setTop (mkF m 240 _ [(.int (1 : Int32)), (.int i)]))
                          refine Goes.go (fun _ kk => XS.iloadN X0.here hx rfl (hb hby d3_240) rfl kk) ?_
                          show Goes _ _ _ _ _ _ _ (T.setTop (mkF m 241 _ [(.int (2 : Int32)), (.int (1 : Int32)), (.int i)]))
                          refine Goes.go (fun _ kk => XS.iadd X0.here hx rfl (hb hby d3_241) rfl kk) ?_
                          show Goes _ _ _ _ _ _ _ (T.setTop (mkF m 242 _ [(.int (3 : Int32)), (.int i)]))
                          refine Goes.go (fun _ kk => XS.iadd X0.here hx rfl (hb hby d3_242) rfl kk) ?_
                          show Goes _ _ _ _ _ _ _ (T.setTop (mkF m 243 _ [(.int (i + (3 : Int32)))]))
                          refine Goes.go (fun _ kk => XS.istoreN X0.here hx rfl (hb hby d3_243) rfl (l' := #[.val (.ref bb), .val (.int (i + (3 : Int32))), .val (.int (gi u i)), .val (.int (2 : Int32)), .val (.int (128 : Int32)), .val (.int (191 : Int32)), .val (.int (gi u (i + (1 : Int32)))), .val (.int (i + (3 : Int32)))]) rfl kk) ?_
                          show Goes _ _ _ _ _ _ _ (T.setTop (mkF m 244 #[.val (.ref bb), .val (.int (i + (3 : Int32))), .val (.int (gi u i)), .val (.int (2 : Int32)), .val (.int (128 : Int32)), .val (.int (191 : Int32)), .val (.int (gi u (i + (1 : Int32)))), .val (.int (i + (3 : Int32)))] []))
                          refine Goes.go (fun _ kk => XS.goto X0.here hx rfl (pc0 := 244) (pc' := 2) rfl (hb hby d3_244) (by decide) (by decide) kk) ?_
                          show Goes _ _ _ _ _ _ _ (T.setTop (mkF m 2 _ []))
                          have hut : utF u n i = 3 := by simp only [utF, ut2, ut3, ck1, ck2, ck3, if_pos c5, if_neg c20, if_neg c43, if_pos c50, if_neg c62, if_neg c69, if_neg c78, if_neg c95, if_pos c171, if_neg c191, if_neg c198, if_pos c227]
                          have hu : UF u n (k + 1) i = UF u n k (i + (3 : Int32)) := by
                            show (if i < n then (if utF u n i = 0 then 0 else UF u n k (i + utF u n i)) else 1) = _
                            rw [if_pos c5, hut, if_neg (by decide)]
                          rw [hu] at hQ
                          exact ih _ _ _ _ _ _ _ (One.val rfl) (One.val rfl) (One.val rfl) (One.val rfl) (One.val rfl) (One.val rfl) (by omega) (by omega) (by omega) hQ
                        · skip
                          refine Goes.go (fun _ kk => XS.icmpNo X0.here hx rfl (hb hby d3_227) rfl (XT.ii_eq_f c227) kk) ?_
                          show Goes _ _ _ _ _ _ _ (T.setTop (mkF m 230 _ []))
                          refine Goes.go (fun _ kk => XS.iconst X0.here hx rfl (hb hby d3_230) kk) ?_
                          show Goes _ _ _ _ _ _ _ (T.setTop (mkF m 231 _ [(.int (0 : Int32))]))
                          have hut : utF u n i = 0 := by simp only [utF, ut2, ut3, ck1, ck2, ck3, if_pos c5, if_neg c20, if_neg c43, if_pos c50, if_neg c62, if_neg c69, if_neg c78, if_neg c95, if_pos c171, if_neg c191, if_neg c198, if_neg c227]
                          have hu : UF u n (k + 1) i = 0 := by
                            show (if i < n then (if utF u n i = 0 then 0 else UF u n k (i + utF u n i)) else 1) = _
                            rw [if_pos c5, hut, if_pos rfl]
                          rw [hu] at hQ
                          exact Goes.outZ X0 hx hlk hret rfl (hb hby d3_231) e0 (hQ _ N0) (by decide) (by decide)
                  · skip
                    refine Goes.go (fun _ kk => XS.icmpNo X0.here hx rfl (hb hby d3_171) rfl (XT.ii_gt_f c171) kk) ?_
                    show Goes _ _ _ _ _ _ _ (T.setTop (mkF m 174 _ []))
                    refine Goes.go (fun _ kk => XS.iconst X0.here hx rfl (hb hby d3_174) kk) ?_
                    show Goes _ _ _ _ _ _ _ (T.setTop (mkF m 175 _ [(.int (0 : Int32))]))
                    have hut : utF u n i = 0 := by simp only [utF, ut2, ut3, ck1, ck2, ck3, if_pos c5, if_neg c20, if_neg c43, if_pos c50, if_neg c62, if_neg c69, if_neg c78, if_neg c95, if_neg c171]
                    have hu : UF u n (k + 1) i = 0 := by
                      show (if i < n then (if utF u n i = 0 then 0 else UF u n k (i + utF u n i)) else 1) = _
                      rw [if_pos c5, hut, if_pos rfl]
                    rw [hu] at hQ
                    exact Goes.outZ X0 hx hlk hret rfl (hb hby d3_175) e0 (hQ _ N0) (by decide) (by decide)
          · skip
            refine Goes.go (fun _ kk => XS.icmpNo X0.here hx rfl (hb hby d3_50) rfl (XT.ii_gt_f c50) kk) ?_
            show Goes _ _ _ _ _ _ _ (T.setTop (mkF m 53 _ []))
            refine Goes.go (fun _ kk => XS.iconst X0.here hx rfl (hb hby d3_53) kk) ?_
            show Goes _ _ _ _ _ _ _ (T.setTop (mkF m 54 _ [(.int (1 : Int32))]))
            refine Goes.go (fun _ kk => XS.istoreNS X0.here hx rfl (hb hby d3_54) rfl rfl q3 kk) ?_
            show Goes _ _ _ _ _ _ _ (T.setTop (mkF m 55 #[.val (.ref bb), .val (.int i), .val (.int (gi u i)), .val (.int (1 : Int32)), .val (.int (128 : Int32)), .val (.int (191 : Int32)), o6, o7] []))
            refine Goes.go (fun _ kk => XS.goto X0.here hx rfl (pc0 := 55) (pc' := 166) rfl (hb hby d3_55) (by decide) (by decide) kk) ?_
            show Goes _ _ _ _ _ _ _ (T.setTop (mkF m 166 _ []))
            have a1 : (i + (1 : Int32)).toInt = i.toInt + 1 := own_ad (by decide) hi0 (by omega) (by decide) (by decide)
            have a2 : (i + (2 : Int32)).toInt = i.toInt + 2 := own_ad (by decide) hi0 (by omega) (by decide) (by decide)
            have a3 : (i + (3 : Int32)).toInt = i.toInt + 3 := own_ad (by decide) hi0 (by omega) (by decide) (by decide)
            have a4 : (i + (4 : Int32)).toInt = i.toInt + 4 := own_ad (by decide) hi0 (by omega) (by decide) (by decide)
            have sb := own_sb hi0 (by omega) (by omega : 0 ≤ n.toInt) (by omega)
            refine Goes.go (fun _ kk => XS.aloadN X0.here hx rfl (hb hby d3_166) rfl rfl kk) ?_
            show Goes _ _ _ _ _ _ _ (T.setTop (mkF m 167 _ [(.ref bb)]))
            refine Goes.go (own_len X0 hx hZ e0 A0 (n := n) hln rfl rfl (hb hby d3_167)) ?_
            show Goes _ _ _ _ _ _ _ (T.setTop (mkF m 168 _ [(.int n)]))
            refine Goes.go (fun _ kk => XS.iloadN X0.here hx rfl (hb hby d3_168) rfl kk) ?_
            show Goes _ _ _ _ _ _ _ (T.setTop (mkF m 169 _ [(.int i), (.int n)]))
            refine Goes.go (fun _ kk => XS.isub X0.here hx rfl (hb hby d3_169) rfl kk) ?_
            show Goes _ _ _ _ _ _ _ (T.setTop (mkF m 170 _ [(.int (n - i))]))
            refine Goes.go (fun _ kk => XS.iloadN X0.here hx rfl (hb hby d3_170) rfl kk) ?_
            show Goes _ _ _ _ _ _ _ (T.setTop (mkF m 171 _ [(.int (1 : Int32)), (.int (n - i))]))
            by_cases c171 : (1 : Int32) < (n - i)
            · skip
              refine Goes.go (fun _ kk => XS.icmpYes X0.here hx rfl (pc0 := 171) (pc' := 176) rfl (hb hby d3_171) rfl (XT.ii_gt_t c171) (by decide) (by decide) kk) ?_
              show Goes _ _ _ _ _ _ _ (T.setTop (mkF m 176 _ []))
              have hf : 1 < n.toInt - i.toInt := by have q := Int32.lt_iff_toInt_lt.mp c171; rw [sb] at q; exact q
              refine Goes.go (fun _ kk => XS.aloadN X0.here hx rfl (hb hby d3_176) rfl rfl kk) ?_
              show Goes _ _ _ _ _ _ _ (T.setTop (mkF m 177 _ [(.ref bb)]))
              refine Goes.go (fun _ kk => XS.iloadN X0.here hx rfl (hb hby d3_177) rfl kk) ?_
              show Goes _ _ _ _ _ _ _ (T.setTop (mkF m 178 _ [(.int i), (.ref bb)]))
              refine Goes.go (fun _ kk => XS.iconst X0.here hx rfl (hb hby d3_178) kk) ?_
              show Goes _ _ _ _ _ _ _ (T.setTop (mkF m 179 _ [(.int (1 : Int32)), (.int i), (.ref bb)]))
              refine Goes.go (fun _ kk => XS.iadd X0.here hx rfl (hb hby d3_179) rfl kk) ?_
              show Goes _ _ _ _ _ _ _ (T.setTop (mkF m 180 _ [(.int (i + (1 : Int32))), (.ref bb)]))
              refine Goes.go (own_ldB X0 hx hZ e0 A0 (j := (i + (1 : Int32))) (v := (.int ((gi u (i + (1 : Int32)))).toInt8.toInt32)) (gi_take (f := (fun x : Int32 => Value.int x.toInt8.toInt32)) hl hN8 (by omega) (by omega)).1 (gi_take (f := (fun x : Int32 => Value.int x.toInt8.toInt32)) hl hN8 (by omega) (by omega)).2 rfl rfl (hb hby d3_180)) ?_
              show Goes _ _ _ _ _ _ _ (T.setTop (mkF m 181 _ [(.int ((gi u (i + (1 : Int32)))).toInt8.toInt32)]))
              refine Goes.go (fun _ kk => XS.sipush X0.here hx rfl (hb hby d3_181) kk) ?_
              show Goes _ _ _ _ _ _ _ (T.setTop (mkF m 184 _ [(.int (255 : Int32)), (.int ((gi u (i + (1 : Int32)))).toInt8.toInt32)]))
              refine Goes.go (fun _ kk => XS.iand X0.here hx rfl (hb hby d3_184) rfl kk) ?_
              show Goes _ _ _ _ _ _ _ (T.setTop (mkF m 185 _ [(.int (((gi u (i + (1 : Int32)))).toInt8.toInt32 &&& (255 : Int32)))]))
              rw [(m5 (hB _)).1]
              show Goes _ _ _ _ _ _ _ (T.setTop (mkF m 185 _ [(.int (gi u (i + (1 : Int32))))]))
              refine Goes.go (fun _ kk => XS.istoreS X0.here hx rfl (hb hby d3_185) rfl rfl q6 kk) ?_
              show Goes _ _ _ _ _ _ _ (T.setTop (mkF m 187 #[.val (.ref bb), .val (.int i), .val (.int (gi u i)), .val (.int (1 : Int32)), .val (.int (128 : Int32)), .val (.int (191 : Int32)), .val (.int (gi u (i + (1 : Int32)))), o7] []))
              refine Goes.go (fun _ kk => XS.iload X0.here hx rfl (hb hby d3_187) rfl kk) ?_
              show Goes _ _ _ _ _ _ _ (T.setTop (mkF m 189 _ [(.int (gi u (i + (1 : Int32))))]))
              refine Goes.go (fun _ kk => XS.iload X0.here hx rfl (hb hby d3_189) rfl kk) ?_
              show Goes _ _ _ _ _ _ _ (T.setTop (mkF m 191 _ [(.int (128 : Int32)), (.int (gi u (i + (1 : Int32))))]))
              by_cases c191 : (gi u (i + (1 : Int32))) < (128 : Int32)
              · skip
                refine Goes.go (fun _ kk => XS.icmpYes X0.here hx rfl (pc0 := 191) (pc' := 201) rfl (hb hby d3_191) rfl (XT.ii_lt_t c191) (by decide) (by decide) kk) ?_
                show Goes _ _ _ _ _ _ _ (T.setTop (mkF m 201 _ []))
                refine Goes.go (fun _ kk => XS.iconst X0.here hx rfl (hb hby d3_201) kk) ?_
                show Goes _ _ _ _ _ _ _ (T.setTop (mkF m 202 _ [(.int (0 : Int32))]))
                have hut : utF u n i = 0 := by simp only [utF, ut2, ut3, ck1, ck2, ck3, if_pos c5, if_neg c20, if_neg c43, if_neg c50, if_pos c171, if_pos c191]
                have hu : UF u n (k + 1) i = 0 := by
                  show (if i < n then (if utF u n i = 0 then 0 else UF u n k (i + utF u n i)) else 1) = _
                  rw [if_pos c5, hut, if_pos rfl]
                rw [hu] at hQ
                exact Goes.outZ X0 hx hlk hret rfl (hb hby d3_202) e0 (hQ _ N0) (by decide) (by decide)
              · skip
                refine Goes.go (fun _ kk => XS.icmpNo X0.here hx rfl (hb hby d3_191) rfl (XT.ii_lt_f c191) kk) ?_
                show Goes _ _ _ _ _ _ _ (T.setTop (mkF m 194 _ []))
                refine Goes.go (fun _ kk => XS.iload X0.here hx rfl (hb hby d3_194) rfl kk) ?_
                show Goes _ _ _ _ _ _ _ (T.setTop (mkF m 196 _ [(.int (gi u (i + (1 : Int32))))]))
                refine Goes.go (fun _ kk => XS.iload X0.here hx rfl (hb hby d3_196) rfl kk) ?_
                show Goes _ _ _ _ _ _ _ (T.setTop (mkF m 198 _ [(.int (191 : Int32)), (.int (gi u (i + (1 : Int32))))]))
                by_cases c198 : (191 : Int32) < (gi u (i + (1 : Int32)))
                · skip
                  refine Goes.go (fun _ kk => XS.icmpNo X0.here hx rfl (hb hby d3_198) rfl (XT.ii_le_f c198) kk) ?_
                  show Goes _ _ _ _ _ _ _ (T.setTop (mkF m 201 _ []))
                  refine Goes.go (fun _ kk => XS.iconst X0.here hx rfl (hb hby d3_201) kk) ?_
                  show Goes _ _ _ _ _ _ _ (T.setTop (mkF m 202 _ [(.int (0 : Int32))]))
                  have hut : utF u n i = 0 := by simp only [utF, ut2, ut3, ck1, ck2, ck3, if_pos c5, if_neg c20, if_neg c43, if_neg c50, if_pos c171, if_neg c191, if_pos c198]
                  have hu : UF u n (k + 1) i = 0 := by
                    show (if i < n then (if utF u n i = 0 then 0 else UF u n k (i + utF u n i)) else 1) = _
                    rw [if_pos c5, hut, if_pos rfl]
                  rw [hu] at hQ
                  exact Goes.outZ X0 hx hlk hret rfl (hb hby d3_202) e0 (hQ _ N0) (by decide) (by decide)
                · skip
                  refine Goes.go (fun _ kk => XS.icmpYes X0.here hx rfl (pc0 := 198) (pc' := 203) rfl (hb hby d3_198) rfl (XT.ii_le_t c198) (by decide) (by decide) kk) ?_
                  show Goes _ _ _ _ _ _ _ (T.setTop (mkF m 203 _ []))
                  refine Goes.go (fun _ kk => XS.iloadN X0.here hx rfl (hb hby d3_203) rfl kk) ?_
                  show Goes _ _ _ _ _ _ _ (T.setTop (mkF m 204 _ [(.int i)]))
                  refine Goes.go (fun _ kk => XS.iconst X0.here hx rfl (hb hby d3_204) kk) ?_
                  show Goes _ _ _ _ _ _ _ (T.setTop (mkF m 205 _ [(.int (2 : Int32)), (.int i)]))
                  refine Goes.go (fun _ kk => XS.iadd X0.here hx rfl (hb hby d3_205) rfl kk) ?_
                  show Goes _ _ _ _ _ _ _ (T.setTop (mkF m 206 _ [(.int (i + (2 : Int32)))]))
                  refine Goes.go (fun _ kk => XS.istoreS X0.here hx rfl (hb hby d3_206) rfl rfl q7 kk) ?_
                  show Goes _ _ _ _ _ _ _ (T.setTop (mkF m 208 #[.val (.ref bb), .val (.int i), .val (.int (gi u i)), .val (.int (1 : Int32)), .val (.int (128 : Int32)), .val (.int (191 : Int32)), .val (.int (gi u (i + (1 : Int32)))), .val (.int (i + (2 : Int32)))] []))
                  refine Goes.go (fun _ kk => XS.iload X0.here hx rfl (hb hby d3_208) rfl kk) ?_
                  show Goes _ _ _ _ _ _ _ (T.setTop (mkF m 210 _ [(.int (i + (2 : Int32)))]))
                  refine Goes.go (fun _ kk => XS.iloadN X0.here hx rfl (hb hby d3_210) rfl kk) ?_
                  show Goes _ _ _ _ _ _ _ (T.setTop (mkF m 211 _ [(.int i), (.int (i + (2 : Int32)))]))
                  refine Goes.go (fun _ kk => XS.iloadN X0.here hx rfl (hb hby d3_211) rfl kk) ?_
                  show Goes _ _ _ _ _ _ _ (T.setTop (mkF m 212 _ [(.int (1 : Int32)), (.int i), (.int (i + (2 : Int32)))]))
                  refine Goes.go (fun _ kk => XS.iadd X0.here hx rfl (hb hby d3_212) rfl kk) ?_
                  show Goes _ _ _ _ _ _ _ (T.setTop (mkF m 213 _ [(.int (i + (1 : Int32))), (.int (i + (2 : Int32)))]))
                  refine Goes.go (fun _ kk => XS.icmpYes X0.here hx rfl (pc0 := 213) (pc' := 238) rfl (hb hby d3_213) rfl (XT.ii_gt_t (Int32.lt_iff_toInt_lt.mpr (by rw [a1, a2]; omega))) (by decide) (by decide) kk) ?_
                  show Goes _ _ _ _ _ _ _ (T.setTop (mkF m 238 _ []))
                  refine Goes.go (fun _ kk => XS.iloadN X0.here hx rfl (hb hby d3_238) rfl kk) ?_
                  show Goes _ _ _ _ _ _ _ (T.setTop (mkF m 239 _ [(.int i)]))
                  refine Goes.go (fun _ kk => XS.iconst X0.here hx rfl (hb hby d3_239) kk) ?_
                  show Goes _ _ _ _ _ _ _ (T.setTop (mkF m 240 _ [(.int (1 : Int32)), (.int i)]))
                  refine Goes.go (fun _ kk => XS.iloadN X0.here hx rfl (hb hby d3_240) rfl kk) ?_
                  show Goes _ _ _ _ _ _ _ (T.setTop (mkF m 241 _ [(.int (1 : Int32)), (.int (1 : Int32)), (.int i)]))
                  refine Goes.go (fun _ kk => XS.iadd X0.here hx rfl (hb hby d3_241) rfl kk) ?_
                  show Goes _ _ _ _ _ _ _ (T.setTop (mkF m 242 _ [(.int (2 : Int32)), (.int i)]))
                  refine Goes.go (fun _ kk => XS.iadd X0.here hx rfl (hb hby d3_242) rfl kk) ?_
                  show Goes _ _ _ _ _ _ _ (T.setTop (mkF m 243 _ [(.int (i + (2 : Int32)))]))
                  refine Goes.go (fun _ kk => XS.istoreN X0.here hx rfl (hb hby d3_243) rfl (l' := #[.val (.ref bb), .val (.int (i + (2 : Int32))), .val (.int (gi u i)), .val (.int (1 : Int32)), .val (.int (128 : Int32)), .val (.int (191 : Int32)), .val (.int (gi u (i + (1 : Int32)))), .val (.int (i + (2 : Int32)))]) rfl kk) ?_
                  show Goes _ _ _ _ _ _ _ (T.setTop (mkF m 244 #[.val (.ref bb), .val (.int (i + (2 : Int32))), .val (.int (gi u i)), .val (.int (1 : Int32)), .val (.int (128 : Int32)), .val (.int (191 : Int32)), .val (.int (gi u (i + (1 : Int32)))), .val (.int (i + (2 : Int32)))] []))
                  refine Goes.go (fun _ kk => XS.goto X0.here hx rfl (pc0 := 244) (pc' := 2) rfl (hb hby d3_244) (by decide) (by decide) kk) ?_
                  show Goes _ _ _ _ _ _ _ (T.setTop (mkF m 2 _ []))
                  have hut : utF u n i = 2 := by simp only [utF, ut2, ut3, ck1, ck2, ck3, if_pos c5, if_neg c20, if_neg c43, if_neg c50, if_pos c171, if_neg c191, if_neg c198]
                  have hu : UF u n (k + 1) i = UF u n k (i + (2 : Int32)) := by
                    show (if i < n then (if utF u n i = 0 then 0 else UF u n k (i + utF u n i)) else 1) = _
                    rw [if_pos c5, hut, if_neg (by decide)]
                  rw [hu] at hQ
                  exact ih _ _ _ _ _ _ _ (One.val rfl) (One.val rfl) (One.val rfl) (One.val rfl) (One.val rfl) (One.val rfl) (by omega) (by omega) (by omega) hQ
            · skip
              refine Goes.go (fun _ kk => XS.icmpNo X0.here hx rfl (hb hby d3_171) rfl (XT.ii_gt_f c171) kk) ?_
              show Goes _ _ _ _ _ _ _ (T.setTop (mkF m 174 _ []))
              refine Goes.go (fun _ kk => XS.iconst X0.here hx rfl (hb hby d3_174) kk) ?_
              show Goes _ _ _ _ _ _ _ (T.setTop (mkF m 175 _ [(.int (0 : Int32))]))
              have hut : utF u n i = 0 := by simp only [utF, ut2, ut3, ck1, ck2, ck3, if_pos c5, if_neg c20, if_neg c43, if_neg c50, if_neg c171]
              have hu : UF u n (k + 1) i = 0 := by
                show (if i < n then (if utF u n i = 0 then 0 else UF u n k (i + utF u n i)) else 1) = _
                rw [if_pos c5, hut, if_pos rfl]
              rw [hu] at hQ
              exact Goes.outZ X0 hx hlk hret rfl (hb hby d3_175) e0 (hQ _ N0) (by decide) (by decide)
    · skip
      refine Goes.go (fun _ kk => XS.icmpYes X0.here hx rfl (pc0 := 5) (pc' := 247) rfl (hb hby d3_5) rfl (XT.ii_ge_t c5) (by decide) (by decide) kk) ?_
      show Goes _ _ _ _ _ _ _ (T.setTop (mkF m 247 _ []))
      refine Goes.go (fun _ kk => XS.iconst X0.here hx rfl (hb hby d3_247) kk) ?_
      show Goes _ _ _ _ _ _ _ (T.setTop (mkF m 248 _ [(.int (1 : Int32))]))
      have hu : UF u n (k + 1) i = 1 := by
        show (if i < n then (if utF u n i = 0 then 0 else UF u n k (i + utF u n i)) else 1) = _
        rw [if_neg c5]
      rw [hu] at hQ
      exact Goes.outZ X0 hx hlk hret rfl (hb hby d3_248) e0 (hQ _ N0) (by decide) (by decide)
theorem pn1 : plainName "com/example/wide_schema/wideschema/model/NativeType" = true := by first | (simp [plainName, overriddenIn]; done) | decide +kernel
theorem ef_rm3 (m : MethodId) (bb : Addr) : entryFrame m #[(.ref bb)] 8 = mkF m 0 #[.val (.ref bb), .unset, .unset, .unset, .unset, .unset, .unset, .unset] [] := by first | (simp [entryFrame, mkF, argsToLocals, Value.category]; done) | rfl
def Q_rm3 (Z : State) (bb : Addr) (n : Int32) (N : Nat) (u : List Int32) (h0 : Heap) (n0 : Nat) (v : Option Value) (h : Heap) (L : List Loc) : Prop := v = some (.int (UF u n 8 0)) ∧ Fr n0 L ∧ h = h0
set_option maxRecDepth 65536 in
set_option maxHeartbeats 40000000 in
theorem rm3 (l : Launch) (Z : State) (a0 : Array Value) (hw : ∀ d ∈ tables_1, d.before a0 Z = true) (ws : List Jvm.Cond) (bb : Addr) (n : Int32) (N : Nat) (u : List Int32) (h0 : Heap) (n0 : Nat) (Z0 : n0 ≤ h0.size) (A0 : Arl Z h0 bb .byte (List.map (fun x : Int32 => Value.int x.toInt8.toInt32) (u.take N))) (hl : u.length = 8) (hnN : n.toInt = N) (hN8 : N ≤ 8) (hB : ∀ j, isB (gi u j)) (hln : (List.map (fun x : Int32 => Value.int x.toInt8.toInt32) (u.take N)).length.toInt32 = n) :
    MetFree l (⟨"com/example/wide_schema/wideschema/model/NativeType", "isUtf8", "([B)Z"⟩ : MethodName) (head1 (Jvm.Cond.code (⟨"com/example/wide_schema/wideschema/model/NativeType", "isUtf8", "([B)Z"⟩ : MethodName) prog_56_method_10_code 8 (some .boolean) :: ws) ({ frames := 0, cells := 0, slots := 0, locals := 0 } : Room)) (fun aa U => aa = #[(.ref bb)] ∧ Z.Warmed39 U.vm ∧ U.heap = h0) (fun _ _ _ _ _ => True) (fun _ U oo U' => ∃ v L, oo = .returned v ∧ Q_rm3 Z bb n N u h0 n0 v U'.heap L ∧ FrameEnd U oo U' L ({ frames := 0, cells := 0, slots := 0, locals := 0 } : Room).cells ({ frames := 0, cells := 0, slots := 0, locals := 0 } : Room).slots) := by
  refine MetFree.of_bodySF (plainFor_of_name pn1) hisR ?_
  intro p e s m args below meth c s₁ Bd hml0 hP hK
  obtain ⟨rfl, hZ, hh⟩ := hP
  have hx := Bd.exec
  have hby := Bd.bytes
  have hml : c.maxLocals = 8 := hml0
  have hown : s.vm.findClass "com/example/wide_schema/wideschema/model/NativeType" = some m.cls := findClass_of_methodNamed Bd.named
  have hnm := (name_of_methodNamed Bd.named Bd.method).1
  have hlk : meth.locks = false := Bd.notSynchronized
  have hret := Bd.returns
  have X0 : Stand p l e ({ frames := 0, cells := 0, slots := 0, locals := 0 } : Room) s m #[(.ref bb)] below meth c s₁ [] 0 0 := Stand.of_body Bd
  have e0 : s₁.heap = h0 := by rw [← hh, Bd.state]; rfl
  have N0 := Fr.nil n0
  have K0 : Keep h0 h0 [] := Keep.refl _ _
  show Goes p e below s (Q_rm3 Z bb n N u h0 n0) ({ frames := 0, cells := 0, slots := 0, locals := 0 } : Room).cells ({ frames := 0, cells := 0, slots := 0, locals := 0 } : Room).slots _
  refine Goes.go (fun t k => castTop (ef_rm3 m bb) k) ?_
  show Goes _ _ _ _ _ _ _ (s₁.setTop (mkF m 0 #[.val (.ref bb), .unset, .unset, .unset, .unset, .unset, .unset, .unset] []))
  refine Goes.go (fun _ kk => XS.iconst X0.here hx rfl (hb hby d3_0) kk) ?_
  show Goes _ _ _ _ _ _ _ (s₁.setTop (mkF m 1 _ [(.int (0 : Int32))]))
  refine Goes.go (fun _ kk => XS.istoreN X0.here hx rfl (hb hby d3_1) rfl (l' := #[.val (.ref bb), .val (.int (0 : Int32)), .unset, .unset, .unset, .unset, .unset, .unset]) rfl kk) ?_
  show Goes _ _ _ _ _ _ _ (s₁.setTop (mkF m 2 #[.val (.ref bb), .val (.int (0 : Int32)), .unset, .unset, .unset, .unset, .unset, .unset] []))
  exact lp2 hw hx hby hml hown hnm hlk hret hZ n0 bb n N u Z0 X0 e0 N0 A0 hl hnN hN8 hB hln 8 0 _ _ _ _ _ _ One.u One.u One.u One.u One.u One.u (by decide) (by rw [hnN]; exact Int.natCast_nonneg N) (by have e0 : (0 : Int32).toInt = 0 := (by decide); omega) (fun _ N => ⟨rfl, N, rfl⟩)
set_option maxRecDepth 65536 in
set_option maxHeartbeats 40000000 in
theorem seg228 {p : Program} {l : Launch} {e : Env} {s : State} {m : MethodId} {args : Array Value} {below : List Frame} {meth : Method} {c : Code} {Q : Option Value → Heap → List Loc → Prop} {Z : State} {a0 : Array Value} (hw : ∀ d ∈ tables_1, d.before a0 Z = true) (hx : p.tables.exec = Jvm.exec) (hby : c.code = code) (hml : c.maxLocals = 8) (hown : s.vm.findClass "com/example/wide_schema/wideschema/model/NativeTypeIsUtf8PinLaw" = some m.cls) (hnm : meth.name = "law") (hlk : meth.locks = false) (hret : meth.sig.returnType = (some .boolean)) (hZ : Z.Warmed39 s.vm) (p0 : Int32) (p1 : Int32) (p2 : Int32) (n : Int32) (ua : Addr) (bb : Addr) (N : Nat) (u : List Int32) (sl : Nat) (n0 : Nat) (hQ : ∀ h L, Fr n0 L → Q (some (.int 1)) h L)
    {T : State} {locs : List Loc} {h0 : Heap} (Z0 : n0 ≤ h0.size) (X0 : Stand p l e room_1 s m args below meth c T locs 2 16) (e0 : T.heap = h0) (N0 : Fr n0 locs) (Au : Arl Z h0 ua .int (List.map Value.int u)) (Ab : Arl Z h0 bb .byte (List.map (fun x : Int32 => Value.int x.toInt8.toInt32) (u.take N))) (hl : u.length = 8) (hnN : n.toInt = N) (hN8 : N ≤ 8) (hB : ∀ j, isB (gi u j)) (hln : (List.map (fun x : Int32 => Value.int x.toInt8.toInt32) (u.take N)).length.toInt32 = n) :
    Goes p e below s Q room_1.cells room_1.slots (T.setTop (mkF m 228 #[.val (.int p0), .val (.int p1), .val (.int p2), .val (.int n), .val (.ref ua), .val (.ref bb), .unset, .unset] [])) := by
  have hn0 : 0 ≤ n.toInt := by omega
  have hn8 : n.toInt ≤ 8 := by omega
  show Goes _ _ _ _ _ _ _ (T.setTop (mkF m 228 #[.val (.int p0), .val (.int p1), .val (.int p2), .val (.int n), .val (.ref ua), .val (.ref bb), .unset, .unset] []))
  refine Goes.go (fun _ kk => XS.iconst X0.here hx rfl (hb hby at_228) kk) ?_
  show Goes _ _ _ _ _ _ _ (T.setTop (mkF m 229 _ [(.int (0 : Int32))]))
  refine Goes.go (fun _ kk => XS.istore X0.here hx rfl (hb hby at_229) rfl (l' := #[.val (.int p0), .val (.int p1), .val (.int p2), .val (.int n), .val (.ref ua), .val (.ref bb), .val (.int (0 : Int32)), .unset]) rfl kk) ?_
  show Goes _ _ _ _ _ _ _ (T.setTop (mkF m 231 #[.val (.int p0), .val (.int p1), .val (.int p2), .val (.int n), .val (.ref ua), .val (.ref bb), .val (.int (0 : Int32)), .unset] []))
  refine Goes.go (fun _ kk => XS.aload X0.here hx rfl (hb hby at_231) rfl rfl kk) ?_
  show Goes _ _ _ _ _ _ _ (T.setTop (mkF m 233 _ [(.ref ua)]))
  refine Goes.go (fun _ kk => XS.iload X0.here hx rfl (hb hby at_233) rfl kk) ?_
  show Goes _ _ _ _ _ _ _ (T.setTop (mkF m 235 _ [(.int (0 : Int32)), (.ref ua)]))
  refine Goes.go (fun _ kk => XS.iloadN X0.here hx rfl (hb hby at_235) rfl kk) ?_
  show Goes _ _ _ _ _ _ _ (T.setTop (mkF m 236 _ [(.int n), (.int (0 : Int32)), (.ref ua)]))
  obtain ⟨_, _, ⟨T1, L1, k1, n1⟩, -, X1, ⟨Lc1, hQ1, l1, y1, z1⟩, st1⟩ := Jvm.LawKit.callS X0 hx (y := (⟨"com/example/wide_schema/wideschema/model/NativeTypeIsUtf8PinLaw", "step", "([III)I"⟩ : MethodName)) hown (mvT hZ (hw _ (List.mem_of_getElem? (i := 3) rfl))) (mvT hZ (hw _ (List.mem_of_getElem? (i := 4) rfl))) (mvT hZ (hw _ (List.mem_of_getElem? (i := 5) rfl))) (mvT hZ (hw _ (List.mem_of_getElem? (i := 6) rfl))) (by decide) (backOf (W := 0) (rm1 l Z a0 hw [] ua (0 : Int32) n u h0 n0 Z0 Au hl hn0 hn8) hZ (hw _ (List.mem_of_getElem? (i := 6) rfl)) (hw _ (List.mem_of_getElem? (i := 5) rfl)) (by decide) (by decide)) (g := (mkF m 236 #[.val (.int p0), .val (.int p1), .val (.int p2), .val (.int n), .val (.ref ua), .val (.ref bb), .val (.int (0 : Int32)), .unset] [(.int n), (.int (0 : Int32)), (.ref ua)])) rfl (by rw [hml]; rfl) (argsL := [(.ref ua), (.int (0 : Int32)), (.int n)]) (rest := []) (lenOf pd0 rfl) rfl (by show 2 * 0 + _ ≤ _; exact Nat.le_of_eq rfl) (hb hby at_236) (fun _ _ => ⟨rfl, e0, (by decide : 2 + 0 ≤ _), (by decide : 16 + 0 ≤ _)⟩)
  dsimp only [Pt.U, Pt.locs, Pt.cells, Pt.slots] at X1 l1 y1 z1 st1 hQ1
  subst l1 y1 z1
  obtain ⟨rfl, Nq1, hh1⟩ := hQ1
  have N1 := Fr.app N0 Nq1
  refine Goes.go (st1) ?_
  show Goes _ _ _ _ _ _ _ (T1.setTop (mkF m 239 _ [(.int (stF u n (0 : Int32)))]))
  generalize hv239 : (stF u n (0 : Int32)) = v239
  refine Goes.go (fun _ kk => XS.istore X1.here hx rfl (hb hby at_239) rfl (l' := #[.val (.int p0), .val (.int p1), .val (.int p2), .val (.int n), .val (.ref ua), .val (.ref bb), .val (.int v239), .unset]) rfl kk) ?_
  show Goes _ _ _ _ _ _ _ (T1.setTop (mkF m 241 #[.val (.int p0), .val (.int p1), .val (.int p2), .val (.int n), .val (.ref ua), .val (.ref bb), .val (.int v239), .unset] []))
  refine Goes.go (fun _ kk => XS.aload X1.here hx rfl (hb hby at_241) rfl rfl kk) ?_
  show Goes _ _ _ _ _ _ _ (T1.setTop (mkF m 243 _ [(.ref ua)]))
  refine Goes.go (fun _ kk => XS.iload X1.here hx rfl (hb hby at_243) rfl kk) ?_
  show Goes _ _ _ _ _ _ _ (T1.setTop (mkF m 245 _ [(.int v239), (.ref ua)]))
  refine Goes.go (fun _ kk => XS.iloadN X1.here hx rfl (hb hby at_245) rfl kk) ?_
  show Goes _ _ _ _ _ _ _ (T1.setTop (mkF m 246 _ [(.int n), (.int v239), (.ref ua)]))
  obtain ⟨_, _, ⟨T2, L2, k2, n2⟩, -, X2, ⟨Lc2, hQ2, l2, y2, z2⟩, st2⟩ := Jvm.LawKit.callS X1 hx (y := (⟨"com/example/wide_schema/wideschema/model/NativeTypeIsUtf8PinLaw", "step", "([III)I"⟩ : MethodName)) hown (mvT hZ (hw _ (List.mem_of_getElem? (i := 3) rfl))) (mvT hZ (hw _ (List.mem_of_getElem? (i := 4) rfl))) (mvT hZ (hw _ (List.mem_of_getElem? (i := 5) rfl))) (mvT hZ (hw _ (List.mem_of_getElem? (i := 6) rfl))) (by decide) (backOf (W := 0) (rm1 l Z a0 hw [] ua v239 n u h0 n0 Z0 Au hl hn0 hn8) hZ (hw _ (List.mem_of_getElem? (i := 6) rfl)) (hw _ (List.mem_of_getElem? (i := 5) rfl)) (by decide) (by decide)) (g := (mkF m 246 #[.val (.int p0), .val (.int p1), .val (.int p2), .val (.int n), .val (.ref ua), .val (.ref bb), .val (.int v239), .unset] [(.int n), (.int v239), (.ref ua)])) rfl (by rw [hml]; rfl) (argsL := [(.ref ua), (.int v239), (.int n)]) (rest := []) (lenOf pd0 rfl) rfl (by show 2 * 0 + _ ≤ _; exact Nat.le_of_eq rfl) (hb hby at_246) (fun _ _ => ⟨rfl, hh1, (by decide : 2 + 0 ≤ _), (by decide : 16 + 0 ≤ _)⟩)
  dsimp only [Pt.U, Pt.locs, Pt.cells, Pt.slots] at X2 l2 y2 z2 st2 hQ2
  subst l2 y2 z2
  obtain ⟨rfl, Nq2, hh2⟩ := hQ2
  have N2 := Fr.app N1 Nq2
  refine Goes.go (st2) ?_
  show Goes _ _ _ _ _ _ _ (T2.setTop (mkF m 249 _ [(.int (stF u n v239))]))
  generalize hv249 : (stF u n v239) = v249
  refine Goes.go (fun _ kk => XS.istore X2.here hx rfl (hb hby at_249) rfl (l' := #[.val (.int p0), .val (.int p1), .val (.int p2), .val (.int n), .val (.ref ua), .val (.ref bb), .val (.int v249), .unset]) rfl kk) ?_
  show Goes _ _ _ _ _ _ _ (T2.setTop (mkF m 251 #[.val (.int p0), .val (.int p1), .val (.int p2), .val (.int n), .val (.ref ua), .val (.ref bb), .val (.int v249), .unset] []))
  refine Goes.go (fun _ kk => XS.aload X2.here hx rfl (hb hby at_251) rfl rfl kk) ?_
  show Goes _ _ _ _ _ _ _ (T2.setTop (mkF m 253 _ [(.ref ua)]))
  refine Goes.go (fun _ kk => XS.iload X2.here hx rfl (hb hby at_253) rfl kk) ?_
  show Goes _ _ _ _ _ _ _ (T2.setTop (mkF m 255 _ [(.int v249), (.ref ua)]))
  refine Goes.go (fun _ kk => XS.iloadN X2.here hx rfl (hb hby at_255) rfl kk) ?_
  show Goes _ _ _ _ _ _ _ (T2.setTop (mkF m 256 _ [(.int n), (.int v249), (.ref ua)]))
  obtain ⟨_, _, ⟨T3, L3, k3, n3⟩, -, X3, ⟨Lc3, hQ3, l3, y3, z3⟩, st3⟩ := Jvm.LawKit.callS X2 hx (y := (⟨"com/example/wide_schema/wideschema/model/NativeTypeIsUtf8PinLaw", "step", "([III)I"⟩ : MethodName)) hown (mvT hZ (hw _ (List.mem_of_getElem? (i := 3) rfl))) (mvT hZ (hw _ (List.mem_of_getElem? (i := 4) rfl))) (mvT hZ (hw _ (List.mem_of_getElem? (i := 5) rfl))) (mvT hZ (hw _ (List.mem_of_getElem? (i := 6) rfl))) (by decide) (backOf (W := 0) (rm1 l Z a0 hw [] ua v249 n u h0 n0 Z0 Au hl hn0 hn8) hZ (hw _ (List.mem_of_getElem? (i := 6) rfl)) (hw _ (List.mem_of_getElem? (i := 5) rfl)) (by decide) (by decide)) (g := (mkF m 256 #[.val (.int p0), .val (.int p1), .val (.int p2), .val (.int n), .val (.ref ua), .val (.ref bb), .val (.int v249), .unset] [(.int n), (.int v249), (.ref ua)])) rfl (by rw [hml]; rfl) (argsL := [(.ref ua), (.int v249), (.int n)]) (rest := []) (lenOf pd0 rfl) rfl (by show 2 * 0 + _ ≤ _; exact Nat.le_of_eq rfl) (hb hby at_256) (fun _ _ => ⟨rfl, hh2, (by decide : 2 + 0 ≤ _), (by decide : 16 + 0 ≤ _)⟩)
  dsimp only [Pt.U, Pt.locs, Pt.cells, Pt.slots] at X3 l3 y3 z3 st3 hQ3
  subst l3 y3 z3
  obtain ⟨rfl, Nq3, hh3⟩ := hQ3
  have N3 := Fr.app N2 Nq3
  refine Goes.go (st3) ?_
  show Goes _ _ _ _ _ _ _ (T3.setTop (mkF m 259 _ [(.int (stF u n v249))]))
  generalize hv259 : (stF u n v249) = v259
  refine Goes.go (fun _ kk => XS.istore X3.here hx rfl (hb hby at_259) rfl (l' := #[.val (.int p0), .val (.int p1), .val (.int p2), .val (.int n), .val (.ref ua), .val (.ref bb), .val (.int v259), .unset]) rfl kk) ?_
  show Goes _ _ _ _ _ _ _ (T3.setTop (mkF m 261 #[.val (.int p0), .val (.int p1), .val (.int p2), .val (.int n), .val (.ref ua), .val (.ref bb), .val (.int v259), .unset] []))
  refine Goes.go (fun _ kk => XS.aload X3.here hx rfl (hb hby at_261) rfl rfl kk) ?_
  show Goes _ _ _ _ _ _ _ (T3.setTop (mkF m 263 _ [(.ref ua)]))
  refine Goes.go (fun _ kk => XS.iload X3.here hx rfl (hb hby at_263) rfl kk) ?_
  show Goes _ _ _ _ _ _ _ (T3.setTop (mkF m 265 _ [(.int v259), (.ref ua)]))
  refine Goes.go (fun _ kk => XS.iloadN X3.here hx rfl (hb hby at_265) rfl kk) ?_
  show Goes _ _ _ _ _ _ _ (T3.setTop (mkF m 266 _ [(.int n), (.int v259), (.ref ua)]))
  obtain ⟨_, _, ⟨T4, L4, k4, n4⟩, -, X4, ⟨Lc4, hQ4, l4, y4, z4⟩, st4⟩ := Jvm.LawKit.callS X3 hx (y := (⟨"com/example/wide_schema/wideschema/model/NativeTypeIsUtf8PinLaw", "step", "([III)I"⟩ : MethodName)) hown (mvT hZ (hw _ (List.mem_of_getElem? (i := 3) rfl))) (mvT hZ (hw _ (List.mem_of_getElem? (i := 4) rfl))) (mvT hZ (hw _ (List.mem_of_getElem? (i := 5) rfl))) (mvT hZ (hw _ (List.mem_of_getElem? (i := 6) rfl))) (by decide) (backOf (W := 0) (rm1 l Z a0 hw [] ua v259 n u h0 n0 Z0 Au hl hn0 hn8) hZ (hw _ (List.mem_of_getElem? (i := 6) rfl)) (hw _ (List.mem_of_getElem? (i := 5) rfl)) (by decide) (by decide)) (g := (mkF m 266 #[.val (.int p0), .val (.int p1), .val (.int p2), .val (.int n), .val (.ref ua), .val (.ref bb), .val (.int v259), .unset] [(.int n), (.int v259), (.ref ua)])) rfl (by rw [hml]; rfl) (argsL := [(.ref ua), (.int v259), (.int n)]) (rest := []) (lenOf pd0 rfl) rfl (by show 2 * 0 + _ ≤ _; exact Nat.le_of_eq rfl) (hb hby at_266) (fun _ _ => ⟨rfl, hh3, (by decide : 2 + 0 ≤ _), (by decide : 16 + 0 ≤ _)⟩)
  dsimp only [Pt.U, Pt.locs, Pt.cells, Pt.slots] at X4 l4 y4 z4 st4 hQ4
  subst l4 y4 z4
  obtain ⟨rfl, Nq4, hh4⟩ := hQ4
  have N4 := Fr.app N3 Nq4
  refine Goes.go (st4) ?_
  show Goes _ _ _ _ _ _ _ (T4.setTop (mkF m 269 _ [(.int (stF u n v259))]))
  generalize hv269 : (stF u n v259) = v269
  refine Goes.go (fun _ kk => XS.istore X4.here hx rfl (hb hby at_269) rfl (l' := #[.val (.int p0), .val (.int p1), .val (.int p2), .val (.int n), .val (.ref ua), .val (.ref bb), .val (.int v269), .unset]) rfl kk) ?_
  show Goes _ _ _ _ _ _ _ (T4.setTop (mkF m 271 #[.val (.int p0), .val (.int p1), .val (.int p2), .val (.int n), .val (.ref ua), .val (.ref bb), .val (.int v269), .unset] []))
  refine Goes.go (fun _ kk => XS.aload X4.here hx rfl (hb hby at_271) rfl rfl kk) ?_
  show Goes _ _ _ _ _ _ _ (T4.setTop (mkF m 273 _ [(.ref ua)]))
  refine Goes.go (fun _ kk => XS.iload X4.here hx rfl (hb hby at_273) rfl kk) ?_
  show Goes _ _ _ _ _ _ _ (T4.setTop (mkF m 275 _ [(.int v269), (.ref ua)]))
  refine Goes.go (fun _ kk => XS.iloadN X4.here hx rfl (hb hby at_275) rfl kk) ?_
  show Goes _ _ _ _ _ _ _ (T4.setTop (mkF m 276 _ [(.int n), (.int v269), (.ref ua)]))
  obtain ⟨_, _, ⟨T5, L5, k5, n5⟩, -, X5, ⟨Lc5, hQ5, l5, y5, z5⟩, st5⟩ := Jvm.LawKit.callS X4 hx (y := (⟨"com/example/wide_schema/wideschema/model/NativeTypeIsUtf8PinLaw", "step", "([III)I"⟩ : MethodName)) hown (mvT hZ (hw _ (List.mem_of_getElem? (i := 3) rfl))) (mvT hZ (hw _ (List.mem_of_getElem? (i := 4) rfl))) (mvT hZ (hw _ (List.mem_of_getElem? (i := 5) rfl))) (mvT hZ (hw _ (List.mem_of_getElem? (i := 6) rfl))) (by decide) (backOf (W := 0) (rm1 l Z a0 hw [] ua v269 n u h0 n0 Z0 Au hl hn0 hn8) hZ (hw _ (List.mem_of_getElem? (i := 6) rfl)) (hw _ (List.mem_of_getElem? (i := 5) rfl)) (by decide) (by decide)) (g := (mkF m 276 #[.val (.int p0), .val (.int p1), .val (.int p2), .val (.int n), .val (.ref ua), .val (.ref bb), .val (.int v269), .unset] [(.int n), (.int v269), (.ref ua)])) rfl (by rw [hml]; rfl) (argsL := [(.ref ua), (.int v269), (.int n)]) (rest := []) (lenOf pd0 rfl) rfl (by show 2 * 0 + _ ≤ _; exact Nat.le_of_eq rfl) (hb hby at_276) (fun _ _ => ⟨rfl, hh4, (by decide : 2 + 0 ≤ _), (by decide : 16 + 0 ≤ _)⟩)
  dsimp only [Pt.U, Pt.locs, Pt.cells, Pt.slots] at X5 l5 y5 z5 st5 hQ5
  subst l5 y5 z5
  obtain ⟨rfl, Nq5, hh5⟩ := hQ5
  have N5 := Fr.app N4 Nq5
  refine Goes.go (st5) ?_
  show Goes _ _ _ _ _ _ _ (T5.setTop (mkF m 279 _ [(.int (stF u n v269))]))
  generalize hv279 : (stF u n v269) = v279
  refine Goes.go (fun _ kk => XS.istore X5.here hx rfl (hb hby at_279) rfl (l' := #[.val (.int p0), .val (.int p1), .val (.int p2), .val (.int n), .val (.ref ua), .val (.ref bb), .val (.int v279), .unset]) rfl kk) ?_
  show Goes _ _ _ _ _ _ _ (T5.setTop (mkF m 281 #[.val (.int p0), .val (.int p1), .val (.int p2), .val (.int n), .val (.ref ua), .val (.ref bb), .val (.int v279), .unset] []))
  refine Goes.go (fun _ kk => XS.aload X5.here hx rfl (hb hby at_281) rfl rfl kk) ?_
  show Goes _ _ _ _ _ _ _ (T5.setTop (mkF m 283 _ [(.ref ua)]))
  refine Goes.go (fun _ kk => XS.iload X5.here hx rfl (hb hby at_283) rfl kk) ?_
  show Goes _ _ _ _ _ _ _ (T5.setTop (mkF m 285 _ [(.int v279), (.ref ua)]))
  refine Goes.go (fun _ kk => XS.iloadN X5.here hx rfl (hb hby at_285) rfl kk) ?_
  show Goes _ _ _ _ _ _ _ (T5.setTop (mkF m 286 _ [(.int n), (.int v279), (.ref ua)]))
  obtain ⟨_, _, ⟨T6, L6, k6, n6⟩, -, X6, ⟨Lc6, hQ6, l6, y6, z6⟩, st6⟩ := Jvm.LawKit.callS X5 hx (y := (⟨"com/example/wide_schema/wideschema/model/NativeTypeIsUtf8PinLaw", "step", "([III)I"⟩ : MethodName)) hown (mvT hZ (hw _ (List.mem_of_getElem? (i := 3) rfl))) (mvT hZ (hw _ (List.mem_of_getElem? (i := 4) rfl))) (mvT hZ (hw _ (List.mem_of_getElem? (i := 5) rfl))) (mvT hZ (hw _ (List.mem_of_getElem? (i := 6) rfl))) (by decide) (backOf (W := 0) (rm1 l Z a0 hw [] ua v279 n u h0 n0 Z0 Au hl hn0 hn8) hZ (hw _ (List.mem_of_getElem? (i := 6) rfl)) (hw _ (List.mem_of_getElem? (i := 5) rfl)) (by decide) (by decide)) (g := (mkF m 286 #[.val (.int p0), .val (.int p1), .val (.int p2), .val (.int n), .val (.ref ua), .val (.ref bb), .val (.int v279), .unset] [(.int n), (.int v279), (.ref ua)])) rfl (by rw [hml]; rfl) (argsL := [(.ref ua), (.int v279), (.int n)]) (rest := []) (lenOf pd0 rfl) rfl (by show 2 * 0 + _ ≤ _; exact Nat.le_of_eq rfl) (hb hby at_286) (fun _ _ => ⟨rfl, hh5, (by decide : 2 + 0 ≤ _), (by decide : 16 + 0 ≤ _)⟩)
  dsimp only [Pt.U, Pt.locs, Pt.cells, Pt.slots] at X6 l6 y6 z6 st6 hQ6
  subst l6 y6 z6
  obtain ⟨rfl, Nq6, hh6⟩ := hQ6
  have N6 := Fr.app N5 Nq6
  refine Goes.go (st6) ?_
  show Goes _ _ _ _ _ _ _ (T6.setTop (mkF m 289 _ [(.int (stF u n v279))]))
  generalize hv289 : (stF u n v279) = v289
  refine Goes.go (fun _ kk => XS.istore X6.here hx rfl (hb hby at_289) rfl (l' := #[.val (.int p0), .val (.int p1), .val (.int p2), .val (.int n), .val (.ref ua), .val (.ref bb), .val (.int v289), .unset]) rfl kk) ?_
  show Goes _ _ _ _ _ _ _ (T6.setTop (mkF m 291 #[.val (.int p0), .val (.int p1), .val (.int p2), .val (.int n), .val (.ref ua), .val (.ref bb), .val (.int v289), .unset] []))
  refine Goes.go (fun _ kk => XS.aload X6.here hx rfl (hb hby at_291) rfl rfl kk) ?_
  show Goes _ _ _ _ _ _ _ (T6.setTop (mkF m 293 _ [(.ref ua)]))
  refine Goes.go (fun _ kk => XS.iload X6.here hx rfl (hb hby at_293) rfl kk) ?_
  show Goes _ _ _ _ _ _ _ (T6.setTop (mkF m 295 _ [(.int v289), (.ref ua)]))
  refine Goes.go (fun _ kk => XS.iloadN X6.here hx rfl (hb hby at_295) rfl kk) ?_
  show Goes _ _ _ _ _ _ _ (T6.setTop (mkF m 296 _ [(.int n), (.int v289), (.ref ua)]))
  obtain ⟨_, _, ⟨T7, L7, k7, n7⟩, -, X7, ⟨Lc7, hQ7, l7, y7, z7⟩, st7⟩ := Jvm.LawKit.callS X6 hx (y := (⟨"com/example/wide_schema/wideschema/model/NativeTypeIsUtf8PinLaw", "step", "([III)I"⟩ : MethodName)) hown (mvT hZ (hw _ (List.mem_of_getElem? (i := 3) rfl))) (mvT hZ (hw _ (List.mem_of_getElem? (i := 4) rfl))) (mvT hZ (hw _ (List.mem_of_getElem? (i := 5) rfl))) (mvT hZ (hw _ (List.mem_of_getElem? (i := 6) rfl))) (by decide) (backOf (W := 0) (rm1 l Z a0 hw [] ua v289 n u h0 n0 Z0 Au hl hn0 hn8) hZ (hw _ (List.mem_of_getElem? (i := 6) rfl)) (hw _ (List.mem_of_getElem? (i := 5) rfl)) (by decide) (by decide)) (g := (mkF m 296 #[.val (.int p0), .val (.int p1), .val (.int p2), .val (.int n), .val (.ref ua), .val (.ref bb), .val (.int v289), .unset] [(.int n), (.int v289), (.ref ua)])) rfl (by rw [hml]; rfl) (argsL := [(.ref ua), (.int v289), (.int n)]) (rest := []) (lenOf pd0 rfl) rfl (by show 2 * 0 + _ ≤ _; exact Nat.le_of_eq rfl) (hb hby at_296) (fun _ _ => ⟨rfl, hh6, (by decide : 2 + 0 ≤ _), (by decide : 16 + 0 ≤ _)⟩)
  dsimp only [Pt.U, Pt.locs, Pt.cells, Pt.slots] at X7 l7 y7 z7 st7 hQ7
  subst l7 y7 z7
  obtain ⟨rfl, Nq7, hh7⟩ := hQ7
  have N7 := Fr.app N6 Nq7
  refine Goes.go (st7) ?_
  show Goes _ _ _ _ _ _ _ (T7.setTop (mkF m 299 _ [(.int (stF u n v289))]))
  generalize hv299 : (stF u n v289) = v299
  refine Goes.go (fun _ kk => XS.istore X7.here hx rfl (hb hby at_299) rfl (l' := #[.val (.int p0), .val (.int p1), .val (.int p2), .val (.int n), .val (.ref ua), .val (.ref bb), .val (.int v299), .unset]) rfl kk) ?_
  show Goes _ _ _ _ _ _ _ (T7.setTop (mkF m 301 #[.val (.int p0), .val (.int p1), .val (.int p2), .val (.int n), .val (.ref ua), .val (.ref bb), .val (.int v299), .unset] []))
  refine Goes.go (fun _ kk => XS.aload X7.here hx rfl (hb hby at_301) rfl rfl kk) ?_
  show Goes _ _ _ _ _ _ _ (T7.setTop (mkF m 303 _ [(.ref ua)]))
  refine Goes.go (fun _ kk => XS.iload X7.here hx rfl (hb hby at_303) rfl kk) ?_
  show Goes _ _ _ _ _ _ _ (T7.setTop (mkF m 305 _ [(.int v299), (.ref ua)]))
  refine Goes.go (fun _ kk => XS.iloadN X7.here hx rfl (hb hby at_305) rfl kk) ?_
  show Goes _ _ _ _ _ _ _ (T7.setTop (mkF m 306 _ [(.int n), (.int v299), (.ref ua)]))
  obtain ⟨_, _, ⟨T8, L8, k8, n8⟩, -, X8, ⟨Lc8, hQ8, l8, y8, z8⟩, st8⟩ := Jvm.LawKit.callS X7 hx (y := (⟨"com/example/wide_schema/wideschema/model/NativeTypeIsUtf8PinLaw", "step", "([III)I"⟩ : MethodName)) hown (mvT hZ (hw _ (List.mem_of_getElem? (i := 3) rfl))) (mvT hZ (hw _ (List.mem_of_getElem? (i := 4) rfl))) (mvT hZ (hw _ (List.mem_of_getElem? (i := 5) rfl))) (mvT hZ (hw _ (List.mem_of_getElem? (i := 6) rfl))) (by decide) (backOf (W := 0) (rm1 l Z a0 hw [] ua v299 n u h0 n0 Z0 Au hl hn0 hn8) hZ (hw _ (List.mem_of_getElem? (i := 6) rfl)) (hw _ (List.mem_of_getElem? (i := 5) rfl)) (by decide) (by decide)) (g := (mkF m 306 #[.val (.int p0), .val (.int p1), .val (.int p2), .val (.int n), .val (.ref ua), .val (.ref bb), .val (.int v299), .unset] [(.int n), (.int v299), (.ref ua)])) rfl (by rw [hml]; rfl) (argsL := [(.ref ua), (.int v299), (.int n)]) (rest := []) (lenOf pd0 rfl) rfl (by show 2 * 0 + _ ≤ _; exact Nat.le_of_eq rfl) (hb hby at_306) (fun _ _ => ⟨rfl, hh7, (by decide : 2 + 0 ≤ _), (by decide : 16 + 0 ≤ _)⟩)
  dsimp only [Pt.U, Pt.locs, Pt.cells, Pt.slots] at X8 l8 y8 z8 st8 hQ8
  subst l8 y8 z8
  obtain ⟨rfl, Nq8, hh8⟩ := hQ8
  have N8 := Fr.app N7 Nq8
  refine Goes.go (st8) ?_
  show Goes _ _ _ _ _ _ _ (T8.setTop (mkF m 309 _ [(.int (stF u n v299))]))
  generalize hv309 : (stF u n v299) = v309
  refine Goes.go (fun _ kk => XS.istore X8.here hx rfl (hb hby at_309) rfl (l' := #[.val (.int p0), .val (.int p1), .val (.int p2), .val (.int n), .val (.ref ua), .val (.ref bb), .val (.int v309), .unset]) rfl kk) ?_
  show Goes _ _ _ _ _ _ _ (T8.setTop (mkF m 311 #[.val (.int p0), .val (.int p1), .val (.int p2), .val (.int n), .val (.ref ua), .val (.ref bb), .val (.int v309), .unset] []))
  refine Goes.go (fun _ kk => XS.iload X8.here hx rfl (hb hby at_311) rfl kk) ?_
  show Goes _ _ _ _ _ _ _ (T8.setTop (mkF m 313 _ [(.int v309)]))
  refine Goes.go (fun _ kk => XS.iloadN X8.here hx rfl (hb hby at_313) rfl kk) ?_
  show Goes _ _ _ _ _ _ _ (T8.setTop (mkF m 314 _ [(.int n), (.int v309)]))
  by_cases c314 : v309 = n
  · skip
    refine Goes.go (fun _ kk => XS.icmpNo X8.here hx rfl (hb hby at_314) rfl (XT.ii_ne_f c314) kk) ?_
    show Goes _ _ _ _ _ _ _ (T8.setTop (mkF m 317 _ []))
    refine Goes.go (fun _ kk => XS.iconst X8.here hx rfl (hb hby at_317) kk) ?_
    show Goes _ _ _ _ _ _ _ (T8.setTop (mkF m 318 _ [(.int (1 : Int32))]))
    refine Goes.go (fun _ kk => XS.goto X8.here hx rfl (pc0 := 318) (pc' := 322) rfl (hb hby at_318) (by decide) (by decide) kk) ?_
    show Goes _ _ _ _ _ _ _ (T8.setTop (mkF m 322 _ [(.int (1 : Int32))]))
    refine Goes.go (fun _ kk => XS.istore X8.here hx rfl (hb hby at_322) rfl (l' := #[.val (.int p0), .val (.int p1), .val (.int p2), .val (.int n), .val (.ref ua), .val (.ref bb), .val (.int v309), .val (.int (1 : Int32))]) rfl kk) ?_
    show Goes _ _ _ _ _ _ _ (T8.setTop (mkF m 324 #[.val (.int p0), .val (.int p1), .val (.int p2), .val (.int n), .val (.ref ua), .val (.ref bb), .val (.int v309), .val (.int (1 : Int32))] []))
    refine Goes.go (fun _ kk => XS.aload X8.here hx rfl (hb hby at_324) rfl rfl kk) ?_
    show Goes _ _ _ _ _ _ _ (T8.setTop (mkF m 326 _ [(.ref bb)]))
    obtain ⟨_, _, ⟨T9, L9, k9, n9⟩, -, X9, ⟨Lc9, hQ9, l9, y9, z9⟩, st9⟩ := Jvm.LawKit.callS X8 hx (y := (⟨"com/example/wide_schema/wideschema/model/NativeType", "isUtf8", "([B)Z"⟩ : MethodName)) hown (mvT hZ (hw _ (List.mem_of_getElem? (i := 10) rfl))) (mvT hZ (hw _ (List.mem_of_getElem? (i := 11) rfl))) (mvT hZ (hw _ (List.mem_of_getElem? (i := 12) rfl))) (mvT hZ (hw _ (List.mem_of_getElem? (i := 13) rfl))) (by decide) (backOf (W := 0) (rm3 l Z a0 hw [] bb n N u h0 n0 Z0 Ab hl hnN hN8 hB hln) hZ (hw _ (List.mem_of_getElem? (i := 13) rfl)) (hw _ (List.mem_of_getElem? (i := 12) rfl)) (by decide) (by decide)) (g := (mkF m 326 #[.val (.int p0), .val (.int p1), .val (.int p2), .val (.int n), .val (.ref ua), .val (.ref bb), .val (.int v309), .val (.int (1 : Int32))] [(.ref bb)])) rfl (by rw [hml]; rfl) (argsL := [(.ref bb)]) (rest := []) (lenOf pd1 rfl) rfl (by show 2 * 0 + _ ≤ _; exact Nat.le_of_eq rfl) (hb hby at_326) (fun _ _ => ⟨rfl, hh8, (by decide : 2 + 0 ≤ _), (by decide : 16 + 0 ≤ _)⟩)
    dsimp only [Pt.U, Pt.locs, Pt.cells, Pt.slots] at X9 l9 y9 z9 st9 hQ9
    subst l9 y9 z9
    obtain ⟨rfl, Nq9, hh9⟩ := hQ9
    have N9 := Fr.app N8 Nq9
    refine Goes.go (st9) ?_
    show Goes _ _ _ _ _ _ _ (T9.setTop (mkF m 329 _ [(.int (UF u n 8 0))]))
    refine Goes.go (fun _ kk => XS.iload X9.here hx rfl (hb hby at_329) rfl kk) ?_
    show Goes _ _ _ _ _ _ _ (T9.setTop (mkF m 331 _ [(.int (1 : Int32)), (.int (UF u n 8 0))]))
    have hr : it u n 8 0 = v309 := by
      show stF u n (stF u n (stF u n (stF u n (stF u n (stF u n (stF u n (stF u n 0))))))) = v309
      rw [hv239, hv249, hv259, hv269, hv279, hv289, hv299, hv309]
    refine Goes.go (fun _ kk => XS.icmpNo X9.here hx rfl (hb hby at_331) rfl (XT.ii_ne_f (own_true hB hn8 hn0 hr c314)) kk) ?_
    show Goes _ _ _ _ _ _ _ (T9.setTop (mkF m 334 _ []))
    refine Goes.go (fun _ kk => XS.iconst X9.here hx rfl (hb hby at_334) kk) ?_
    show Goes _ _ _ _ _ _ _ (T9.setTop (mkF m 335 _ [(.int (1 : Int32))]))
    refine Goes.go (fun _ kk => XS.goto X9.here hx rfl (pc0 := 335) (pc' := 339) rfl (hb hby at_335) (by decide) (by decide) kk) ?_
    show Goes _ _ _ _ _ _ _ (T9.setTop (mkF m 339 _ [(.int (1 : Int32))]))
    exact Goes.outZ X9 hx hlk hret rfl (hb hby at_339) hh9 (hQ _ _ N9) (by decide) (by decide)
  · skip
    refine Goes.go (fun _ kk => XS.icmpYes X8.here hx rfl (pc0 := 314) (pc' := 321) rfl (hb hby at_314) rfl (XT.ii_ne_t c314) (by decide) (by decide) kk) ?_
    show Goes _ _ _ _ _ _ _ (T8.setTop (mkF m 321 _ []))
    refine Goes.go (fun _ kk => XS.iconst X8.here hx rfl (hb hby at_321) kk) ?_
    show Goes _ _ _ _ _ _ _ (T8.setTop (mkF m 322 _ [(.int (0 : Int32))]))
    refine Goes.go (fun _ kk => XS.istore X8.here hx rfl (hb hby at_322) rfl (l' := #[.val (.int p0), .val (.int p1), .val (.int p2), .val (.int n), .val (.ref ua), .val (.ref bb), .val (.int v309), .val (.int (0 : Int32))]) rfl kk) ?_
    show Goes _ _ _ _ _ _ _ (T8.setTop (mkF m 324 #[.val (.int p0), .val (.int p1), .val (.int p2), .val (.int n), .val (.ref ua), .val (.ref bb), .val (.int v309), .val (.int (0 : Int32))] []))
    refine Goes.go (fun _ kk => XS.aload X8.here hx rfl (hb hby at_324) rfl rfl kk) ?_
    show Goes _ _ _ _ _ _ _ (T8.setTop (mkF m 326 _ [(.ref bb)]))
    obtain ⟨_, _, ⟨T9, L9, k9, n9⟩, -, X9, ⟨Lc9, hQ9, l9, y9, z9⟩, st9⟩ := Jvm.LawKit.callS X8 hx (y := (⟨"com/example/wide_schema/wideschema/model/NativeType", "isUtf8", "([B)Z"⟩ : MethodName)) hown (mvT hZ (hw _ (List.mem_of_getElem? (i := 10) rfl))) (mvT hZ (hw _ (List.mem_of_getElem? (i := 11) rfl))) (mvT hZ (hw _ (List.mem_of_getElem? (i := 12) rfl))) (mvT hZ (hw _ (List.mem_of_getElem? (i := 13) rfl))) (by decide) (backOf (W := 0) (rm3 l Z a0 hw [] bb n N u h0 n0 Z0 Ab hl hnN hN8 hB hln) hZ (hw _ (List.mem_of_getElem? (i := 13) rfl)) (hw _ (List.mem_of_getElem? (i := 12) rfl)) (by decide) (by decide)) (g := (mkF m 326 #[.val (.int p0), .val (.int p1), .val (.int p2), .val (.int n), .val (.ref ua), .val (.ref bb), .val (.int v309), .val (.int (0 : Int32))] [(.ref bb)])) rfl (by rw [hml]; rfl) (argsL := [(.ref bb)]) (rest := []) (lenOf pd1 rfl) rfl (by show 2 * 0 + _ ≤ _; exact Nat.le_of_eq rfl) (hb hby at_326) (fun _ _ => ⟨rfl, hh8, (by decide : 2 + 0 ≤ _), (by decide : 16 + 0 ≤ _)⟩)
    dsimp only [Pt.U, Pt.locs, Pt.cells, Pt.slots] at X9 l9 y9 z9 st9 hQ9
    subst l9 y9 z9
    obtain ⟨rfl, Nq9, hh9⟩ := hQ9
    have N9 := Fr.app N8 Nq9
    refine Goes.go (st9) ?_
    show Goes _ _ _ _ _ _ _ (T9.setTop (mkF m 329 _ [(.int (UF u n 8 0))]))
    refine Goes.go (fun _ kk => XS.iload X9.here hx rfl (hb hby at_329) rfl kk) ?_
    show Goes _ _ _ _ _ _ _ (T9.setTop (mkF m 331 _ [(.int (0 : Int32)), (.int (UF u n 8 0))]))
    have hr : it u n 8 0 = v309 := by
      show stF u n (stF u n (stF u n (stF u n (stF u n (stF u n (stF u n (stF u n 0))))))) = v309
      rw [hv239, hv249, hv259, hv269, hv279, hv289, hv299, hv309]
    refine Goes.go (fun _ kk => XS.icmpNo X9.here hx rfl (hb hby at_331) rfl (XT.ii_ne_f (own_false hB hn8 hn0 hr c314)) kk) ?_
    show Goes _ _ _ _ _ _ _ (T9.setTop (mkF m 334 _ []))
    refine Goes.go (fun _ kk => XS.iconst X9.here hx rfl (hb hby at_334) kk) ?_
    show Goes _ _ _ _ _ _ _ (T9.setTop (mkF m 335 _ [(.int (1 : Int32))]))
    refine Goes.go (fun _ kk => XS.goto X9.here hx rfl (pc0 := 335) (pc' := 339) rfl (hb hby at_335) (by decide) (by decide) kk) ?_
    show Goes _ _ _ _ _ _ _ (T9.setTop (mkF m 339 _ [(.int (1 : Int32))]))
    exact Goes.outZ X9 hx hlk hret rfl (hb hby at_339) hh9 (hQ _ _ N9) (by decide) (by decide)
theorem ef_rm0 (m : MethodId) (p0 : Int32) (p1 : Int32) (p2 : Int32) : entryFrame m #[(.int p0), (.int p1), (.int p2)] maxLocals = mkF m 0 #[.val (.int p0), .val (.int p1), .val (.int p2), .unset, .unset, .unset, .unset, .unset] [] := by first | (simp [entryFrame, mkF, argsToLocals, Value.category, maxLocals]; done) | rfl
def Q_rm0 (Z : State) (p0 : Int32) (p1 : Int32) (p2 : Int32) (h0 : Heap) (n0 : Nat) (v : Option Value) (h : Heap) (L : List Loc) : Prop := v = some (.int 1) ∧ Fr n0 L
set_option maxRecDepth 65536 in
set_option maxHeartbeats 40000000 in
theorem rm0 (l : Launch) (Z : State) (a0 : Array Value) (hw : ∀ d ∈ tables_1, d.before a0 Z = true) (ws : List Jvm.Cond) (p0 : Int32) (p1 : Int32) (p2 : Int32) (h0 : Heap) (n0 : Nat) (Z0 : n0 ≤ h0.size)  :
    MetFree l x (head1 (Jvm.Cond.code x code maxLocals ret :: ws) room_1) (fun aa U => aa = #[(.int p0), (.int p1), (.int p2)] ∧ Z.Warmed39 U.vm ∧ U.heap = h0) (fun _ _ _ _ _ => True) (fun _ U oo U' => ∃ v L, oo = .returned v ∧ Q_rm0 Z p0 p1 p2 h0 n0 v U'.heap L ∧ FrameEnd U oo U' L room_1.cells room_1.slots) := by
  refine MetFree.of_bodySF (plainFor_of_name pn0) hisR ?_
  intro p e s m args below meth c s₁ Bd hml0 hP hK
  obtain ⟨rfl, hZ, hh⟩ := hP
  have hx := Bd.exec
  have hby := Bd.bytes
  have hml : c.maxLocals = 8 := hml0
  have hown : s.vm.findClass "com/example/wide_schema/wideschema/model/NativeTypeIsUtf8PinLaw" = some m.cls := findClass_of_methodNamed Bd.named
  have hnm := (name_of_methodNamed Bd.named Bd.method).1
  have hlk : meth.locks = false := Bd.notSynchronized
  have hret := Bd.returns
  have X0 : Stand p l e room_1 s m #[(.int p0), (.int p1), (.int p2)] below meth c s₁ [] 0 0 := Stand.of_body Bd
  have e0 : s₁.heap = h0 := by rw [← hh, Bd.state]; rfl
  have N0 := Fr.nil n0
  have K0 : Keep h0 h0 [] := Keep.refl _ _
  show Goes p e below s (Q_rm0 Z p0 p1 p2 h0 n0) room_1.cells room_1.slots _
  refine Goes.go (fun t k => castTop (ef_rm0 m p0 p1 p2) k) ?_
  show Goes _ _ _ _ _ _ _ (s₁.setTop (mkF m 0 #[.val (.int p0), .val (.int p1), .val (.int p2), .unset, .unset, .unset, .unset, .unset] []))
  refine Goes.go (fun _ kk => XS.iloadN X0.here hx rfl (hb hby at_0) rfl kk) ?_
  show Goes _ _ _ _ _ _ _ (s₁.setTop (mkF m 1 _ [(.int p2)]))
  refine Goes.go (fun _ kk => X0.ldcI hx (v := (2147483647 : Int32)) hown (mvT hZ (hw _ (List.mem_of_getElem? (i := 0) rfl))) rfl (hb hby at_1) kk) ?_
  show Goes _ _ _ _ _ _ _ (s₁.setTop (mkF m 3 _ [(.int (2147483647 : Int32)), (.int p2)]))
  refine Goes.go (fun _ kk => XS.iand X0.here hx rfl (hb hby at_3) rfl kk) ?_
  show Goes _ _ _ _ _ _ _ (s₁.setTop (mkF m 4 _ [(.int (p2 &&& (2147483647 : Int32)))]))
  refine Goes.go (fun _ kk => XS.bipush X0.here hx rfl (hb hby at_4) kk) ?_
  show Goes _ _ _ _ _ _ _ (s₁.setTop (mkF m 6 _ [(.int (9 : Int32)), (.int (p2 &&& (2147483647 : Int32)))]))
  refine Goes.go (fun _ kk => iremM X0 hx rfl (hb hby at_6) rfl (by decide) kk) ?_
  show Goes _ _ _ _ _ _ _ (s₁.setTop (mkF m 7 _ [(.int ((p2 &&& (2147483647 : Int32)) % (9 : Int32)))]))
  generalize hv7 : ((p2 &&& (2147483647 : Int32)) % (9 : Int32)) = v7
  refine Goes.go (fun _ kk => XS.istoreN X0.here hx rfl (hb hby at_7) rfl (l' := #[.val (.int p0), .val (.int p1), .val (.int p2), .val (.int v7), .unset, .unset, .unset, .unset]) rfl kk) ?_
  show Goes _ _ _ _ _ _ _ (s₁.setTop (mkF m 8 #[.val (.int p0), .val (.int p1), .val (.int p2), .val (.int v7), .unset, .unset, .unset, .unset] []))
  refine Goes.go (fun _ kk => XS.bipush X0.here hx rfl (hb hby at_8) kk) ?_
  show Goes _ _ _ _ _ _ _ (s₁.setTop (mkF m 10 _ [(.int (8 : Int32))]))
  obtain ⟨T1, h1, X1, e1, E1, A1, st1⟩ := own_newP X0 hx hZ (aty := .int) (hw _ (List.mem_of_getElem? (i := 1) rfl)) e0 (g := (mkF m 10 #[.val (.int p0), .val (.int p1), .val (.int p2), .val (.int v7), .unset, .unset, .unset, .unset] [(.int (8 : Int32))])) rfl (hb hby at_10) rfl (n := (8 : Int32)) (by decide) (cap := 8) (by decide) (by decide) (by decide) (by decide)
  obtain ⟨ar10, gar10⟩ : ∃ z, z = h0.size := ⟨_, rfl⟩
  rw [← gar10] at A1 st1
  have Z1 : n0 ≤ h1.size := Nat.le_trans Z0 E1.1
  have ge_ar10 : n0 ≤ ar10 := Nat.le_trans Z0 (Nat.le_of_eq gar10.symm)
  have f : Arl Z h1 ar10 .int [(.int (0 : Int32)), (.int (0 : Int32)), (.int (0 : Int32)), (.int (0 : Int32)), (.int (0 : Int32)), (.int (0 : Int32)), (.int (0 : Int32)), (.int (0 : Int32))] := A1
  refine Goes.go (st1) ?_
  show Goes _ _ _ _ _ _ _ (T1.setTop (mkF m 12 _ [(.ref ar10)]))
  refine Goes.go (fun _ kk => XS.astore X1.here hx rfl (hb hby at_12) rfl rfl (l' := #[.val (.int p0), .val (.int p1), .val (.int p2), .val (.int v7), .val (.ref ar10), .unset, .unset, .unset]) rfl kk) ?_
  show Goes _ _ _ _ _ _ _ (T1.setTop (mkF m 14 #[.val (.int p0), .val (.int p1), .val (.int p2), .val (.int v7), .val (.ref ar10), .unset, .unset, .unset] []))
  refine Goes.go (fun _ kk => XS.aload X1.here hx rfl (hb hby at_14) rfl rfl kk) ?_
  show Goes _ _ _ _ _ _ _ (T1.setTop (mkF m 16 _ [(.ref ar10)]))
  refine Goes.go (fun _ kk => XS.iconst X1.here hx rfl (hb hby at_16) kk) ?_
  show Goes _ _ _ _ _ _ _ (T1.setTop (mkF m 17 _ [(.int (0 : Int32)), (.ref ar10)]))
  refine Goes.go (fun _ kk => XS.iloadN X1.here hx rfl (hb hby at_17) rfl kk) ?_
  show Goes _ _ _ _ _ _ _ (T1.setTop (mkF m 18 _ [(.int p0), (.int (0 : Int32)), (.ref ar10)]))
  refine Goes.go (fun _ kk => XS.sipush X1.here hx rfl (hb hby at_18) kk) ?_
  show Goes _ _ _ _ _ _ _ (T1.setTop (mkF m 21 _ [(.int (255 : Int32)), (.int p0), (.int (0 : Int32)), (.ref ar10)]))
  refine Goes.go (fun _ kk => XS.iand X1.here hx rfl (hb hby at_21) rfl kk) ?_
  show Goes _ _ _ _ _ _ _ (T1.setTop (mkF m 22 _ [(.int (p0 &&& (255 : Int32))), (.int (0 : Int32)), (.ref ar10)]))
  obtain ⟨T2, h2, X2, e2, W2, A2, st2⟩ := own_stI X1 hx hZ e1 f (j := (0 : Int32)) (x := (p0 &&& (255 : Int32))) (by decide) (show (0 : Nat) < 8 by decide) (g := (mkF m 22 #[.val (.int p0), .val (.int p1), .val (.int p2), .val (.int v7), .val (.ref ar10), .unset, .unset, .unset] [(.int (p0 &&& (255 : Int32))), (.int (0 : Int32)), (.ref ar10)])) rfl rfl (hb hby at_22)
  have N2 := Fr.snoc X2 N0 ge_ar10
  have Z2 : n0 ≤ h2.size := by rw [W2.size]; exact Z1
  have f_1 : Arl Z h2 ar10 .int [(.int (p0 &&& (255 : Int32))), (.int (0 : Int32)), (.int (0 : Int32)), (.int (0 : Int32)), (.int (0 : Int32)), (.int (0 : Int32)), (.int (0 : Int32)), (.int (0 : Int32))] := A2
  refine Goes.go (st2) ?_
  show Goes _ _ _ _ _ _ _ (T2.setTop (mkF m 23 _ []))
  refine Goes.go (fun _ kk => XS.aload X2.here hx rfl (hb hby at_23) rfl rfl kk) ?_
  show Goes _ _ _ _ _ _ _ (T2.setTop (mkF m 25 _ [(.ref ar10)]))
  refine Goes.go (fun _ kk => XS.iconst X2.here hx rfl (hb hby at_25) kk) ?_
  show Goes _ _ _ _ _ _ _ (T2.setTop (mkF m 26 _ [(.int (1 : Int32)), (.ref ar10)]))
  refine Goes.go (fun _ kk => XS.iloadN X2.here hx rfl (hb hby at_26) rfl kk) ?_
  show Goes _ _ _ _ _ _ _ (T2.setTop (mkF m 27 _ [(.int p0), (.int (1 : Int32)), (.ref ar10)]))
  refine Goes.go (fun _ kk => XS.bipush X2.here hx rfl (hb hby at_27) kk) ?_
  show Goes _ _ _ _ _ _ _ (T2.setTop (mkF m 29 _ [(.int (8 : Int32)), (.int p0), (.int (1 : Int32)), (.ref ar10)]))
  refine Goes.go (fun _ kk => XS.iushr X2.here hx rfl (hb hby at_29) rfl kk) ?_
  show Goes _ _ _ _ _ _ _ (T2.setTop (mkF m 30 _ [(.int ((p0).toUInt32 >>> ((8 : Int32) &&& 31).toUInt32).toInt32), (.int (1 : Int32)), (.ref ar10)]))
  refine Goes.go (fun _ kk => XS.sipush X2.here hx rfl (hb hby at_30) kk) ?_
  show Goes _ _ _ _ _ _ _ (T2.setTop (mkF m 33 _ [(.int (255 : Int32)), (.int ((p0).toUInt32 >>> ((8 : Int32) &&& 31).toUInt32).toInt32), (.int (1 : Int32)), (.ref ar10)]))
  refine Goes.go (fun _ kk => XS.iand X2.here hx rfl (hb hby at_33) rfl kk) ?_
  show Goes _ _ _ _ _ _ _ (T2.setTop (mkF m 34 _ [(.int (((p0).toUInt32 >>> ((8 : Int32) &&& 31).toUInt32).toInt32 &&& (255 : Int32))), (.int (1 : Int32)), (.ref ar10)]))
  obtain ⟨T3, h3, X3, e3, W3, A3, st3⟩ := own_stI X2 hx hZ e2 f_1 (j := (1 : Int32)) (x := (((p0).toUInt32 >>> ((8 : Int32) &&& 31).toUInt32).toInt32 &&& (255 : Int32))) (by decide) (show (1 : Nat) < 8 by decide) (g := (mkF m 34 #[.val (.int p0), .val (.int p1), .val (.int p2), .val (.int v7), .val (.ref ar10), .unset, .unset, .unset] [(.int (((p0).toUInt32 >>> ((8 : Int32) &&& 31).toUInt32).toInt32 &&& (255 : Int32))), (.int (1 : Int32)), (.ref ar10)])) rfl rfl (hb hby at_34)
  have N3 := Fr.snoc X3 N2 ge_ar10
  have Z3 : n0 ≤ h3.size := by rw [W3.size]; exact Z2
  have f_2 : Arl Z h3 ar10 .int [(.int (p0 &&& (255 : Int32))), (.int (((p0).toUInt32 >>> ((8 : Int32) &&& 31).toUInt32).toInt32 &&& (255 : Int32))), (.int (0 : Int32)), (.int (0 : Int32)), (.int (0 : Int32)), (.int (0 : Int32)), (.int (0 : Int32)), (.int (0 : Int32))] := A3
  refine Goes.go (st3) ?_
  show Goes _ _ _ _ _ _ _ (T3.setTop (mkF m 35 _ []))
  refine Goes.go (fun _ kk => XS.aload X3.here hx rfl (hb hby at_35) rfl rfl kk) ?_
  show Goes _ _ _ _ _ _ _ (T3.setTop (mkF m 37 _ [(.ref ar10)]))
  refine Goes.go (fun _ kk => XS.iconst X3.here hx rfl (hb hby at_37) kk) ?_
  show Goes _ _ _ _ _ _ _ (T3.setTop (mkF m 38 _ [(.int (2 : Int32)), (.ref ar10)]))
  refine Goes.go (fun _ kk => XS.iloadN X3.here hx rfl (hb hby at_38) rfl kk) ?_
  show Goes _ _ _ _ _ _ _ (T3.setTop (mkF m 39 _ [(.int p0), (.int (2 : Int32)), (.ref ar10)]))
  refine Goes.go (fun _ kk => XS.bipush X3.here hx rfl (hb hby at_39) kk) ?_
  show Goes _ _ _ _ _ _ _ (T3.setTop (mkF m 41 _ [(.int (16 : Int32)), (.int p0), (.int (2 : Int32)), (.ref ar10)]))
  refine Goes.go (fun _ kk => XS.iushr X3.here hx rfl (hb hby at_41) rfl kk) ?_
  show Goes _ _ _ _ _ _ _ (T3.setTop (mkF m 42 _ [(.int ((p0).toUInt32 >>> ((16 : Int32) &&& 31).toUInt32).toInt32), (.int (2 : Int32)), (.ref ar10)]))
  refine Goes.go (fun _ kk => XS.sipush X3.here hx rfl (hb hby at_42) kk) ?_
  show Goes _ _ _ _ _ _ _ (T3.setTop (mkF m 45 _ [(.int (255 : Int32)), (.int ((p0).toUInt32 >>> ((16 : Int32) &&& 31).toUInt32).toInt32), (.int (2 : Int32)), (.ref ar10)]))
  refine Goes.go (fun _ kk => XS.iand X3.here hx rfl (hb hby at_45) rfl kk) ?_
  show Goes _ _ _ _ _ _ _ (T3.setTop (mkF m 46 _ [(.int (((p0).toUInt32 >>> ((16 : Int32) &&& 31).toUInt32).toInt32 &&& (255 : Int32))), (.int (2 : Int32)), (.ref ar10)]))
  obtain ⟨T4, h4, X4, e4, W4, A4, st4⟩ := own_stI X3 hx hZ e3 f_2 (j := (2 : Int32)) (x := (((p0).toUInt32 >>> ((16 : Int32) &&& 31).toUInt32).toInt32 &&& (255 : Int32))) (by decide) (show (2 : Nat) < 8 by decide) (g := (mkF m 46 #[.val (.int p0), .val (.int p1), .val (.int p2), .val (.int v7), .val (.ref ar10), .unset, .unset, .unset] [(.int (((p0).toUInt32 >>> ((16 : Int32) &&& 31).toUInt32).toInt32 &&& (255 : Int32))), (.int (2 : Int32)), (.ref ar10)])) rfl rfl (hb hby at_46)
  have N4 := Fr.snoc X4 N3 ge_ar10
  have Z4 : n0 ≤ h4.size := by rw [W4.size]; exact Z3
  have f_3 : Arl Z h4 ar10 .int [(.int (p0 &&& (255 : Int32))), (.int (((p0).toUInt32 >>> ((8 : Int32) &&& 31).toUInt32).toInt32 &&& (255 : Int32))), (.int (((p0).toUInt32 >>> ((16 : Int32) &&& 31).toUInt32).toInt32 &&& (255 : Int32))), (.int (0 : Int32)), (.int (0 : Int32)), (.int (0 : Int32)), (.int (0 : Int32)), (.int (0 : Int32))] := A4
  refine Goes.go (st4) ?_
  show Goes _ _ _ _ _ _ _ (T4.setTop (mkF m 47 _ []))
  refine Goes.go (fun _ kk => XS.aload X4.here hx rfl (hb hby at_47) rfl rfl kk) ?_
  show Goes _ _ _ _ _ _ _ (T4.setTop (mkF m 49 _ [(.ref ar10)]))
  refine Goes.go (fun _ kk => XS.iconst X4.here hx rfl (hb hby at_49) kk) ?_
  show Goes _ _ _ _ _ _ _ (T4.setTop (mkF m 50 _ [(.int (3 : Int32)), (.ref ar10)]))
  refine Goes.go (fun _ kk => XS.iloadN X4.here hx rfl (hb hby at_50) rfl kk) ?_
  show Goes _ _ _ _ _ _ _ (T4.setTop (mkF m 51 _ [(.int p0), (.int (3 : Int32)), (.ref ar10)]))
  refine Goes.go (fun _ kk => XS.bipush X4.here hx rfl (hb hby at_51) kk) ?_
  show Goes _ _ _ _ _ _ _ (T4.setTop (mkF m 53 _ [(.int (24 : Int32)), (.int p0), (.int (3 : Int32)), (.ref ar10)]))
  refine Goes.go (fun _ kk => XS.iushr X4.here hx rfl (hb hby at_53) rfl kk) ?_
  show Goes _ _ _ _ _ _ _ (T4.setTop (mkF m 54 _ [(.int ((p0).toUInt32 >>> ((24 : Int32) &&& 31).toUInt32).toInt32), (.int (3 : Int32)), (.ref ar10)]))
  refine Goes.go (fun _ kk => XS.sipush X4.here hx rfl (hb hby at_54) kk) ?_
  show Goes _ _ _ _ _ _ _ (T4.setTop (mkF m 57 _ [(.int (255 : Int32)), (.int ((p0).toUInt32 >>> ((24 : Int32) &&& 31).toUInt32).toInt32), (.int (3 : Int32)), (.ref ar10)]))
  refine Goes.go (fun _ kk => XS.iand X4.here hx rfl (hb hby at_57) rfl kk) ?_
  show Goes _ _ _ _ _ _ _ (T4.setTop (mkF m 58 _ [(.int (((p0).toUInt32 >>> ((24 : Int32) &&& 31).toUInt32).toInt32 &&& (255 : Int32))), (.int (3 : Int32)), (.ref ar10)]))
  obtain ⟨T5, h5, X5, e5, W5, A5, st5⟩ := own_stI X4 hx hZ e4 f_3 (j := (3 : Int32)) (x := (((p0).toUInt32 >>> ((24 : Int32) &&& 31).toUInt32).toInt32 &&& (255 : Int32))) (by decide) (show (3 : Nat) < 8 by decide) (g := (mkF m 58 #[.val (.int p0), .val (.int p1), .val (.int p2), .val (.int v7), .val (.ref ar10), .unset, .unset, .unset] [(.int (((p0).toUInt32 >>> ((24 : Int32) &&& 31).toUInt32).toInt32 &&& (255 : Int32))), (.int (3 : Int32)), (.ref ar10)])) rfl rfl (hb hby at_58)
  have N5 := Fr.snoc X5 N4 ge_ar10
  have Z5 : n0 ≤ h5.size := by rw [W5.size]; exact Z4
  have f_4 : Arl Z h5 ar10 .int [(.int (p0 &&& (255 : Int32))), (.int (((p0).toUInt32 >>> ((8 : Int32) &&& 31).toUInt32).toInt32 &&& (255 : Int32))), (.int (((p0).toUInt32 >>> ((16 : Int32) &&& 31).toUInt32).toInt32 &&& (255 : Int32))), (.int (((p0).toUInt32 >>> ((24 : Int32) &&& 31).toUInt32).toInt32 &&& (255 : Int32))), (.int (0 : Int32)), (.int (0 : Int32)), (.int (0 : Int32)), (.int (0 : Int32))] := A5
  refine Goes.go (st5) ?_
  show Goes _ _ _ _ _ _ _ (T5.setTop (mkF m 59 _ []))
  refine Goes.go (fun _ kk => XS.aload X5.here hx rfl (hb hby at_59) rfl rfl kk) ?_
  show Goes _ _ _ _ _ _ _ (T5.setTop (mkF m 61 _ [(.ref ar10)]))
  refine Goes.go (fun _ kk => XS.iconst X5.here hx rfl (hb hby at_61) kk) ?_
  show Goes _ _ _ _ _ _ _ (T5.setTop (mkF m 62 _ [(.int (4 : Int32)), (.ref ar10)]))
  refine Goes.go (fun _ kk => XS.iloadN X5.here hx rfl (hb hby at_62) rfl kk) ?_
  show Goes _ _ _ _ _ _ _ (T5.setTop (mkF m 63 _ [(.int p1), (.int (4 : Int32)), (.ref ar10)]))
  refine Goes.go (fun _ kk => XS.sipush X5.here hx rfl (hb hby at_63) kk) ?_
  show Goes _ _ _ _ _ _ _ (T5.setTop (mkF m 66 _ [(.int (255 : Int32)), (.int p1), (.int (4 : Int32)), (.ref ar10)]))
  refine Goes.go (fun _ kk => XS.iand X5.here hx rfl (hb hby at_66) rfl kk) ?_
  show Goes _ _ _ _ _ _ _ (T5.setTop (mkF m 67 _ [(.int (p1 &&& (255 : Int32))), (.int (4 : Int32)), (.ref ar10)]))
  obtain ⟨T6, h6, X6, e6, W6, A6, st6⟩ := own_stI X5 hx hZ e5 f_4 (j := (4 : Int32)) (x := (p1 &&& (255 : Int32))) (by decide) (show (4 : Nat) < 8 by decide) (g := (mkF m 67 #[.val (.int p0), .val (.int p1), .val (.int p2), .val (.int v7), .val (.ref ar10), .unset, .unset, .unset] [(.int (p1 &&& (255 : Int32))), (.int (4 : Int32)), (.ref ar10)])) rfl rfl (hb hby at_67)
  have N6 := Fr.snoc X6 N5 ge_ar10
  have Z6 : n0 ≤ h6.size := by rw [W6.size]; exact Z5
  have f_5 : Arl Z h6 ar10 .int [(.int (p0 &&& (255 : Int32))), (.int (((p0).toUInt32 >>> ((8 : Int32) &&& 31).toUInt32).toInt32 &&& (255 : Int32))), (.int (((p0).toUInt32 >>> ((16 : Int32) &&& 31).toUInt32).toInt32 &&& (255 : Int32))), (.int (((p0).toUInt32 >>> ((24 : Int32) &&& 31).toUInt32).toInt32 &&& (255 : Int32))), (.int (p1 &&& (255 : Int32))), (.int (0 : Int32)), (.int (0 : Int32)), (.int (0 : Int32))] := A6
  refine Goes.go (st6) ?_
  show Goes _ _ _ _ _ _ _ (T6.setTop (mkF m 68 _ []))
  refine Goes.go (fun _ kk => XS.aload X6.here hx rfl (hb hby at_68) rfl rfl kk) ?_
  show Goes _ _ _ _ _ _ _ (T6.setTop (mkF m 70 _ [(.ref ar10)]))
  refine Goes.go (fun _ kk => XS.iconst X6.here hx rfl (hb hby at_70) kk) ?_
  show Goes _ _ _ _ _ _ _ (T6.setTop (mkF m 71 _ [(.int (5 : Int32)), (.ref ar10)]))
  refine Goes.go (fun _ kk => XS.iloadN X6.here hx rfl (hb hby at_71) rfl kk) ?_
  show Goes _ _ _ _ _ _ _ (T6.setTop (mkF m 72 _ [(.int p1), (.int (5 : Int32)), (.ref ar10)]))
  refine Goes.go (fun _ kk => XS.bipush X6.here hx rfl (hb hby at_72) kk) ?_
  show Goes _ _ _ _ _ _ _ (T6.setTop (mkF m 74 _ [(.int (8 : Int32)), (.int p1), (.int (5 : Int32)), (.ref ar10)]))
  refine Goes.go (fun _ kk => XS.iushr X6.here hx rfl (hb hby at_74) rfl kk) ?_
  show Goes _ _ _ _ _ _ _ (T6.setTop (mkF m 75 _ [(.int ((p1).toUInt32 >>> ((8 : Int32) &&& 31).toUInt32).toInt32), (.int (5 : Int32)), (.ref ar10)]))
  refine Goes.go (fun _ kk => XS.sipush X6.here hx rfl (hb hby at_75) kk) ?_
  show Goes _ _ _ _ _ _ _ (T6.setTop (mkF m 78 _ [(.int (255 : Int32)), (.int ((p1).toUInt32 >>> ((8 : Int32) &&& 31).toUInt32).toInt32), (.int (5 : Int32)), (.ref ar10)]))
  refine Goes.go (fun _ kk => XS.iand X6.here hx rfl (hb hby at_78) rfl kk) ?_
  show Goes _ _ _ _ _ _ _ (T6.setTop (mkF m 79 _ [(.int (((p1).toUInt32 >>> ((8 : Int32) &&& 31).toUInt32).toInt32 &&& (255 : Int32))), (.int (5 : Int32)), (.ref ar10)]))
  obtain ⟨T7, h7, X7, e7, W7, A7, st7⟩ := own_stI X6 hx hZ e6 f_5 (j := (5 : Int32)) (x := (((p1).toUInt32 >>> ((8 : Int32) &&& 31).toUInt32).toInt32 &&& (255 : Int32))) (by decide) (show (5 : Nat) < 8 by decide) (g := (mkF m 79 #[.val (.int p0), .val (.int p1), .val (.int p2), .val (.int v7), .val (.ref ar10), .unset, .unset, .unset] [(.int (((p1).toUInt32 >>> ((8 : Int32) &&& 31).toUInt32).toInt32 &&& (255 : Int32))), (.int (5 : Int32)), (.ref ar10)])) rfl rfl (hb hby at_79)
  have N7 := Fr.snoc X7 N6 ge_ar10
  have Z7 : n0 ≤ h7.size := by rw [W7.size]; exact Z6
  have f_6 : Arl Z h7 ar10 .int [(.int (p0 &&& (255 : Int32))), (.int (((p0).toUInt32 >>> ((8 : Int32) &&& 31).toUInt32).toInt32 &&& (255 : Int32))), (.int (((p0).toUInt32 >>> ((16 : Int32) &&& 31).toUInt32).toInt32 &&& (255 : Int32))), (.int (((p0).toUInt32 >>> ((24 : Int32) &&& 31).toUInt32).toInt32 &&& (255 : Int32))), (.int (p1 &&& (255 : Int32))), (.int (((p1).toUInt32 >>> ((8 : Int32) &&& 31).toUInt32).toInt32 &&& (255 : Int32))), (.int (0 : Int32)), (.int (0 : Int32))] := A7
  refine Goes.go (st7) ?_
  show Goes _ _ _ _ _ _ _ (T7.setTop (mkF m 80 _ []))
  refine Goes.go (fun _ kk => XS.aload X7.here hx rfl (hb hby at_80) rfl rfl kk) ?_
  show Goes _ _ _ _ _ _ _ (T7.setTop (mkF m 82 _ [(.ref ar10)]))
  refine Goes.go (fun _ kk => XS.bipush X7.here hx rfl (hb hby at_82) kk) ?_
  show Goes _ _ _ _ _ _ _ (T7.setTop (mkF m 84 _ [(.int (6 : Int32)), (.ref ar10)]))
  refine Goes.go (fun _ kk => XS.iloadN X7.here hx rfl (hb hby at_84) rfl kk) ?_
  show Goes _ _ _ _ _ _ _ (T7.setTop (mkF m 85 _ [(.int p1), (.int (6 : Int32)), (.ref ar10)]))
  refine Goes.go (fun _ kk => XS.bipush X7.here hx rfl (hb hby at_85) kk) ?_
  show Goes _ _ _ _ _ _ _ (T7.setTop (mkF m 87 _ [(.int (16 : Int32)), (.int p1), (.int (6 : Int32)), (.ref ar10)]))
  refine Goes.go (fun _ kk => XS.iushr X7.here hx rfl (hb hby at_87) rfl kk) ?_
  show Goes _ _ _ _ _ _ _ (T7.setTop (mkF m 88 _ [(.int ((p1).toUInt32 >>> ((16 : Int32) &&& 31).toUInt32).toInt32), (.int (6 : Int32)), (.ref ar10)]))
  refine Goes.go (fun _ kk => XS.sipush X7.here hx rfl (hb hby at_88) kk) ?_
  show Goes _ _ _ _ _ _ _ (T7.setTop (mkF m 91 _ [(.int (255 : Int32)), (.int ((p1).toUInt32 >>> ((16 : Int32) &&& 31).toUInt32).toInt32), (.int (6 : Int32)), (.ref ar10)]))
  refine Goes.go (fun _ kk => XS.iand X7.here hx rfl (hb hby at_91) rfl kk) ?_
  show Goes _ _ _ _ _ _ _ (T7.setTop (mkF m 92 _ [(.int (((p1).toUInt32 >>> ((16 : Int32) &&& 31).toUInt32).toInt32 &&& (255 : Int32))), (.int (6 : Int32)), (.ref ar10)]))
  obtain ⟨T8, h8, X8, e8, W8, A8, st8⟩ := own_stI X7 hx hZ e7 f_6 (j := (6 : Int32)) (x := (((p1).toUInt32 >>> ((16 : Int32) &&& 31).toUInt32).toInt32 &&& (255 : Int32))) (by decide) (show (6 : Nat) < 8 by decide) (g := (mkF m 92 #[.val (.int p0), .val (.int p1), .val (.int p2), .val (.int v7), .val (.ref ar10), .unset, .unset, .unset] [(.int (((p1).toUInt32 >>> ((16 : Int32) &&& 31).toUInt32).toInt32 &&& (255 : Int32))), (.int (6 : Int32)), (.ref ar10)])) rfl rfl (hb hby at_92)
  have N8 := Fr.snoc X8 N7 ge_ar10
  have Z8 : n0 ≤ h8.size := by rw [W8.size]; exact Z7
  have f_7 : Arl Z h8 ar10 .int [(.int (p0 &&& (255 : Int32))), (.int (((p0).toUInt32 >>> ((8 : Int32) &&& 31).toUInt32).toInt32 &&& (255 : Int32))), (.int (((p0).toUInt32 >>> ((16 : Int32) &&& 31).toUInt32).toInt32 &&& (255 : Int32))), (.int (((p0).toUInt32 >>> ((24 : Int32) &&& 31).toUInt32).toInt32 &&& (255 : Int32))), (.int (p1 &&& (255 : Int32))), (.int (((p1).toUInt32 >>> ((8 : Int32) &&& 31).toUInt32).toInt32 &&& (255 : Int32))), (.int (((p1).toUInt32 >>> ((16 : Int32) &&& 31).toUInt32).toInt32 &&& (255 : Int32))), (.int (0 : Int32))] := A8
  refine Goes.go (st8) ?_
  show Goes _ _ _ _ _ _ _ (T8.setTop (mkF m 93 _ []))
  refine Goes.go (fun _ kk => XS.aload X8.here hx rfl (hb hby at_93) rfl rfl kk) ?_
  show Goes _ _ _ _ _ _ _ (T8.setTop (mkF m 95 _ [(.ref ar10)]))
  refine Goes.go (fun _ kk => XS.bipush X8.here hx rfl (hb hby at_95) kk) ?_
  show Goes _ _ _ _ _ _ _ (T8.setTop (mkF m 97 _ [(.int (7 : Int32)), (.ref ar10)]))
  refine Goes.go (fun _ kk => XS.iloadN X8.here hx rfl (hb hby at_97) rfl kk) ?_
  show Goes _ _ _ _ _ _ _ (T8.setTop (mkF m 98 _ [(.int p1), (.int (7 : Int32)), (.ref ar10)]))
  refine Goes.go (fun _ kk => XS.bipush X8.here hx rfl (hb hby at_98) kk) ?_
  show Goes _ _ _ _ _ _ _ (T8.setTop (mkF m 100 _ [(.int (24 : Int32)), (.int p1), (.int (7 : Int32)), (.ref ar10)]))
  refine Goes.go (fun _ kk => XS.iushr X8.here hx rfl (hb hby at_100) rfl kk) ?_
  show Goes _ _ _ _ _ _ _ (T8.setTop (mkF m 101 _ [(.int ((p1).toUInt32 >>> ((24 : Int32) &&& 31).toUInt32).toInt32), (.int (7 : Int32)), (.ref ar10)]))
  refine Goes.go (fun _ kk => XS.sipush X8.here hx rfl (hb hby at_101) kk) ?_
  show Goes _ _ _ _ _ _ _ (T8.setTop (mkF m 104 _ [(.int (255 : Int32)), (.int ((p1).toUInt32 >>> ((24 : Int32) &&& 31).toUInt32).toInt32), (.int (7 : Int32)), (.ref ar10)]))
  refine Goes.go (fun _ kk => XS.iand X8.here hx rfl (hb hby at_104) rfl kk) ?_
  show Goes _ _ _ _ _ _ _ (T8.setTop (mkF m 105 _ [(.int (((p1).toUInt32 >>> ((24 : Int32) &&& 31).toUInt32).toInt32 &&& (255 : Int32))), (.int (7 : Int32)), (.ref ar10)]))
  obtain ⟨T9, h9, X9, e9, W9, A9, st9⟩ := own_stI X8 hx hZ e8 f_7 (j := (7 : Int32)) (x := (((p1).toUInt32 >>> ((24 : Int32) &&& 31).toUInt32).toInt32 &&& (255 : Int32))) (by decide) (show (7 : Nat) < 8 by decide) (g := (mkF m 105 #[.val (.int p0), .val (.int p1), .val (.int p2), .val (.int v7), .val (.ref ar10), .unset, .unset, .unset] [(.int (((p1).toUInt32 >>> ((24 : Int32) &&& 31).toUInt32).toInt32 &&& (255 : Int32))), (.int (7 : Int32)), (.ref ar10)])) rfl rfl (hb hby at_105)
  have N9 := Fr.snoc X9 N8 ge_ar10
  have Z9 : n0 ≤ h9.size := by rw [W9.size]; exact Z8
  have f_8 : Arl Z h9 ar10 .int [(.int (p0 &&& (255 : Int32))), (.int (((p0).toUInt32 >>> ((8 : Int32) &&& 31).toUInt32).toInt32 &&& (255 : Int32))), (.int (((p0).toUInt32 >>> ((16 : Int32) &&& 31).toUInt32).toInt32 &&& (255 : Int32))), (.int (((p0).toUInt32 >>> ((24 : Int32) &&& 31).toUInt32).toInt32 &&& (255 : Int32))), (.int (p1 &&& (255 : Int32))), (.int (((p1).toUInt32 >>> ((8 : Int32) &&& 31).toUInt32).toInt32 &&& (255 : Int32))), (.int (((p1).toUInt32 >>> ((16 : Int32) &&& 31).toUInt32).toInt32 &&& (255 : Int32))), (.int (((p1).toUInt32 >>> ((24 : Int32) &&& 31).toUInt32).toInt32 &&& (255 : Int32)))] := A9
  refine Goes.go (st9) ?_
  show Goes _ _ _ _ _ _ _ (T9.setTop (mkF m 106 _ []))
  rcases own_n9 hv7 with rfl | rfl | rfl | rfl | rfl | rfl | rfl | rfl | rfl
  · skip
    show Goes _ _ _ _ _ _ _ (T9.setTop (mkF m 106 #[.val (.int p0), .val (.int p1), .val (.int p2), .val (.int (0 : Int32)), .val (.ref ar10), .unset, .unset, .unset] []))
    refine Goes.go (fun _ kk => XS.iloadN X9.here hx rfl (hb hby at_106) rfl kk) ?_
    show Goes _ _ _ _ _ _ _ (T9.setTop (mkF m 107 _ [(.int (0 : Int32))]))
    obtain ⟨T10, h10, X10, e10, E10, A10, st10⟩ := own_newP X9 hx hZ (aty := .byte) (hw _ (List.mem_of_getElem? (i := 2) rfl)) e9 (g := (mkF m 107 #[.val (.int p0), .val (.int p1), .val (.int p2), .val (.int (0 : Int32)), .val (.ref ar10), .unset, .unset, .unset] [(.int (0 : Int32))])) rfl (hb hby at_107) rfl (n := (0 : Int32)) (by decide) (cap := 0) (by decide) (by decide) (by decide) (by decide)
    obtain ⟨ar107, gar107⟩ : ∃ z, z = h9.size := ⟨_, rfl⟩
    rw [← gar107] at A10 st10
    have ne_ar10_ar107 : ar10 ≠ ar107 := by rw [gar107]; exact Nat.ne_of_lt f_8.lt
    have f_9 := f_8.ext E10
    have Z10 : n0 ≤ h10.size := Nat.le_trans Z9 E10.1
    have ge_ar107 : n0 ≤ ar107 := Nat.le_trans Z9 (Nat.le_of_eq gar107.symm)
    have f_10 : Arl Z h10 ar107 .byte [] := A10
    refine Goes.go (st10) ?_
    show Goes _ _ _ _ _ _ _ (T10.setTop (mkF m 109 _ [(.ref ar107)]))
    refine Goes.go (fun _ kk => XS.astore X10.here hx rfl (hb hby at_109) rfl rfl (l' := #[.val (.int p0), .val (.int p1), .val (.int p2), .val (.int (0 : Int32)), .val (.ref ar10), .val (.ref ar107), .unset, .unset]) rfl kk) ?_
    show Goes _ _ _ _ _ _ _ (T10.setTop (mkF m 111 #[.val (.int p0), .val (.int p1), .val (.int p2), .val (.int (0 : Int32)), .val (.ref ar10), .val (.ref ar107), .unset, .unset] []))
    refine Goes.go (fun _ kk => XS.iloadN X10.here hx rfl (hb hby at_111) rfl kk) ?_
    show Goes _ _ _ _ _ _ _ (T10.setTop (mkF m 112 _ [(.int (0 : Int32))]))
    refine Goes.go (fun _ kk => XS.ifYes X10.here hx rfl (pc0 := 112) (pc' := 124) rfl (hb hby at_112) rfl (XT.i0_le_t (by decide)) (by decide) (by decide) kk) ?_
    show Goes _ _ _ _ _ _ _ (T10.setTop (mkF m 124 _ []))
    refine Goes.go (fun _ kk => XS.iloadN X10.here hx rfl (hb hby at_124) rfl kk) ?_
    show Goes _ _ _ _ _ _ _ (T10.setTop (mkF m 125 _ [(.int (0 : Int32))]))
    refine Goes.go (fun _ kk => XS.iconst X10.here hx rfl (hb hby at_125) kk) ?_
    show Goes _ _ _ _ _ _ _ (T10.setTop (mkF m 126 _ [(.int (1 : Int32)), (.int (0 : Int32))]))
    refine Goes.go (fun _ kk => XS.icmpYes X10.here hx rfl (pc0 := 126) (pc' := 138) rfl (hb hby at_126) rfl (XT.ii_le_t (by decide)) (by decide) (by decide) kk) ?_
    show Goes _ _ _ _ _ _ _ (T10.setTop (mkF m 138 _ []))
    refine Goes.go (fun _ kk => XS.iloadN X10.here hx rfl (hb hby at_138) rfl kk) ?_
    show Goes _ _ _ _ _ _ _ (T10.setTop (mkF m 139 _ [(.int (0 : Int32))]))
    refine Goes.go (fun _ kk => XS.iconst X10.here hx rfl (hb hby at_139) kk) ?_
    show Goes _ _ _ _ _ _ _ (T10.setTop (mkF m 140 _ [(.int (2 : Int32)), (.int (0 : Int32))]))
    refine Goes.go (fun _ kk => XS.icmpYes X10.here hx rfl (pc0 := 140) (pc' := 152) rfl (hb hby at_140) rfl (XT.ii_le_t (by decide)) (by decide) (by decide) kk) ?_
    show Goes _ _ _ _ _ _ _ (T10.setTop (mkF m 152 _ []))
    refine Goes.go (fun _ kk => XS.iloadN X10.here hx rfl (hb hby at_152) rfl kk) ?_
    show Goes _ _ _ _ _ _ _ (T10.setTop (mkF m 153 _ [(.int (0 : Int32))]))
    refine Goes.go (fun _ kk => XS.iconst X10.here hx rfl (hb hby at_153) kk) ?_
    show Goes _ _ _ _ _ _ _ (T10.setTop (mkF m 154 _ [(.int (3 : Int32)), (.int (0 : Int32))]))
    refine Goes.go (fun _ kk => XS.icmpYes X10.here hx rfl (pc0 := 154) (pc' := 166) rfl (hb hby at_154) rfl (XT.ii_le_t (by decide)) (by decide) (by decide) kk) ?_
    show Goes _ _ _ _ _ _ _ (T10.setTop (mkF m 166 _ []))
    refine Goes.go (fun _ kk => XS.iloadN X10.here hx rfl (hb hby at_166) rfl kk) ?_
    show Goes _ _ _ _ _ _ _ (T10.setTop (mkF m 167 _ [(.int (0 : Int32))]))
    refine Goes.go (fun _ kk => XS.iconst X10.here hx rfl (hb hby at_167) kk) ?_
    show Goes _ _ _ _ _ _ _ (T10.setTop (mkF m 168 _ [(.int (4 : Int32)), (.int (0 : Int32))]))
    refine Goes.go (fun _ kk => XS.icmpYes X10.here hx rfl (pc0 := 168) (pc' := 180) rfl (hb hby at_168) rfl (XT.ii_le_t (by decide)) (by decide) (by decide) kk) ?_
    show Goes _ _ _ _ _ _ _ (T10.setTop (mkF m 180 _ []))
    refine Goes.go (fun _ kk => XS.iloadN X10.here hx rfl (hb hby at_180) rfl kk) ?_
    show Goes _ _ _ _ _ _ _ (T10.setTop (mkF m 181 _ [(.int (0 : Int32))]))
    refine Goes.go (fun _ kk => XS.iconst X10.here hx rfl (hb hby at_181) kk) ?_
    show Goes _ _ _ _ _ _ _ (T10.setTop (mkF m 182 _ [(.int (5 : Int32)), (.int (0 : Int32))]))
    refine Goes.go (fun _ kk => XS.icmpYes X10.here hx rfl (pc0 := 182) (pc' := 194) rfl (hb hby at_182) rfl (XT.ii_le_t (by decide)) (by decide) (by decide) kk) ?_
    show Goes _ _ _ _ _ _ _ (T10.setTop (mkF m 194 _ []))
    refine Goes.go (fun _ kk => XS.iloadN X10.here hx rfl (hb hby at_194) rfl kk) ?_
    show Goes _ _ _ _ _ _ _ (T10.setTop (mkF m 195 _ [(.int (0 : Int32))]))
    refine Goes.go (fun _ kk => XS.bipush X10.here hx rfl (hb hby at_195) kk) ?_
    show Goes _ _ _ _ _ _ _ (T10.setTop (mkF m 197 _ [(.int (6 : Int32)), (.int (0 : Int32))]))
    refine Goes.go (fun _ kk => XS.icmpYes X10.here hx rfl (pc0 := 197) (pc' := 211) rfl (hb hby at_197) rfl (XT.ii_le_t (by decide)) (by decide) (by decide) kk) ?_
    show Goes _ _ _ _ _ _ _ (T10.setTop (mkF m 211 _ []))
    refine Goes.go (fun _ kk => XS.iloadN X10.here hx rfl (hb hby at_211) rfl kk) ?_
    show Goes _ _ _ _ _ _ _ (T10.setTop (mkF m 212 _ [(.int (0 : Int32))]))
    refine Goes.go (fun _ kk => XS.bipush X10.here hx rfl (hb hby at_212) kk) ?_
    show Goes _ _ _ _ _ _ _ (T10.setTop (mkF m 214 _ [(.int (7 : Int32)), (.int (0 : Int32))]))
    refine Goes.go (fun _ kk => XS.icmpYes X10.here hx rfl (pc0 := 214) (pc' := 228) rfl (hb hby at_214) rfl (XT.ii_le_t (by decide)) (by decide) (by decide) kk) ?_
    show Goes _ _ _ _ _ _ _ (T10.setTop (mkF m 228 _ []))
    have hB : ∀ j, isB (gi [(p0 &&& (255 : Int32)), (((p0).toUInt32 >>> ((8 : Int32) &&& 31).toUInt32).toInt32 &&& (255 : Int32)), (((p0).toUInt32 >>> ((16 : Int32) &&& 31).toUInt32).toInt32 &&& (255 : Int32)), (((p0).toUInt32 >>> ((24 : Int32) &&& 31).toUInt32).toInt32 &&& (255 : Int32)), (p1 &&& (255 : Int32)), (((p1).toUInt32 >>> ((8 : Int32) &&& 31).toUInt32).toInt32 &&& (255 : Int32)), (((p1).toUInt32 >>> ((16 : Int32) &&& 31).toUInt32).toInt32 &&& (255 : Int32)), (((p1).toUInt32 >>> ((24 : Int32) &&& 31).toUInt32).toInt32 &&& (255 : Int32))] j) := own_hb (by intro x hx; simp only [List.mem_cons, List.not_mem_nil, or_false] at hx; rcases hx with rfl | rfl | rfl | rfl | rfl | rfl | rfl | rfl <;> exact own_m8 _)
    have XX := X10.more (Nat.le_refl _) (by decide : _ ≤ 16)
    exact seg228 hw hx hby hml hown hnm hlk hret hZ p0 p1 p2 _ _ _ 0 [(p0 &&& (255 : Int32)), (((p0).toUInt32 >>> ((8 : Int32) &&& 31).toUInt32).toInt32 &&& (255 : Int32)), (((p0).toUInt32 >>> ((16 : Int32) &&& 31).toUInt32).toInt32 &&& (255 : Int32)), (((p0).toUInt32 >>> ((24 : Int32) &&& 31).toUInt32).toInt32 &&& (255 : Int32)), (p1 &&& (255 : Int32)), (((p1).toUInt32 >>> ((8 : Int32) &&& 31).toUInt32).toInt32 &&& (255 : Int32)), (((p1).toUInt32 >>> ((16 : Int32) &&& 31).toUInt32).toInt32 &&& (255 : Int32)), (((p1).toUInt32 >>> ((24 : Int32) &&& 31).toUInt32).toInt32 &&& (255 : Int32))] 0 n0 (fun _ _ N => ⟨rfl, N⟩) Z10 XX e10 N9 f_9 f_10 rfl (by decide) (by decide) hB rfl
  · skip
    show Goes _ _ _ _ _ _ _ (T9.setTop (mkF m 106 #[.val (.int p0), .val (.int p1), .val (.int p2), .val (.int (1 : Int32)), .val (.ref ar10), .unset, .unset, .unset] []))
    refine Goes.go (fun _ kk => XS.iloadN X9.here hx rfl (hb hby at_106) rfl kk) ?_
    show Goes _ _ _ _ _ _ _ (T9.setTop (mkF m 107 _ [(.int (1 : Int32))]))
    obtain ⟨T10, h10, X10, e10, E10, A10, st10⟩ := own_newP X9 hx hZ (aty := .byte) (hw _ (List.mem_of_getElem? (i := 2) rfl)) e9 (g := (mkF m 107 #[.val (.int p0), .val (.int p1), .val (.int p2), .val (.int (1 : Int32)), .val (.ref ar10), .unset, .unset, .unset] [(.int (1 : Int32))])) rfl (hb hby at_107) rfl (n := (1 : Int32)) (by decide) (cap := 1) (by decide) (by decide) (by decide) (by decide)
    obtain ⟨ar107, gar107⟩ : ∃ z, z = h9.size := ⟨_, rfl⟩
    rw [← gar107] at A10 st10
    have ne_ar10_ar107 : ar10 ≠ ar107 := by rw [gar107]; exact Nat.ne_of_lt f_8.lt
    have f_9 := f_8.ext E10
    have Z10 : n0 ≤ h10.size := Nat.le_trans Z9 E10.1
    have ge_ar107 : n0 ≤ ar107 := Nat.le_trans Z9 (Nat.le_of_eq gar107.symm)
    have f_10 : Arl Z h10 ar107 .byte [(.int (0 : Int32))] := A10
    refine Goes.go (st10) ?_
    show Goes _ _ _ _ _ _ _ (T10.setTop (mkF m 109 _ [(.ref ar107)]))
    refine Goes.go (fun _ kk => XS.astore X10.here hx rfl (hb hby at_109) rfl rfl (l' := #[.val (.int p0), .val (.int p1), .val (.int p2), .val (.int (1 : Int32)), .val (.ref ar10), .val (.ref ar107), .unset, .unset]) rfl kk) ?_
    show Goes _ _ _ _ _ _ _ (T10.setTop (mkF m 111 #[.val (.int p0), .val (.int p1), .val (.int p2), .val (.int (1 : Int32)), .val (.ref ar10), .val (.ref ar107), .unset, .unset] []))
    refine Goes.go (fun _ kk => XS.iloadN X10.here hx rfl (hb hby at_111) rfl kk) ?_
    show Goes _ _ _ _ _ _ _ (T10.setTop (mkF m 112 _ [(.int (1 : Int32))]))
    refine Goes.go (fun _ kk => XS.ifNo X10.here hx rfl (hb hby at_112) rfl (XT.i0_le_f (by decide)) kk) ?_
    show Goes _ _ _ _ _ _ _ (T10.setTop (mkF m 115 _ []))
    refine Goes.go (fun _ kk => XS.aload X10.here hx rfl (hb hby at_115) rfl rfl kk) ?_
    show Goes _ _ _ _ _ _ _ (T10.setTop (mkF m 117 _ [(.ref ar107)]))
    refine Goes.go (fun _ kk => XS.iconst X10.here hx rfl (hb hby at_117) kk) ?_
    show Goes _ _ _ _ _ _ _ (T10.setTop (mkF m 118 _ [(.int (0 : Int32)), (.ref ar107)]))
    refine Goes.go (fun _ kk => XS.aload X10.here hx rfl (hb hby at_118) rfl rfl kk) ?_
    show Goes _ _ _ _ _ _ _ (T10.setTop (mkF m 120 _ [(.ref ar10), (.int (0 : Int32)), (.ref ar107)]))
    refine Goes.go (fun _ kk => XS.iconst X10.here hx rfl (hb hby at_120) kk) ?_
    show Goes _ _ _ _ _ _ _ (T10.setTop (mkF m 121 _ [(.int (0 : Int32)), (.ref ar10), (.int (0 : Int32)), (.ref ar107)]))
    refine Goes.go (own_ldI X10 hx hZ e10 f_9 (j := (0 : Int32)) (v := (.int (p0 &&& (255 : Int32)))) (by decide) rfl rfl rfl (hb hby at_121)) ?_
    show Goes _ _ _ _ _ _ _ (T10.setTop (mkF m 122 _ [(.int (p0 &&& (255 : Int32))), (.int (0 : Int32)), (.ref ar107)]))
    refine Goes.go (fun _ kk => XS.i2b X10.here hx rfl (hb hby at_122) rfl kk) ?_
    show Goes _ _ _ _ _ _ _ (T10.setTop (mkF m 123 _ [(.int ((p0 &&& (255 : Int32))).toInt8.toInt32), (.int (0 : Int32)), (.ref ar107)]))
    obtain ⟨T11, h11, X11, e11, W11, A11, st11⟩ := own_stB X10 hx hZ e10 f_10 (j := (0 : Int32)) (x := ((p0 &&& (255 : Int32))).toInt8.toInt32) (by decide) (show (0 : Nat) < 1 by decide) (g := (mkF m 123 #[.val (.int p0), .val (.int p1), .val (.int p2), .val (.int (1 : Int32)), .val (.ref ar10), .val (.ref ar107), .unset, .unset] [(.int ((p0 &&& (255 : Int32))).toInt8.toInt32), (.int (0 : Int32)), (.ref ar107)])) rfl rfl (hb hby at_123)
    rw [own_nar8] at A11
    have N11 := Fr.snoc X11 N9 ge_ar107
    have f_11 := Arl.other f_9 W11 ne_ar10_ar107
    have Z11 : n0 ≤ h11.size := by rw [W11.size]; exact Z10
    have f_12 : Arl Z h11 ar107 .byte [(.int ((p0 &&& (255 : Int32))).toInt8.toInt32)] := A11
    refine Goes.go (st11) ?_
    show Goes _ _ _ _ _ _ _ (T11.setTop (mkF m 124 _ []))
    refine Goes.go (fun _ kk => XS.iloadN X11.here hx rfl (hb hby at_124) rfl kk) ?_
    show Goes _ _ _ _ _ _ _ (T11.setTop (mkF m 125 _ [(.int (1 : Int32))]))
    refine Goes.go (fun _ kk => XS.iconst X11.here hx rfl (hb hby at_125) kk) ?_
    show Goes _ _ _ _ _ _ _ (T11.setTop (mkF m 126 _ [(.int (1 : Int32)), (.int (1 : Int32))]))
    refine Goes.go (fun _ kk => XS.icmpYes X11.here hx rfl (pc0 := 126) (pc' := 138) rfl (hb hby at_126) rfl (XT.ii_le_t (by decide)) (by decide) (by decide) kk) ?_
    show Goes _ _ _ _ _ _ _ (T11.setTop (mkF m 138 _ []))
    refine Goes.go (fun _ kk => XS.iloadN X11.here hx rfl (hb hby at_138) rfl kk) ?_
    show Goes _ _ _ _ _ _ _ (T11.setTop (mkF m 139 _ [(.int (1 : Int32))]))
    refine Goes.go (fun _ kk => XS.iconst X11.here hx rfl (hb hby at_139) kk) ?_
    show Goes _ _ _ _ _ _ _ (T11.setTop (mkF m 140 _ [(.int (2 : Int32)), (.int (1 : Int32))]))
    refine Goes.go (fun _ kk => XS.icmpYes X11.here hx rfl (pc0 := 140) (pc' := 152) rfl (hb hby at_140) rfl (XT.ii_le_t (by decide)) (by decide) (by decide) kk) ?_
    show Goes _ _ _ _ _ _ _ (T11.setTop (mkF m 152 _ []))
    refine Goes.go (fun _ kk => XS.iloadN X11.here hx rfl (hb hby at_152) rfl kk) ?_
    show Goes _ _ _ _ _ _ _ (T11.setTop (mkF m 153 _ [(.int (1 : Int32))]))
    refine Goes.go (fun _ kk => XS.iconst X11.here hx rfl (hb hby at_153) kk) ?_
    show Goes _ _ _ _ _ _ _ (T11.setTop (mkF m 154 _ [(.int (3 : Int32)), (.int (1 : Int32))]))
    refine Goes.go (fun _ kk => XS.icmpYes X11.here hx rfl (pc0 := 154) (pc' := 166) rfl (hb hby at_154) rfl (XT.ii_le_t (by decide)) (by decide) (by decide) kk) ?_
    show Goes _ _ _ _ _ _ _ (T11.setTop (mkF m 166 _ []))
    refine Goes.go (fun _ kk => XS.iloadN X11.here hx rfl (hb hby at_166) rfl kk) ?_
    show Goes _ _ _ _ _ _ _ (T11.setTop (mkF m 167 _ [(.int (1 : Int32))]))
    refine Goes.go (fun _ kk => XS.iconst X11.here hx rfl (hb hby at_167) kk) ?_
    show Goes _ _ _ _ _ _ _ (T11.setTop (mkF m 168 _ [(.int (4 : Int32)), (.int (1 : Int32))]))
    refine Goes.go (fun _ kk => XS.icmpYes X11.here hx rfl (pc0 := 168) (pc' := 180) rfl (hb hby at_168) rfl (XT.ii_le_t (by decide)) (by decide) (by decide) kk) ?_
    show Goes _ _ _ _ _ _ _ (T11.setTop (mkF m 180 _ []))
    refine Goes.go (fun _ kk => XS.iloadN X11.here hx rfl (hb hby at_180) rfl kk) ?_
    show Goes _ _ _ _ _ _ _ (T11.setTop (mkF m 181 _ [(.int (1 : Int32))]))
    refine Goes.go (fun _ kk => XS.iconst X11.here hx rfl (hb hby at_181) kk) ?_
    show Goes _ _ _ _ _ _ _ (T11.setTop (mkF m 182 _ [(.int (5 : Int32)), (.int (1 : Int32))]))
    refine Goes.go (fun _ kk => XS.icmpYes X11.here hx rfl (pc0 := 182) (pc' := 194) rfl (hb hby at_182) rfl (XT.ii_le_t (by decide)) (by decide) (by decide) kk) ?_
    show Goes _ _ _ _ _ _ _ (T11.setTop (mkF m 194 _ []))
    refine Goes.go (fun _ kk => XS.iloadN X11.here hx rfl (hb hby at_194) rfl kk) ?_
    show Goes _ _ _ _ _ _ _ (T11.setTop (mkF m 195 _ [(.int (1 : Int32))]))
    refine Goes.go (fun _ kk => XS.bipush X11.here hx rfl (hb hby at_195) kk) ?_
    show Goes _ _ _ _ _ _ _ (T11.setTop (mkF m 197 _ [(.int (6 : Int32)), (.int (1 : Int32))]))
    refine Goes.go (fun _ kk => XS.icmpYes X11.here hx rfl (pc0 := 197) (pc' := 211) rfl (hb hby at_197) rfl (XT.ii_le_t (by decide)) (by decide) (by decide) kk) ?_
    show Goes _ _ _ _ _ _ _ (T11.setTop (mkF m 211 _ []))
    refine Goes.go (fun _ kk => XS.iloadN X11.here hx rfl (hb hby at_211) rfl kk) ?_
    show Goes _ _ _ _ _ _ _ (T11.setTop (mkF m 212 _ [(.int (1 : Int32))]))
    refine Goes.go (fun _ kk => XS.bipush X11.here hx rfl (hb hby at_212) kk) ?_
    show Goes _ _ _ _ _ _ _ (T11.setTop (mkF m 214 _ [(.int (7 : Int32)), (.int (1 : Int32))]))
    refine Goes.go (fun _ kk => XS.icmpYes X11.here hx rfl (pc0 := 214) (pc' := 228) rfl (hb hby at_214) rfl (XT.ii_le_t (by decide)) (by decide) (by decide) kk) ?_
    show Goes _ _ _ _ _ _ _ (T11.setTop (mkF m 228 _ []))
    have hB : ∀ j, isB (gi [(p0 &&& (255 : Int32)), (((p0).toUInt32 >>> ((8 : Int32) &&& 31).toUInt32).toInt32 &&& (255 : Int32)), (((p0).toUInt32 >>> ((16 : Int32) &&& 31).toUInt32).toInt32 &&& (255 : Int32)), (((p0).toUInt32 >>> ((24 : Int32) &&& 31).toUInt32).toInt32 &&& (255 : Int32)), (p1 &&& (255 : Int32)), (((p1).toUInt32 >>> ((8 : Int32) &&& 31).toUInt32).toInt32 &&& (255 : Int32)), (((p1).toUInt32 >>> ((16 : Int32) &&& 31).toUInt32).toInt32 &&& (255 : Int32)), (((p1).toUInt32 >>> ((24 : Int32) &&& 31).toUInt32).toInt32 &&& (255 : Int32))] j) := own_hb (by intro x hx; simp only [List.mem_cons, List.not_mem_nil, or_false] at hx; rcases hx with rfl | rfl | rfl | rfl | rfl | rfl | rfl | rfl <;> exact own_m8 _)
    have XX := X11.more (Nat.le_refl _) (by decide : _ ≤ 16)
    exact seg228 hw hx hby hml hown hnm hlk hret hZ p0 p1 p2 _ _ _ 1 [(p0 &&& (255 : Int32)), (((p0).toUInt32 >>> ((8 : Int32) &&& 31).toUInt32).toInt32 &&& (255 : Int32)), (((p0).toUInt32 >>> ((16 : Int32) &&& 31).toUInt32).toInt32 &&& (255 : Int32)), (((p0).toUInt32 >>> ((24 : Int32) &&& 31).toUInt32).toInt32 &&& (255 : Int32)), (p1 &&& (255 : Int32)), (((p1).toUInt32 >>> ((8 : Int32) &&& 31).toUInt32).toInt32 &&& (255 : Int32)), (((p1).toUInt32 >>> ((16 : Int32) &&& 31).toUInt32).toInt32 &&& (255 : Int32)), (((p1).toUInt32 >>> ((24 : Int32) &&& 31).toUInt32).toInt32 &&& (255 : Int32))] 0 n0 (fun _ _ N => ⟨rfl, N⟩) Z11 XX e11 N11 f_11 f_12 rfl (by decide) (by decide) hB rfl
  · skip
    show Goes _ _ _ _ _ _ _ (T9.setTop (mkF m 106 #[.val (.int p0), .val (.int p1), .val (.int p2), .val (.int (2 : Int32)), .val (.ref ar10), .unset, .unset, .unset] []))
    refine Goes.go (fun _ kk => XS.iloadN X9.here hx rfl (hb hby at_106) rfl kk) ?_
    show Goes _ _ _ _ _ _ _ (T9.setTop (mkF m 107 _ [(.int (2 : Int32))]))
    obtain ⟨T10, h10, X10, e10, E10, A10, st10⟩ := own_newP X9 hx hZ (aty := .byte) (hw _ (List.mem_of_getElem? (i := 2) rfl)) e9 (g := (mkF m 107 #[.val (.int p0), .val (.int p1), .val (.int p2), .val (.int (2 : Int32)), .val (.ref ar10), .unset, .unset, .unset] [(.int (2 : Int32))])) rfl (hb hby at_107) rfl (n := (2 : Int32)) (by decide) (cap := 2) (by decide) (by decide) (by decide) (by decide)
    obtain ⟨ar107, gar107⟩ : ∃ z, z = h9.size := ⟨_, rfl⟩
    rw [← gar107] at A10 st10
    have ne_ar10_ar107 : ar10 ≠ ar107 := by rw [gar107]; exact Nat.ne_of_lt f_8.lt
    have f_9 := f_8.ext E10
    have Z10 : n0 ≤ h10.size := Nat.le_trans Z9 E10.1
    have ge_ar107 : n0 ≤ ar107 := Nat.le_trans Z9 (Nat.le_of_eq gar107.symm)
    have f_10 : Arl Z h10 ar107 .byte [(.int (0 : Int32)), (.int (0 : Int32))] := A10
    refine Goes.go (st10) ?_
    show Goes _ _ _ _ _ _ _ (T10.setTop (mkF m 109 _ [(.ref ar107)]))
    refine Goes.go (fun _ kk => XS.astore X10.here hx rfl (hb hby at_109) rfl rfl (l' := #[.val (.int p0), .val (.int p1), .val (.int p2), .val (.int (2 : Int32)), .val (.ref ar10), .val (.ref ar107), .unset, .unset]) rfl kk) ?_
    show Goes _ _ _ _ _ _ _ (T10.setTop (mkF m 111 #[.val (.int p0), .val (.int p1), .val (.int p2), .val (.int (2 : Int32)), .val (.ref ar10), .val (.ref ar107), .unset, .unset] []))
    refine Goes.go (fun _ kk => XS.iloadN X10.here hx rfl (hb hby at_111) rfl kk) ?_
    show Goes _ _ _ _ _ _ _ (T10.setTop (mkF m 112 _ [(.int (2 : Int32))]))
    refine Goes.go (fun _ kk => XS.ifNo X10.here hx rfl (hb hby at_112) rfl (XT.i0_le_f (by decide)) kk) ?_
    show Goes _ _ _ _ _ _ _ (T10.setTop (mkF m 115 _ []))
    refine Goes.go (fun _ kk => XS.aload X10.here hx rfl (hb hby at_115) rfl rfl kk) ?_
    show Goes _ _ _ _ _ _ _ (T10.setTop (mkF m 117 _ [(.ref ar107)]))
    refine Goes.go (fun _ kk => XS.iconst X10.here hx rfl (hb hby at_117) kk) ?_
    show Goes _ _ _ _ _ _ _ (T10.setTop (mkF m 118 _ [(.int (0 : Int32)), (.ref ar107)]))
    refine Goes.go (fun _ kk => XS.aload X10.here hx rfl (hb hby at_118) rfl rfl kk) ?_
    show Goes _ _ _ _ _ _ _ (T10.setTop (mkF m 120 _ [(.ref ar10), (.int (0 : Int32)), (.ref ar107)]))
    refine Goes.go (fun _ kk => XS.iconst X10.here hx rfl (hb hby at_120) kk) ?_
    show Goes _ _ _ _ _ _ _ (T10.setTop (mkF m 121 _ [(.int (0 : Int32)), (.ref ar10), (.int (0 : Int32)), (.ref ar107)]))
    refine Goes.go (own_ldI X10 hx hZ e10 f_9 (j := (0 : Int32)) (v := (.int (p0 &&& (255 : Int32)))) (by decide) rfl rfl rfl (hb hby at_121)) ?_
    show Goes _ _ _ _ _ _ _ (T10.setTop (mkF m 122 _ [(.int (p0 &&& (255 : Int32))), (.int (0 : Int32)), (.ref ar107)]))
    refine Goes.go (fun _ kk => XS.i2b X10.here hx rfl (hb hby at_122) rfl kk) ?_
    show Goes _ _ _ _ _ _ _ (T10.setTop (mkF m 123 _ [(.int ((p0 &&& (255 : Int32))).toInt8.toInt32), (.int (0 : Int32)), (.ref ar107)]))
    obtain ⟨T11, h11, X11, e11, W11, A11, st11⟩ := own_stB X10 hx hZ e10 f_10 (j := (0 : Int32)) (x := ((p0 &&& (255 : Int32))).toInt8.toInt32) (by decide) (show (0 : Nat) < 2 by decide) (g := (mkF m 123 #[.val (.int p0), .val (.int p1), .val (.int p2), .val (.int (2 : Int32)), .val (.ref ar10), .val (.ref ar107), .unset, .unset] [(.int ((p0 &&& (255 : Int32))).toInt8.toInt32), (.int (0 : Int32)), (.ref ar107)])) rfl rfl (hb hby at_123)
    rw [own_nar8] at A11
    have N11 := Fr.snoc X11 N9 ge_ar107
    have f_11 := Arl.other f_9 W11 ne_ar10_ar107
    have Z11 : n0 ≤ h11.size := by rw [W11.size]; exact Z10
    have f_12 : Arl Z h11 ar107 .byte [(.int ((p0 &&& (255 : Int32))).toInt8.toInt32), (.int (0 : Int32))] := A11
    refine Goes.go (st11) ?_
    show Goes _ _ _ _ _ _ _ (T11.setTop (mkF m 124 _ []))
    refine Goes.go (fun _ kk => XS.iloadN X11.here hx rfl (hb hby at_124) rfl kk) ?_
    show Goes _ _ _ _ _ _ _ (T11.setTop (mkF m 125 _ [(.int (2 : Int32))]))
    refine Goes.go (fun _ kk => XS.iconst X11.here hx rfl (hb hby at_125) kk) ?_
    show Goes _ _ _ _ _ _ _ (T11.setTop (mkF m 126 _ [(.int (1 : Int32)), (.int (2 : Int32))]))
    refine Goes.go (fun _ kk => XS.icmpNo X11.here hx rfl (hb hby at_126) rfl (XT.ii_le_f (by decide)) kk) ?_
    show Goes _ _ _ _ _ _ _ (T11.setTop (mkF m 129 _ []))
    refine Goes.go (fun _ kk => XS.aload X11.here hx rfl (hb hby at_129) rfl rfl kk) ?_
    show Goes _ _ _ _ _ _ _ (T11.setTop (mkF m 131 _ [(.ref ar107)]))
    refine Goes.go (fun _ kk => XS.iconst X11.here hx rfl (hb hby at_131) kk) ?_
    show Goes _ _ _ _ _ _ _ (T11.setTop (mkF m 132 _ [(.int (1 : Int32)), (.ref ar107)]))
    refine Goes.go (fun _ kk => XS.aload X11.here hx rfl (hb hby at_132) rfl rfl kk) ?_
    show Goes _ _ _ _ _ _ _ (T11.setTop (mkF m 134 _ [(.ref ar10), (.int (1 : Int32)), (.ref ar107)]))
    refine Goes.go (fun _ kk => XS.iconst X11.here hx rfl (hb hby at_134) kk) ?_
    show Goes _ _ _ _ _ _ _ (T11.setTop (mkF m 135 _ [(.int (1 : Int32)), (.ref ar10), (.int (1 : Int32)), (.ref ar107)]))
    refine Goes.go (own_ldI X11 hx hZ e11 f_11 (j := (1 : Int32)) (v := (.int (((p0).toUInt32 >>> ((8 : Int32) &&& 31).toUInt32).toInt32 &&& (255 : Int32)))) (by decide) rfl rfl rfl (hb hby at_135)) ?_
    show Goes _ _ _ _ _ _ _ (T11.setTop (mkF m 136 _ [(.int (((p0).toUInt32 >>> ((8 : Int32) &&& 31).toUInt32).toInt32 &&& (255 : Int32))), (.int (1 : Int32)), (.ref ar107)]))
    refine Goes.go (fun _ kk => XS.i2b X11.here hx rfl (hb hby at_136) rfl kk) ?_
    show Goes _ _ _ _ _ _ _ (T11.setTop (mkF m 137 _ [(.int ((((p0).toUInt32 >>> ((8 : Int32) &&& 31).toUInt32).toInt32 &&& (255 : Int32))).toInt8.toInt32), (.int (1 : Int32)), (.ref ar107)]))
    obtain ⟨T12, h12, X12, e12, W12, A12, st12⟩ := own_stB X11 hx hZ e11 f_12 (j := (1 : Int32)) (x := ((((p0).toUInt32 >>> ((8 : Int32) &&& 31).toUInt32).toInt32 &&& (255 : Int32))).toInt8.toInt32) (by decide) (show (1 : Nat) < 2 by decide) (g := (mkF m 137 #[.val (.int p0), .val (.int p1), .val (.int p2), .val (.int (2 : Int32)), .val (.ref ar10), .val (.ref ar107), .unset, .unset] [(.int ((((p0).toUInt32 >>> ((8 : Int32) &&& 31).toUInt32).toInt32 &&& (255 : Int32))).toInt8.toInt32), (.int (1 : Int32)), (.ref ar107)])) rfl rfl (hb hby at_137)
    rw [own_nar8] at A12
    have N12 := Fr.snoc X12 N11 ge_ar107
    have f_13 := Arl.other f_11 W12 ne_ar10_ar107
    have Z12 : n0 ≤ h12.size := by rw [W12.size]; exact Z11
    have f_14 : Arl Z h12 ar107 .byte [(.int ((p0 &&& (255 : Int32))).toInt8.toInt32), (.int ((((p0).toUInt32 >>> ((8 : Int32) &&& 31).toUInt32).toInt32 &&& (255 : Int32))).toInt8.toInt32)] := A12
    refine Goes.go (st12) ?_
    show Goes _ _ _ _ _ _ _ (T12.setTop (mkF m 138 _ []))
    refine Goes.go (fun _ kk => XS.iloadN X12.here hx rfl (hb hby at_138) rfl kk) ?_
    show Goes _ _ _ _ _ _ _ (T12.setTop (mkF m 139 _ [(.int (2 : Int32))]))
    refine Goes.go (fun _ kk => XS.iconst X12.here hx rfl (hb hby at_139) kk) ?_
    show Goes _ _ _ _ _ _ _ (T12.setTop (mkF m 140 _ [(.int (2 : Int32)), (.int (2 : Int32))]))
    refine Goes.go (fun _ kk => XS.icmpYes X12.here hx rfl (pc0 := 140) (pc' := 152) rfl (hb hby at_140) rfl (XT.ii_le_t (by decide)) (by decide) (by decide) kk) ?_
    show Goes _ _ _ _ _ _ _ (T12.setTop (mkF m 152 _ []))
    refine Goes.go (fun _ kk => XS.iloadN X12.here hx rfl (hb hby at_152) rfl kk) ?_
    show Goes _ _ _ _ _ _ _ (T12.setTop (mkF m 153 _ [(.int (2 : Int32))]))
    refine Goes.go (fun _ kk => XS.iconst X12.here hx rfl (hb hby at_153) kk) ?_
    show Goes _ _ _ _ _ _ _ (T12.setTop (mkF m 154 _ [(.int (3 : Int32)), (.int (2 : Int32))]))
    refine Goes.go (fun _ kk => XS.icmpYes X12.here hx rfl (pc0 := 154) (pc' := 166) rfl (hb hby at_154) rfl (XT.ii_le_t (by decide)) (by decide) (by decide) kk) ?_
    show Goes _ _ _ _ _ _ _ (T12.setTop (mkF m 166 _ []))
    refine Goes.go (fun _ kk => XS.iloadN X12.here hx rfl (hb hby at_166) rfl kk) ?_
    show Goes _ _ _ _ _ _ _ (T12.setTop (mkF m 167 _ [(.int (2 : Int32))]))
    refine Goes.go (fun _ kk => XS.iconst X12.here hx rfl (hb hby at_167) kk) ?_
    show Goes _ _ _ _ _ _ _ (T12.setTop (mkF m 168 _ [(.int (4 : Int32)), (.int (2 : Int32))]))
    refine Goes.go (fun _ kk => XS.icmpYes X12.here hx rfl (pc0 := 168) (pc' := 180) rfl (hb hby at_168) rfl (XT.ii_le_t (by decide)) (by decide) (by decide) kk) ?_
    show Goes _ _ _ _ _ _ _ (T12.setTop (mkF m 180 _ []))
    refine Goes.go (fun _ kk => XS.iloadN X12.here hx rfl (hb hby at_180) rfl kk) ?_
    show Goes _ _ _ _ _ _ _ (T12.setTop (mkF m 181 _ [(.int (2 : Int32))]))
    refine Goes.go (fun _ kk => XS.iconst X12.here hx rfl (hb hby at_181) kk) ?_
    show Goes _ _ _ _ _ _ _ (T12.setTop (mkF m 182 _ [(.int (5 : Int32)), (.int (2 : Int32))]))
    refine Goes.go (fun _ kk => XS.icmpYes X12.here hx rfl (pc0 := 182) (pc' := 194) rfl (hb hby at_182) rfl (XT.ii_le_t (by decide)) (by decide) (by decide) kk) ?_
    show Goes _ _ _ _ _ _ _ (T12.setTop (mkF m 194 _ []))
    refine Goes.go (fun _ kk => XS.iloadN X12.here hx rfl (hb hby at_194) rfl kk) ?_
    show Goes _ _ _ _ _ _ _ (T12.setTop (mkF m 195 _ [(.int (2 : Int32))]))
    refine Goes.go (fun _ kk => XS.bipush X12.here hx rfl (hb hby at_195) kk) ?_
    show Goes _ _ _ _ _ _ _ (T12.setTop (mkF m 197 _ [(.int (6 : Int32)), (.int (2 : Int32))]))
    refine Goes.go (fun _ kk => XS.icmpYes X12.here hx rfl (pc0 := 197) (pc' := 211) rfl (hb hby at_197) rfl (XT.ii_le_t (by decide)) (by decide) (by decide) kk) ?_
    show Goes _ _ _ _ _ _ _ (T12.setTop (mkF m 211 _ []))
    refine Goes.go (fun _ kk => XS.iloadN X12.here hx rfl (hb hby at_211) rfl kk) ?_
    show Goes _ _ _ _ _ _ _ (T12.setTop (mkF m 212 _ [(.int (2 : Int32))]))
    refine Goes.go (fun _ kk => XS.bipush X12.here hx rfl (hb hby at_212) kk) ?_
    show Goes _ _ _ _ _ _ _ (T12.setTop (mkF m 214 _ [(.int (7 : Int32)), (.int (2 : Int32))]))
    refine Goes.go (fun _ kk => XS.icmpYes X12.here hx rfl (pc0 := 214) (pc' := 228) rfl (hb hby at_214) rfl (XT.ii_le_t (by decide)) (by decide) (by decide) kk) ?_
    show Goes _ _ _ _ _ _ _ (T12.setTop (mkF m 228 _ []))
    have hB : ∀ j, isB (gi [(p0 &&& (255 : Int32)), (((p0).toUInt32 >>> ((8 : Int32) &&& 31).toUInt32).toInt32 &&& (255 : Int32)), (((p0).toUInt32 >>> ((16 : Int32) &&& 31).toUInt32).toInt32 &&& (255 : Int32)), (((p0).toUInt32 >>> ((24 : Int32) &&& 31).toUInt32).toInt32 &&& (255 : Int32)), (p1 &&& (255 : Int32)), (((p1).toUInt32 >>> ((8 : Int32) &&& 31).toUInt32).toInt32 &&& (255 : Int32)), (((p1).toUInt32 >>> ((16 : Int32) &&& 31).toUInt32).toInt32 &&& (255 : Int32)), (((p1).toUInt32 >>> ((24 : Int32) &&& 31).toUInt32).toInt32 &&& (255 : Int32))] j) := own_hb (by intro x hx; simp only [List.mem_cons, List.not_mem_nil, or_false] at hx; rcases hx with rfl | rfl | rfl | rfl | rfl | rfl | rfl | rfl <;> exact own_m8 _)
    have XX := X12.more (Nat.le_refl _) (by decide : _ ≤ 16)
    exact seg228 hw hx hby hml hown hnm hlk hret hZ p0 p1 p2 _ _ _ 2 [(p0 &&& (255 : Int32)), (((p0).toUInt32 >>> ((8 : Int32) &&& 31).toUInt32).toInt32 &&& (255 : Int32)), (((p0).toUInt32 >>> ((16 : Int32) &&& 31).toUInt32).toInt32 &&& (255 : Int32)), (((p0).toUInt32 >>> ((24 : Int32) &&& 31).toUInt32).toInt32 &&& (255 : Int32)), (p1 &&& (255 : Int32)), (((p1).toUInt32 >>> ((8 : Int32) &&& 31).toUInt32).toInt32 &&& (255 : Int32)), (((p1).toUInt32 >>> ((16 : Int32) &&& 31).toUInt32).toInt32 &&& (255 : Int32)), (((p1).toUInt32 >>> ((24 : Int32) &&& 31).toUInt32).toInt32 &&& (255 : Int32))] 0 n0 (fun _ _ N => ⟨rfl, N⟩) Z12 XX e12 N12 f_13 f_14 rfl (by decide) (by decide) hB rfl
  · skip
    show Goes _ _ _ _ _ _ _ (T9.setTop (mkF m 106 #[.val (.int p0), .val (.int p1), .val (.int p2), .val (.int (3 : Int32)), .val (.ref ar10), .unset, .unset, .unset] []))
    refine Goes.go (fun _ kk => XS.iloadN X9.here hx rfl (hb hby at_106) rfl kk) ?_
    show Goes _ _ _ _ _ _ _ (T9.setTop (mkF m 107 _ [(.int (3 : Int32))]))
    obtain ⟨T10, h10, X10, e10, E10, A10, st10⟩ := own_newP X9 hx hZ (aty := .byte) (hw _ (List.mem_of_getElem? (i := 2) rfl)) e9 (g := (mkF m 107 #[.val (.int p0), .val (.int p1), .val (.int p2), .val (.int (3 : Int32)), .val (.ref ar10), .unset, .unset, .unset] [(.int (3 : Int32))])) rfl (hb hby at_107) rfl (n := (3 : Int32)) (by decide) (cap := 3) (by decide) (by decide) (by decide) (by decide)
    obtain ⟨ar107, gar107⟩ : ∃ z, z = h9.size := ⟨_, rfl⟩
    rw [← gar107] at A10 st10
    have ne_ar10_ar107 : ar10 ≠ ar107 := by rw [gar107]; exact Nat.ne_of_lt f_8.lt
    have f_9 := f_8.ext E10
    have Z10 : n0 ≤ h10.size := Nat.le_trans Z9 E10.1
    have ge_ar107 : n0 ≤ ar107 := Nat.le_trans Z9 (Nat.le_of_eq gar107.symm)
    have f_10 : Arl Z h10 ar107 .byte [(.int (0 : Int32)), (.int (0 : Int32)), (.int (0 : Int32))] := A10
    refine Goes.go (st10) ?_
    show Goes _ _ _ _ _ _ _ (T10.setTop (mkF m 109 _ [(.ref ar107)]))
    refine Goes.go (fun _ kk => XS.astore X10.here hx rfl (hb hby at_109) rfl rfl (l' := #[.val (.int p0), .val (.int p1), .val (.int p2), .val (.int (3 : Int32)), .val (.ref ar10), .val (.ref ar107), .unset, .unset]) rfl kk) ?_
    show Goes _ _ _ _ _ _ _ (T10.setTop (mkF m 111 #[.val (.int p0), .val (.int p1), .val (.int p2), .val (.int (3 : Int32)), .val (.ref ar10), .val (.ref ar107), .unset, .unset] []))
    refine Goes.go (fun _ kk => XS.iloadN X10.here hx rfl (hb hby at_111) rfl kk) ?_
    show Goes _ _ _ _ _ _ _ (T10.setTop (mkF m 112 _ [(.int (3 : Int32))]))
    refine Goes.go (fun _ kk => XS.ifNo X10.here hx rfl (hb hby at_112) rfl (XT.i0_le_f (by decide)) kk) ?_
    show Goes _ _ _ _ _ _ _ (T10.setTop (mkF m 115 _ []))
    refine Goes.go (fun _ kk => XS.aload X10.here hx rfl (hb hby at_115) rfl rfl kk) ?_
    show Goes _ _ _ _ _ _ _ (T10.setTop (mkF m 117 _ [(.ref ar107)]))
    refine Goes.go (fun _ kk => XS.iconst X10.here hx rfl (hb hby at_117) kk) ?_
    show Goes _ _ _ _ _ _ _ (T10.setTop (mkF m 118 _ [(.int (0 : Int32)), (.ref ar107)]))
    refine Goes.go (fun _ kk => XS.aload X10.here hx rfl (hb hby at_118) rfl rfl kk) ?_
    show Goes _ _ _ _ _ _ _ (T10.setTop (mkF m 120 _ [(.ref ar10), (.int (0 : Int32)), (.ref ar107)]))
    refine Goes.go (fun _ kk => XS.iconst X10.here hx rfl (hb hby at_120) kk) ?_
    show Goes _ _ _ _ _ _ _ (T10.setTop (mkF m 121 _ [(.int (0 : Int32)), (.ref ar10), (.int (0 : Int32)), (.ref ar107)]))
    refine Goes.go (own_ldI X10 hx hZ e10 f_9 (j := (0 : Int32)) (v := (.int (p0 &&& (255 : Int32)))) (by decide) rfl rfl rfl (hb hby at_121)) ?_
    show Goes _ _ _ _ _ _ _ (T10.setTop (mkF m 122 _ [(.int (p0 &&& (255 : Int32))), (.int (0 : Int32)), (.ref ar107)]))
    refine Goes.go (fun _ kk => XS.i2b X10.here hx rfl (hb hby at_122) rfl kk) ?_
    show Goes _ _ _ _ _ _ _ (T10.setTop (mkF m 123 _ [(.int ((p0 &&& (255 : Int32))).toInt8.toInt32), (.int (0 : Int32)), (.ref ar107)]))
    obtain ⟨T11, h11, X11, e11, W11, A11, st11⟩ := own_stB X10 hx hZ e10 f_10 (j := (0 : Int32)) (x := ((p0 &&& (255 : Int32))).toInt8.toInt32) (by decide) (show (0 : Nat) < 3 by decide) (g := (mkF m 123 #[.val (.int p0), .val (.int p1), .val (.int p2), .val (.int (3 : Int32)), .val (.ref ar10), .val (.ref ar107), .unset, .unset] [(.int ((p0 &&& (255 : Int32))).toInt8.toInt32), (.int (0 : Int32)), (.ref ar107)])) rfl rfl (hb hby at_123)
    rw [own_nar8] at A11
    have N11 := Fr.snoc X11 N9 ge_ar107
    have f_11 := Arl.other f_9 W11 ne_ar10_ar107
    have Z11 : n0 ≤ h11.size := by rw [W11.size]; exact Z10
    have f_12 : Arl Z h11 ar107 .byte [(.int ((p0 &&& (255 : Int32))).toInt8.toInt32), (.int (0 : Int32)), (.int (0 : Int32))] := A11
    refine Goes.go (st11) ?_
    show Goes _ _ _ _ _ _ _ (T11.setTop (mkF m 124 _ []))
    refine Goes.go (fun _ kk => XS.iloadN X11.here hx rfl (hb hby at_124) rfl kk) ?_
    show Goes _ _ _ _ _ _ _ (T11.setTop (mkF m 125 _ [(.int (3 : Int32))]))
    refine Goes.go (fun _ kk => XS.iconst X11.here hx rfl (hb hby at_125) kk) ?_
    show Goes _ _ _ _ _ _ _ (T11.setTop (mkF m 126 _ [(.int (1 : Int32)), (.int (3 : Int32))]))
    refine Goes.go (fun _ kk => XS.icmpNo X11.here hx rfl (hb hby at_126) rfl (XT.ii_le_f (by decide)) kk) ?_
    show Goes _ _ _ _ _ _ _ (T11.setTop (mkF m 129 _ []))
    refine Goes.go (fun _ kk => XS.aload X11.here hx rfl (hb hby at_129) rfl rfl kk) ?_
    show Goes _ _ _ _ _ _ _ (T11.setTop (mkF m 131 _ [(.ref ar107)]))
    refine Goes.go (fun _ kk => XS.iconst X11.here hx rfl (hb hby at_131) kk) ?_
    show Goes _ _ _ _ _ _ _ (T11.setTop (mkF m 132 _ [(.int (1 : Int32)), (.ref ar107)]))
    refine Goes.go (fun _ kk => XS.aload X11.here hx rfl (hb hby at_132) rfl rfl kk) ?_
    show Goes _ _ _ _ _ _ _ (T11.setTop (mkF m 134 _ [(.ref ar10), (.int (1 : Int32)), (.ref ar107)]))
    refine Goes.go (fun _ kk => XS.iconst X11.here hx rfl (hb hby at_134) kk) ?_
    show Goes _ _ _ _ _ _ _ (T11.setTop (mkF m 135 _ [(.int (1 : Int32)), (.ref ar10), (.int (1 : Int32)), (.ref ar107)]))
    refine Goes.go (own_ldI X11 hx hZ e11 f_11 (j := (1 : Int32)) (v := (.int (((p0).toUInt32 >>> ((8 : Int32) &&& 31).toUInt32).toInt32 &&& (255 : Int32)))) (by decide) rfl rfl rfl (hb hby at_135)) ?_
    show Goes _ _ _ _ _ _ _ (T11.setTop (mkF m 136 _ [(.int (((p0).toUInt32 >>> ((8 : Int32) &&& 31).toUInt32).toInt32 &&& (255 : Int32))), (.int (1 : Int32)), (.ref ar107)]))
    refine Goes.go (fun _ kk => XS.i2b X11.here hx rfl (hb hby at_136) rfl kk) ?_
    show Goes _ _ _ _ _ _ _ (T11.setTop (mkF m 137 _ [(.int ((((p0).toUInt32 >>> ((8 : Int32) &&& 31).toUInt32).toInt32 &&& (255 : Int32))).toInt8.toInt32), (.int (1 : Int32)), (.ref ar107)]))
    obtain ⟨T12, h12, X12, e12, W12, A12, st12⟩ := own_stB X11 hx hZ e11 f_12 (j := (1 : Int32)) (x := ((((p0).toUInt32 >>> ((8 : Int32) &&& 31).toUInt32).toInt32 &&& (255 : Int32))).toInt8.toInt32) (by decide) (show (1 : Nat) < 3 by decide) (g := (mkF m 137 #[.val (.int p0), .val (.int p1), .val (.int p2), .val (.int (3 : Int32)), .val (.ref ar10), .val (.ref ar107), .unset, .unset] [(.int ((((p0).toUInt32 >>> ((8 : Int32) &&& 31).toUInt32).toInt32 &&& (255 : Int32))).toInt8.toInt32), (.int (1 : Int32)), (.ref ar107)])) rfl rfl (hb hby at_137)
    rw [own_nar8] at A12
    have N12 := Fr.snoc X12 N11 ge_ar107
    have f_13 := Arl.other f_11 W12 ne_ar10_ar107
    have Z12 : n0 ≤ h12.size := by rw [W12.size]; exact Z11
    have f_14 : Arl Z h12 ar107 .byte [(.int ((p0 &&& (255 : Int32))).toInt8.toInt32), (.int ((((p0).toUInt32 >>> ((8 : Int32) &&& 31).toUInt32).toInt32 &&& (255 : Int32))).toInt8.toInt32), (.int (0 : Int32))] := A12
    refine Goes.go (st12) ?_
    show Goes _ _ _ _ _ _ _ (T12.setTop (mkF m 138 _ []))
    refine Goes.go (fun _ kk => XS.iloadN X12.here hx rfl (hb hby at_138) rfl kk) ?_
    show Goes _ _ _ _ _ _ _ (T12.setTop (mkF m 139 _ [(.int (3 : Int32))]))
    refine Goes.go (fun _ kk => XS.iconst X12.here hx rfl (hb hby at_139) kk) ?_
    show Goes _ _ _ _ _ _ _ (T12.setTop (mkF m 140 _ [(.int (2 : Int32)), (.int (3 : Int32))]))
    refine Goes.go (fun _ kk => XS.icmpNo X12.here hx rfl (hb hby at_140) rfl (XT.ii_le_f (by decide)) kk) ?_
    show Goes _ _ _ _ _ _ _ (T12.setTop (mkF m 143 _ []))
    refine Goes.go (fun _ kk => XS.aload X12.here hx rfl (hb hby at_143) rfl rfl kk) ?_
    show Goes _ _ _ _ _ _ _ (T12.setTop (mkF m 145 _ [(.ref ar107)]))
    refine Goes.go (fun _ kk => XS.iconst X12.here hx rfl (hb hby at_145) kk) ?_
    show Goes _ _ _ _ _ _ _ (T12.setTop (mkF m 146 _ [(.int (2 : Int32)), (.ref ar107)]))
    refine Goes.go (fun _ kk => XS.aload X12.here hx rfl (hb hby at_146) rfl rfl kk) ?_
    show Goes _ _ _ _ _ _ _ (T12.setTop (mkF m 148 _ [(.ref ar10), (.int (2 : Int32)), (.ref ar107)]))
    refine Goes.go (fun _ kk => XS.iconst X12.here hx rfl (hb hby at_148) kk) ?_
    show Goes _ _ _ _ _ _ _ (T12.setTop (mkF m 149 _ [(.int (2 : Int32)), (.ref ar10), (.int (2 : Int32)), (.ref ar107)]))
    refine Goes.go (own_ldI X12 hx hZ e12 f_13 (j := (2 : Int32)) (v := (.int (((p0).toUInt32 >>> ((16 : Int32) &&& 31).toUInt32).toInt32 &&& (255 : Int32)))) (by decide) rfl rfl rfl (hb hby at_149)) ?_
    show Goes _ _ _ _ _ _ _ (T12.setTop (mkF m 150 _ [(.int (((p0).toUInt32 >>> ((16 : Int32) &&& 31).toUInt32).toInt32 &&& (255 : Int32))), (.int (2 : Int32)), (.ref ar107)]))
    refine Goes.go (fun _ kk => XS.i2b X12.here hx rfl (hb hby at_150) rfl kk) ?_
    show Goes _ _ _ _ _ _ _ (T12.setTop (mkF m 151 _ [(.int ((((p0).toUInt32 >>> ((16 : Int32) &&& 31).toUInt32).toInt32 &&& (255 : Int32))).toInt8.toInt32), (.int (2 : Int32)), (.ref ar107)]))
    obtain ⟨T13, h13, X13, e13, W13, A13, st13⟩ := own_stB X12 hx hZ e12 f_14 (j := (2 : Int32)) (x := ((((p0).toUInt32 >>> ((16 : Int32) &&& 31).toUInt32).toInt32 &&& (255 : Int32))).toInt8.toInt32) (by decide) (show (2 : Nat) < 3 by decide) (g := (mkF m 151 #[.val (.int p0), .val (.int p1), .val (.int p2), .val (.int (3 : Int32)), .val (.ref ar10), .val (.ref ar107), .unset, .unset] [(.int ((((p0).toUInt32 >>> ((16 : Int32) &&& 31).toUInt32).toInt32 &&& (255 : Int32))).toInt8.toInt32), (.int (2 : Int32)), (.ref ar107)])) rfl rfl (hb hby at_151)
    rw [own_nar8] at A13
    have N13 := Fr.snoc X13 N12 ge_ar107
    have f_15 := Arl.other f_13 W13 ne_ar10_ar107
    have Z13 : n0 ≤ h13.size := by rw [W13.size]; exact Z12
    have f_16 : Arl Z h13 ar107 .byte [(.int ((p0 &&& (255 : Int32))).toInt8.toInt32), (.int ((((p0).toUInt32 >>> ((8 : Int32) &&& 31).toUInt32).toInt32 &&& (255 : Int32))).toInt8.toInt32), (.int ((((p0).toUInt32 >>> ((16 : Int32) &&& 31).toUInt32).toInt32 &&& (255 : Int32))).toInt8.toInt32)] := A13
    refine Goes.go (st13) ?_
    show Goes _ _ _ _ _ _ _ (T13.setTop (mkF m 152 _ []))
    refine Goes.go (fun _ kk => XS.iloadN X13.here hx rfl (hb hby at_152) rfl kk) ?_
    show Goes _ _ _ _ _ _ _ (T13.setTop (mkF m 153 _ [(.int (3 : Int32))]))
    refine Goes.go (fun _ kk => XS.iconst X13.here hx rfl (hb hby at_153) kk) ?_
    show Goes _ _ _ _ _ _ _ (T13.setTop (mkF m 154 _ [(.int (3 : Int32)), (.int (3 : Int32))]))
    refine Goes.go (fun _ kk => XS.icmpYes X13.here hx rfl (pc0 := 154) (pc' := 166) rfl (hb hby at_154) rfl (XT.ii_le_t (by decide)) (by decide) (by decide) kk) ?_
    show Goes _ _ _ _ _ _ _ (T13.setTop (mkF m 166 _ []))
    refine Goes.go (fun _ kk => XS.iloadN X13.here hx rfl (hb hby at_166) rfl kk) ?_
    show Goes _ _ _ _ _ _ _ (T13.setTop (mkF m 167 _ [(.int (3 : Int32))]))
    refine Goes.go (fun _ kk => XS.iconst X13.here hx rfl (hb hby at_167) kk) ?_
    show Goes _ _ _ _ _ _ _ (T13.setTop (mkF m 168 _ [(.int (4 : Int32)), (.int (3 : Int32))]))
    refine Goes.go (fun _ kk => XS.icmpYes X13.here hx rfl (pc0 := 168) (pc' := 180) rfl (hb hby at_168) rfl (XT.ii_le_t (by decide)) (by decide) (by decide) kk) ?_
    show Goes _ _ _ _ _ _ _ (T13.setTop (mkF m 180 _ []))
    refine Goes.go (fun _ kk => XS.iloadN X13.here hx rfl (hb hby at_180) rfl kk) ?_
    show Goes _ _ _ _ _ _ _ (T13.setTop (mkF m 181 _ [(.int (3 : Int32))]))
    refine Goes.go (fun _ kk => XS.iconst X13.here hx rfl (hb hby at_181) kk) ?_
    show Goes _ _ _ _ _ _ _ (T13.setTop (mkF m 182 _ [(.int (5 : Int32)), (.int (3 : Int32))]))
    refine Goes.go (fun _ kk => XS.icmpYes X13.here hx rfl (pc0 := 182) (pc' := 194) rfl (hb hby at_182) rfl (XT.ii_le_t (by decide)) (by decide) (by decide) kk) ?_
    show Goes _ _ _ _ _ _ _ (T13.setTop (mkF m 194 _ []))
    refine Goes.go (fun _ kk => XS.iloadN X13.here hx rfl (hb hby at_194) rfl kk) ?_
    show Goes _ _ _ _ _ _ _ (T13.setTop (mkF m 195 _ [(.int (3 : Int32))]))
    refine Goes.go (fun _ kk => XS.bipush X13.here hx rfl (hb hby at_195) kk) ?_
    show Goes _ _ _ _ _ _ _ (T13.setTop (mkF m 197 _ [(.int (6 : Int32)), (.int (3 : Int32))]))
    refine Goes.go (fun _ kk => XS.icmpYes X13.here hx rfl (pc0 := 197) (pc' := 211) rfl (hb hby at_197) rfl (XT.ii_le_t (by decide)) (by decide) (by decide) kk) ?_
    show Goes _ _ _ _ _ _ _ (T13.setTop (mkF m 211 _ []))
    refine Goes.go (fun _ kk => XS.iloadN X13.here hx rfl (hb hby at_211) rfl kk) ?_
    show Goes _ _ _ _ _ _ _ (T13.setTop (mkF m 212 _ [(.int (3 : Int32))]))
    refine Goes.go (fun _ kk => XS.bipush X13.here hx rfl (hb hby at_212) kk) ?_
    show Goes _ _ _ _ _ _ _ (T13.setTop (mkF m 214 _ [(.int (7 : Int32)), (.int (3 : Int32))]))
    refine Goes.go (fun _ kk => XS.icmpYes X13.here hx rfl (pc0 := 214) (pc' := 228) rfl (hb hby at_214) rfl (XT.ii_le_t (by decide)) (by decide) (by decide) kk) ?_
    show Goes _ _ _ _ _ _ _ (T13.setTop (mkF m 228 _ []))
    have hB : ∀ j, isB (gi [(p0 &&& (255 : Int32)), (((p0).toUInt32 >>> ((8 : Int32) &&& 31).toUInt32).toInt32 &&& (255 : Int32)), (((p0).toUInt32 >>> ((16 : Int32) &&& 31).toUInt32).toInt32 &&& (255 : Int32)), (((p0).toUInt32 >>> ((24 : Int32) &&& 31).toUInt32).toInt32 &&& (255 : Int32)), (p1 &&& (255 : Int32)), (((p1).toUInt32 >>> ((8 : Int32) &&& 31).toUInt32).toInt32 &&& (255 : Int32)), (((p1).toUInt32 >>> ((16 : Int32) &&& 31).toUInt32).toInt32 &&& (255 : Int32)), (((p1).toUInt32 >>> ((24 : Int32) &&& 31).toUInt32).toInt32 &&& (255 : Int32))] j) := own_hb (by intro x hx; simp only [List.mem_cons, List.not_mem_nil, or_false] at hx; rcases hx with rfl | rfl | rfl | rfl | rfl | rfl | rfl | rfl <;> exact own_m8 _)
    have XX := X13.more (Nat.le_refl _) (by decide : _ ≤ 16)
    exact seg228 hw hx hby hml hown hnm hlk hret hZ p0 p1 p2 _ _ _ 3 [(p0 &&& (255 : Int32)), (((p0).toUInt32 >>> ((8 : Int32) &&& 31).toUInt32).toInt32 &&& (255 : Int32)), (((p0).toUInt32 >>> ((16 : Int32) &&& 31).toUInt32).toInt32 &&& (255 : Int32)), (((p0).toUInt32 >>> ((24 : Int32) &&& 31).toUInt32).toInt32 &&& (255 : Int32)), (p1 &&& (255 : Int32)), (((p1).toUInt32 >>> ((8 : Int32) &&& 31).toUInt32).toInt32 &&& (255 : Int32)), (((p1).toUInt32 >>> ((16 : Int32) &&& 31).toUInt32).toInt32 &&& (255 : Int32)), (((p1).toUInt32 >>> ((24 : Int32) &&& 31).toUInt32).toInt32 &&& (255 : Int32))] 0 n0 (fun _ _ N => ⟨rfl, N⟩) Z13 XX e13 N13 f_15 f_16 rfl (by decide) (by decide) hB rfl
  · skip
    show Goes _ _ _ _ _ _ _ (T9.setTop (mkF m 106 #[.val (.int p0), .val (.int p1), .val (.int p2), .val (.int (4 : Int32)), .val (.ref ar10), .unset, .unset, .unset] []))
    refine Goes.go (fun _ kk => XS.iloadN X9.here hx rfl (hb hby at_106) rfl kk) ?_
    show Goes _ _ _ _ _ _ _ (T9.setTop (mkF m 107 _ [(.int (4 : Int32))]))
    obtain ⟨T10, h10, X10, e10, E10, A10, st10⟩ := own_newP X9 hx hZ (aty := .byte) (hw _ (List.mem_of_getElem? (i := 2) rfl)) e9 (g := (mkF m 107 #[.val (.int p0), .val (.int p1), .val (.int p2), .val (.int (4 : Int32)), .val (.ref ar10), .unset, .unset, .unset] [(.int (4 : Int32))])) rfl (hb hby at_107) rfl (n := (4 : Int32)) (by decide) (cap := 4) (by decide) (by decide) (by decide) (by decide)
    obtain ⟨ar107, gar107⟩ : ∃ z, z = h9.size := ⟨_, rfl⟩
    rw [← gar107] at A10 st10
    have ne_ar10_ar107 : ar10 ≠ ar107 := by rw [gar107]; exact Nat.ne_of_lt f_8.lt
    have f_9 := f_8.ext E10
    have Z10 : n0 ≤ h10.size := Nat.le_trans Z9 E10.1
    have ge_ar107 : n0 ≤ ar107 := Nat.le_trans Z9 (Nat.le_of_eq gar107.symm)
    have f_10 : Arl Z h10 ar107 .byte [(.int (0 : Int32)), (.int (0 : Int32)), (.int (0 : Int32)), (.int (0 : Int32))] := A10
    refine Goes.go (st10) ?_
    show Goes _ _ _ _ _ _ _ (T10.setTop (mkF m 109 _ [(.ref ar107)]))
    refine Goes.go (fun _ kk => XS.astore X10.here hx rfl (hb hby at_109) rfl rfl (l' := #[.val (.int p0), .val (.int p1), .val (.int p2), .val (.int (4 : Int32)), .val (.ref ar10), .val (.ref ar107), .unset, .unset]) rfl kk) ?_
    show Goes _ _ _ _ _ _ _ (T10.setTop (mkF m 111 #[.val (.int p0), .val (.int p1), .val (.int p2), .val (.int (4 : Int32)), .val (.ref ar10), .val (.ref ar107), .unset, .unset] []))
    refine Goes.go (fun _ kk => XS.iloadN X10.here hx rfl (hb hby at_111) rfl kk) ?_
    show Goes _ _ _ _ _ _ _ (T10.setTop (mkF m 112 _ [(.int (4 : Int32))]))
    refine Goes.go (fun _ kk => XS.ifNo X10.here hx rfl (hb hby at_112) rfl (XT.i0_le_f (by decide)) kk) ?_
    show Goes _ _ _ _ _ _ _ (T10.setTop (mkF m 115 _ []))
    refine Goes.go (fun _ kk => XS.aload X10.here hx rfl (hb hby at_115) rfl rfl kk) ?_
    show Goes _ _ _ _ _ _ _ (T10.setTop (mkF m 117 _ [(.ref ar107)]))
    refine Goes.go (fun _ kk => XS.iconst X10.here hx rfl (hb hby at_117) kk) ?_
    show Goes _ _ _ _ _ _ _ (T10.setTop (mkF m 118 _ [(.int (0 : Int32)), (.ref ar107)]))
    refine Goes.go (fun _ kk => XS.aload X10.here hx rfl (hb hby at_118) rfl rfl kk) ?_
    show Goes _ _ _ _ _ _ _ (T10.setTop (mkF m 120 _ [(.ref ar10), (.int (0 : Int32)), (.ref ar107)]))
    refine Goes.go (fun _ kk => XS.iconst X10.here hx rfl (hb hby at_120) kk) ?_
    show Goes _ _ _ _ _ _ _ (T10.setTop (mkF m 121 _ [(.int (0 : Int32)), (.ref ar10), (.int (0 : Int32)), (.ref ar107)]))
    refine Goes.go (own_ldI X10 hx hZ e10 f_9 (j := (0 : Int32)) (v := (.int (p0 &&& (255 : Int32)))) (by decide) rfl rfl rfl (hb hby at_121)) ?_
    show Goes _ _ _ _ _ _ _ (T10.setTop (mkF m 122 _ [(.int (p0 &&& (255 : Int32))), (.int (0 : Int32)), (.ref ar107)]))
    refine Goes.go (fun _ kk => XS.i2b X10.here hx rfl (hb hby at_122) rfl kk) ?_
    show Goes _ _ _ _ _ _ _ (T10.setTop (mkF m 123 _ [(.int ((p0 &&& (255 : Int32))).toInt8.toInt32), (.int (0 : Int32)), (.ref ar107)]))
    obtain ⟨T11, h11, X11, e11, W11, A11, st11⟩ := own_stB X10 hx hZ e10 f_10 (j := (0 : Int32)) (x := ((p0 &&& (255 : Int32))).toInt8.toInt32) (by decide) (show (0 : Nat) < 4 by decide) (g := (mkF m 123 #[.val (.int p0), .val (.int p1), .val (.int p2), .val (.int (4 : Int32)), .val (.ref ar10), .val (.ref ar107), .unset, .unset] [(.int ((p0 &&& (255 : Int32))).toInt8.toInt32), (.int (0 : Int32)), (.ref ar107)])) rfl rfl (hb hby at_123)
    rw [own_nar8] at A11
    have N11 := Fr.snoc X11 N9 ge_ar107
    have f_11 := Arl.other f_9 W11 ne_ar10_ar107
    have Z11 : n0 ≤ h11.size := by rw [W11.size]; exact Z10
    have f_12 : Arl Z h11 ar107 .byte [(.int ((p0 &&& (255 : Int32))).toInt8.toInt32), (.int (0 : Int32)), (.int (0 : Int32)), (.int (0 : Int32))] := A11
    refine Goes.go (st11) ?_
    show Goes _ _ _ _ _ _ _ (T11.setTop (mkF m 124 _ []))
    refine Goes.go (fun _ kk => XS.iloadN X11.here hx rfl (hb hby at_124) rfl kk) ?_
    show Goes _ _ _ _ _ _ _ (T11.setTop (mkF m 125 _ [(.int (4 : Int32))]))
    refine Goes.go (fun _ kk => XS.iconst X11.here hx rfl (hb hby at_125) kk) ?_
    show Goes _ _ _ _ _ _ _ (T11.setTop (mkF m 126 _ [(.int (1 : Int32)), (.int (4 : Int32))]))
    refine Goes.go (fun _ kk => XS.icmpNo X11.here hx rfl (hb hby at_126) rfl (XT.ii_le_f (by decide)) kk) ?_
    show Goes _ _ _ _ _ _ _ (T11.setTop (mkF m 129 _ []))
    refine Goes.go (fun _ kk => XS.aload X11.here hx rfl (hb hby at_129) rfl rfl kk) ?_
    show Goes _ _ _ _ _ _ _ (T11.setTop (mkF m 131 _ [(.ref ar107)]))
    refine Goes.go (fun _ kk => XS.iconst X11.here hx rfl (hb hby at_131) kk) ?_
    show Goes _ _ _ _ _ _ _ (T11.setTop (mkF m 132 _ [(.int (1 : Int32)), (.ref ar107)]))
    refine Goes.go (fun _ kk => XS.aload X11.here hx rfl (hb hby at_132) rfl rfl kk) ?_
    show Goes _ _ _ _ _ _ _ (T11.setTop (mkF m 134 _ [(.ref ar10), (.int (1 : Int32)), (.ref ar107)]))
    refine Goes.go (fun _ kk => XS.iconst X11.here hx rfl (hb hby at_134) kk) ?_
    show Goes _ _ _ _ _ _ _ (T11.setTop (mkF m 135 _ [(.int (1 : Int32)), (.ref ar10), (.int (1 : Int32)), (.ref ar107)]))
    refine Goes.go (own_ldI X11 hx hZ e11 f_11 (j := (1 : Int32)) (v := (.int (((p0).toUInt32 >>> ((8 : Int32) &&& 31).toUInt32).toInt32 &&& (255 : Int32)))) (by decide) rfl rfl rfl (hb hby at_135)) ?_
    show Goes _ _ _ _ _ _ _ (T11.setTop (mkF m 136 _ [(.int (((p0).toUInt32 >>> ((8 : Int32) &&& 31).toUInt32).toInt32 &&& (255 : Int32))), (.int (1 : Int32)), (.ref ar107)]))
    refine Goes.go (fun _ kk => XS.i2b X11.here hx rfl (hb hby at_136) rfl kk) ?_
    show Goes _ _ _ _ _ _ _ (T11.setTop (mkF m 137 _ [(.int ((((p0).toUInt32 >>> ((8 : Int32) &&& 31).toUInt32).toInt32 &&& (255 : Int32))).toInt8.toInt32), (.int (1 : Int32)), (.ref ar107)]))
    obtain ⟨T12, h12, X12, e12, W12, A12, st12⟩ := own_stB X11 hx hZ e11 f_12 (j := (1 : Int32)) (x := ((((p0).toUInt32 >>> ((8 : Int32) &&& 31).toUInt32).toInt32 &&& (255 : Int32))).toInt8.toInt32) (by decide) (show (1 : Nat) < 4 by decide) (g := (mkF m 137 #[.val (.int p0), .val (.int p1), .val (.int p2), .val (.int (4 : Int32)), .val (.ref ar10), .val (.ref ar107), .unset, .unset] [(.int ((((p0).toUInt32 >>> ((8 : Int32) &&& 31).toUInt32).toInt32 &&& (255 : Int32))).toInt8.toInt32), (.int (1 : Int32)), (.ref ar107)])) rfl rfl (hb hby at_137)
    rw [own_nar8] at A12
    have N12 := Fr.snoc X12 N11 ge_ar107
    have f_13 := Arl.other f_11 W12 ne_ar10_ar107
    have Z12 : n0 ≤ h12.size := by rw [W12.size]; exact Z11
    have f_14 : Arl Z h12 ar107 .byte [(.int ((p0 &&& (255 : Int32))).toInt8.toInt32), (.int ((((p0).toUInt32 >>> ((8 : Int32) &&& 31).toUInt32).toInt32 &&& (255 : Int32))).toInt8.toInt32), (.int (0 : Int32)), (.int (0 : Int32))] := A12
    refine Goes.go (st12) ?_
    show Goes _ _ _ _ _ _ _ (T12.setTop (mkF m 138 _ []))
    refine Goes.go (fun _ kk => XS.iloadN X12.here hx rfl (hb hby at_138) rfl kk) ?_
    show Goes _ _ _ _ _ _ _ (T12.setTop (mkF m 139 _ [(.int (4 : Int32))]))
    refine Goes.go (fun _ kk => XS.iconst X12.here hx rfl (hb hby at_139) kk) ?_
    show Goes _ _ _ _ _ _ _ (T12.setTop (mkF m 140 _ [(.int (2 : Int32)), (.int (4 : Int32))]))
    refine Goes.go (fun _ kk => XS.icmpNo X12.here hx rfl (hb hby at_140) rfl (XT.ii_le_f (by decide)) kk) ?_
    show Goes _ _ _ _ _ _ _ (T12.setTop (mkF m 143 _ []))
    refine Goes.go (fun _ kk => XS.aload X12.here hx rfl (hb hby at_143) rfl rfl kk) ?_
    show Goes _ _ _ _ _ _ _ (T12.setTop (mkF m 145 _ [(.ref ar107)]))
    refine Goes.go (fun _ kk => XS.iconst X12.here hx rfl (hb hby at_145) kk) ?_
    show Goes _ _ _ _ _ _ _ (T12.setTop (mkF m 146 _ [(.int (2 : Int32)), (.ref ar107)]))
    refine Goes.go (fun _ kk => XS.aload X12.here hx rfl (hb hby at_146) rfl rfl kk) ?_
    show Goes _ _ _ _ _ _ _ (T12.setTop (mkF m 148 _ [(.ref ar10), (.int (2 : Int32)), (.ref ar107)]))
    refine Goes.go (fun _ kk => XS.iconst X12.here hx rfl (hb hby at_148) kk) ?_
    show Goes _ _ _ _ _ _ _ (T12.setTop (mkF m 149 _ [(.int (2 : Int32)), (.ref ar10), (.int (2 : Int32)), (.ref ar107)]))
    refine Goes.go (own_ldI X12 hx hZ e12 f_13 (j := (2 : Int32)) (v := (.int (((p0).toUInt32 >>> ((16 : Int32) &&& 31).toUInt32).toInt32 &&& (255 : Int32)))) (by decide) rfl rfl rfl (hb hby at_149)) ?_
    show Goes _ _ _ _ _ _ _ (T12.setTop (mkF m 150 _ [(.int (((p0).toUInt32 >>> ((16 : Int32) &&& 31).toUInt32).toInt32 &&& (255 : Int32))), (.int (2 : Int32)), (.ref ar107)]))
    refine Goes.go (fun _ kk => XS.i2b X12.here hx rfl (hb hby at_150) rfl kk) ?_
    show Goes _ _ _ _ _ _ _ (T12.setTop (mkF m 151 _ [(.int ((((p0).toUInt32 >>> ((16 : Int32) &&& 31).toUInt32).toInt32 &&& (255 : Int32))).toInt8.toInt32), (.int (2 : Int32)), (.ref ar107)]))
    obtain ⟨T13, h13, X13, e13, W13, A13, st13⟩ := own_stB X12 hx hZ e12 f_14 (j := (2 : Int32)) (x := ((((p0).toUInt32 >>> ((16 : Int32) &&& 31).toUInt32).toInt32 &&& (255 : Int32))).toInt8.toInt32) (by decide) (show (2 : Nat) < 4 by decide) (g := (mkF m 151 #[.val (.int p0), .val (.int p1), .val (.int p2), .val (.int (4 : Int32)), .val (.ref ar10), .val (.ref ar107), .unset, .unset] [(.int ((((p0).toUInt32 >>> ((16 : Int32) &&& 31).toUInt32).toInt32 &&& (255 : Int32))).toInt8.toInt32), (.int (2 : Int32)), (.ref ar107)])) rfl rfl (hb hby at_151)
    rw [own_nar8] at A13
    have N13 := Fr.snoc X13 N12 ge_ar107
    have f_15 := Arl.other f_13 W13 ne_ar10_ar107
    have Z13 : n0 ≤ h13.size := by rw [W13.size]; exact Z12
    have f_16 : Arl Z h13 ar107 .byte [(.int ((p0 &&& (255 : Int32))).toInt8.toInt32), (.int ((((p0).toUInt32 >>> ((8 : Int32) &&& 31).toUInt32).toInt32 &&& (255 : Int32))).toInt8.toInt32), (.int ((((p0).toUInt32 >>> ((16 : Int32) &&& 31).toUInt32).toInt32 &&& (255 : Int32))).toInt8.toInt32), (.int (0 : Int32))] := A13
    refine Goes.go (st13) ?_
    show Goes _ _ _ _ _ _ _ (T13.setTop (mkF m 152 _ []))
    refine Goes.go (fun _ kk => XS.iloadN X13.here hx rfl (hb hby at_152) rfl kk) ?_
    show Goes _ _ _ _ _ _ _ (T13.setTop (mkF m 153 _ [(.int (4 : Int32))]))
    refine Goes.go (fun _ kk => XS.iconst X13.here hx rfl (hb hby at_153) kk) ?_
    show Goes _ _ _ _ _ _ _ (T13.setTop (mkF m 154 _ [(.int (3 : Int32)), (.int (4 : Int32))]))
    refine Goes.go (fun _ kk => XS.icmpNo X13.here hx rfl (hb hby at_154) rfl (XT.ii_le_f (by decide)) kk) ?_
    show Goes _ _ _ _ _ _ _ (T13.setTop (mkF m 157 _ []))
    refine Goes.go (fun _ kk => XS.aload X13.here hx rfl (hb hby at_157) rfl rfl kk) ?_
    show Goes _ _ _ _ _ _ _ (T13.setTop (mkF m 159 _ [(.ref ar107)]))
    refine Goes.go (fun _ kk => XS.iconst X13.here hx rfl (hb hby at_159) kk) ?_
    show Goes _ _ _ _ _ _ _ (T13.setTop (mkF m 160 _ [(.int (3 : Int32)), (.ref ar107)]))
    refine Goes.go (fun _ kk => XS.aload X13.here hx rfl (hb hby at_160) rfl rfl kk) ?_
    show Goes _ _ _ _ _ _ _ (T13.setTop (mkF m 162 _ [(.ref ar10), (.int (3 : Int32)), (.ref ar107)]))
    refine Goes.go (fun _ kk => XS.iconst X13.here hx rfl (hb hby at_162) kk) ?_
    show Goes _ _ _ _ _ _ _ (T13.setTop (mkF m 163 _ [(.int (3 : Int32)), (.ref ar10), (.int (3 : Int32)), (.ref ar107)]))
    refine Goes.go (own_ldI X13 hx hZ e13 f_15 (j := (3 : Int32)) (v := (.int (((p0).toUInt32 >>> ((24 : Int32) &&& 31).toUInt32).toInt32 &&& (255 : Int32)))) (by decide) rfl rfl rfl (hb hby at_163)) ?_
    show Goes _ _ _ _ _ _ _ (T13.setTop (mkF m 164 _ [(.int (((p0).toUInt32 >>> ((24 : Int32) &&& 31).toUInt32).toInt32 &&& (255 : Int32))), (.int (3 : Int32)), (.ref ar107)]))
    refine Goes.go (fun _ kk => XS.i2b X13.here hx rfl (hb hby at_164) rfl kk) ?_
    show Goes _ _ _ _ _ _ _ (T13.setTop (mkF m 165 _ [(.int ((((p0).toUInt32 >>> ((24 : Int32) &&& 31).toUInt32).toInt32 &&& (255 : Int32))).toInt8.toInt32), (.int (3 : Int32)), (.ref ar107)]))
    obtain ⟨T14, h14, X14, e14, W14, A14, st14⟩ := own_stB X13 hx hZ e13 f_16 (j := (3 : Int32)) (x := ((((p0).toUInt32 >>> ((24 : Int32) &&& 31).toUInt32).toInt32 &&& (255 : Int32))).toInt8.toInt32) (by decide) (show (3 : Nat) < 4 by decide) (g := (mkF m 165 #[.val (.int p0), .val (.int p1), .val (.int p2), .val (.int (4 : Int32)), .val (.ref ar10), .val (.ref ar107), .unset, .unset] [(.int ((((p0).toUInt32 >>> ((24 : Int32) &&& 31).toUInt32).toInt32 &&& (255 : Int32))).toInt8.toInt32), (.int (3 : Int32)), (.ref ar107)])) rfl rfl (hb hby at_165)
    rw [own_nar8] at A14
    have N14 := Fr.snoc X14 N13 ge_ar107
    have f_17 := Arl.other f_15 W14 ne_ar10_ar107
    have Z14 : n0 ≤ h14.size := by rw [W14.size]; exact Z13
    have f_18 : Arl Z h14 ar107 .byte [(.int ((p0 &&& (255 : Int32))).toInt8.toInt32), (.int ((((p0).toUInt32 >>> ((8 : Int32) &&& 31).toUInt32).toInt32 &&& (255 : Int32))).toInt8.toInt32), (.int ((((p0).toUInt32 >>> ((16 : Int32) &&& 31).toUInt32).toInt32 &&& (255 : Int32))).toInt8.toInt32), (.int ((((p0).toUInt32 >>> ((24 : Int32) &&& 31).toUInt32).toInt32 &&& (255 : Int32))).toInt8.toInt32)] := A14
    refine Goes.go (st14) ?_
    show Goes _ _ _ _ _ _ _ (T14.setTop (mkF m 166 _ []))
    refine Goes.go (fun _ kk => XS.iloadN X14.here hx rfl (hb hby at_166) rfl kk) ?_
    show Goes _ _ _ _ _ _ _ (T14.setTop (mkF m 167 _ [(.int (4 : Int32))]))
    refine Goes.go (fun _ kk => XS.iconst X14.here hx rfl (hb hby at_167) kk) ?_
    show Goes _ _ _ _ _ _ _ (T14.setTop (mkF m 168 _ [(.int (4 : Int32)), (.int (4 : Int32))]))
    refine Goes.go (fun _ kk => XS.icmpYes X14.here hx rfl (pc0 := 168) (pc' := 180) rfl (hb hby at_168) rfl (XT.ii_le_t (by decide)) (by decide) (by decide) kk) ?_
    show Goes _ _ _ _ _ _ _ (T14.setTop (mkF m 180 _ []))
    refine Goes.go (fun _ kk => XS.iloadN X14.here hx rfl (hb hby at_180) rfl kk) ?_
    show Goes _ _ _ _ _ _ _ (T14.setTop (mkF m 181 _ [(.int (4 : Int32))]))
    refine Goes.go (fun _ kk => XS.iconst X14.here hx rfl (hb hby at_181) kk) ?_
    show Goes _ _ _ _ _ _ _ (T14.setTop (mkF m 182 _ [(.int (5 : Int32)), (.int (4 : Int32))]))
    refine Goes.go (fun _ kk => XS.icmpYes X14.here hx rfl (pc0 := 182) (pc' := 194) rfl (hb hby at_182) rfl (XT.ii_le_t (by decide)) (by decide) (by decide) kk) ?_
    show Goes _ _ _ _ _ _ _ (T14.setTop (mkF m 194 _ []))
    refine Goes.go (fun _ kk => XS.iloadN X14.here hx rfl (hb hby at_194) rfl kk) ?_
    show Goes _ _ _ _ _ _ _ (T14.setTop (mkF m 195 _ [(.int (4 : Int32))]))
    refine Goes.go (fun _ kk => XS.bipush X14.here hx rfl (hb hby at_195) kk) ?_
    show Goes _ _ _ _ _ _ _ (T14.setTop (mkF m 197 _ [(.int (6 : Int32)), (.int (4 : Int32))]))
    refine Goes.go (fun _ kk => XS.icmpYes X14.here hx rfl (pc0 := 197) (pc' := 211) rfl (hb hby at_197) rfl (XT.ii_le_t (by decide)) (by decide) (by decide) kk) ?_
    show Goes _ _ _ _ _ _ _ (T14.setTop (mkF m 211 _ []))
    refine Goes.go (fun _ kk => XS.iloadN X14.here hx rfl (hb hby at_211) rfl kk) ?_
    show Goes _ _ _ _ _ _ _ (T14.setTop (mkF m 212 _ [(.int (4 : Int32))]))
    refine Goes.go (fun _ kk => XS.bipush X14.here hx rfl (hb hby at_212) kk) ?_
    show Goes _ _ _ _ _ _ _ (T14.setTop (mkF m 214 _ [(.int (7 : Int32)), (.int (4 : Int32))]))
    refine Goes.go (fun _ kk => XS.icmpYes X14.here hx rfl (pc0 := 214) (pc' := 228) rfl (hb hby at_214) rfl (XT.ii_le_t (by decide)) (by decide) (by decide) kk) ?_
    show Goes _ _ _ _ _ _ _ (T14.setTop (mkF m 228 _ []))
    have hB : ∀ j, isB (gi [(p0 &&& (255 : Int32)), (((p0).toUInt32 >>> ((8 : Int32) &&& 31).toUInt32).toInt32 &&& (255 : Int32)), (((p0).toUInt32 >>> ((16 : Int32) &&& 31).toUInt32).toInt32 &&& (255 : Int32)), (((p0).toUInt32 >>> ((24 : Int32) &&& 31).toUInt32).toInt32 &&& (255 : Int32)), (p1 &&& (255 : Int32)), (((p1).toUInt32 >>> ((8 : Int32) &&& 31).toUInt32).toInt32 &&& (255 : Int32)), (((p1).toUInt32 >>> ((16 : Int32) &&& 31).toUInt32).toInt32 &&& (255 : Int32)), (((p1).toUInt32 >>> ((24 : Int32) &&& 31).toUInt32).toInt32 &&& (255 : Int32))] j) := own_hb (by intro x hx; simp only [List.mem_cons, List.not_mem_nil, or_false] at hx; rcases hx with rfl | rfl | rfl | rfl | rfl | rfl | rfl | rfl <;> exact own_m8 _)
    have XX := X14.more (Nat.le_refl _) (by decide : _ ≤ 16)
    exact seg228 hw hx hby hml hown hnm hlk hret hZ p0 p1 p2 _ _ _ 4 [(p0 &&& (255 : Int32)), (((p0).toUInt32 >>> ((8 : Int32) &&& 31).toUInt32).toInt32 &&& (255 : Int32)), (((p0).toUInt32 >>> ((16 : Int32) &&& 31).toUInt32).toInt32 &&& (255 : Int32)), (((p0).toUInt32 >>> ((24 : Int32) &&& 31).toUInt32).toInt32 &&& (255 : Int32)), (p1 &&& (255 : Int32)), (((p1).toUInt32 >>> ((8 : Int32) &&& 31).toUInt32).toInt32 &&& (255 : Int32)), (((p1).toUInt32 >>> ((16 : Int32) &&& 31).toUInt32).toInt32 &&& (255 : Int32)), (((p1).toUInt32 >>> ((24 : Int32) &&& 31).toUInt32).toInt32 &&& (255 : Int32))] 0 n0 (fun _ _ N => ⟨rfl, N⟩) Z14 XX e14 N14 f_17 f_18 rfl (by decide) (by decide) hB rfl
  · skip
    show Goes _ _ _ _ _ _ _ (T9.setTop (mkF m 106 #[.val (.int p0), .val (.int p1), .val (.int p2), .val (.int (5 : Int32)), .val (.ref ar10), .unset, .unset, .unset] []))
    refine Goes.go (fun _ kk => XS.iloadN X9.here hx rfl (hb hby at_106) rfl kk) ?_
    show Goes _ _ _ _ _ _ _ (T9.setTop (mkF m 107 _ [(.int (5 : Int32))]))
    obtain ⟨T10, h10, X10, e10, E10, A10, st10⟩ := own_newP X9 hx hZ (aty := .byte) (hw _ (List.mem_of_getElem? (i := 2) rfl)) e9 (g := (mkF m 107 #[.val (.int p0), .val (.int p1), .val (.int p2), .val (.int (5 : Int32)), .val (.ref ar10), .unset, .unset, .unset] [(.int (5 : Int32))])) rfl (hb hby at_107) rfl (n := (5 : Int32)) (by decide) (cap := 5) (by decide) (by decide) (by decide) (by decide)
    obtain ⟨ar107, gar107⟩ : ∃ z, z = h9.size := ⟨_, rfl⟩
    rw [← gar107] at A10 st10
    have ne_ar10_ar107 : ar10 ≠ ar107 := by rw [gar107]; exact Nat.ne_of_lt f_8.lt
    have f_9 := f_8.ext E10
    have Z10 : n0 ≤ h10.size := Nat.le_trans Z9 E10.1
    have ge_ar107 : n0 ≤ ar107 := Nat.le_trans Z9 (Nat.le_of_eq gar107.symm)
    have f_10 : Arl Z h10 ar107 .byte [(.int (0 : Int32)), (.int (0 : Int32)), (.int (0 : Int32)), (.int (0 : Int32)), (.int (0 : Int32))] := A10
    refine Goes.go (st10) ?_
    show Goes _ _ _ _ _ _ _ (T10.setTop (mkF m 109 _ [(.ref ar107)]))
    refine Goes.go (fun _ kk => XS.astore X10.here hx rfl (hb hby at_109) rfl rfl (l' := #[.val (.int p0), .val (.int p1), .val (.int p2), .val (.int (5 : Int32)), .val (.ref ar10), .val (.ref ar107), .unset, .unset]) rfl kk) ?_
    show Goes _ _ _ _ _ _ _ (T10.setTop (mkF m 111 #[.val (.int p0), .val (.int p1), .val (.int p2), .val (.int (5 : Int32)), .val (.ref ar10), .val (.ref ar107), .unset, .unset] []))
    refine Goes.go (fun _ kk => XS.iloadN X10.here hx rfl (hb hby at_111) rfl kk) ?_
    show Goes _ _ _ _ _ _ _ (T10.setTop (mkF m 112 _ [(.int (5 : Int32))]))
    refine Goes.go (fun _ kk => XS.ifNo X10.here hx rfl (hb hby at_112) rfl (XT.i0_le_f (by decide)) kk) ?_
    show Goes _ _ _ _ _ _ _ (T10.setTop (mkF m 115 _ []))
    refine Goes.go (fun _ kk => XS.aload X10.here hx rfl (hb hby at_115) rfl rfl kk) ?_
    show Goes _ _ _ _ _ _ _ (T10.setTop (mkF m 117 _ [(.ref ar107)]))
    refine Goes.go (fun _ kk => XS.iconst X10.here hx rfl (hb hby at_117) kk) ?_
    show Goes _ _ _ _ _ _ _ (T10.setTop (mkF m 118 _ [(.int (0 : Int32)), (.ref ar107)]))
    refine Goes.go (fun _ kk => XS.aload X10.here hx rfl (hb hby at_118) rfl rfl kk) ?_
    show Goes _ _ _ _ _ _ _ (T10.setTop (mkF m 120 _ [(.ref ar10), (.int (0 : Int32)), (.ref ar107)]))
    refine Goes.go (fun _ kk => XS.iconst X10.here hx rfl (hb hby at_120) kk) ?_
    show Goes _ _ _ _ _ _ _ (T10.setTop (mkF m 121 _ [(.int (0 : Int32)), (.ref ar10), (.int (0 : Int32)), (.ref ar107)]))
    refine Goes.go (own_ldI X10 hx hZ e10 f_9 (j := (0 : Int32)) (v := (.int (p0 &&& (255 : Int32)))) (by decide) rfl rfl rfl (hb hby at_121)) ?_
    show Goes _ _ _ _ _ _ _ (T10.setTop (mkF m 122 _ [(.int (p0 &&& (255 : Int32))), (.int (0 : Int32)), (.ref ar107)]))
    refine Goes.go (fun _ kk => XS.i2b X10.here hx rfl (hb hby at_122) rfl kk) ?_
    show Goes _ _ _ _ _ _ _ (T10.setTop (mkF m 123 _ [(.int ((p0 &&& (255 : Int32))).toInt8.toInt32), (.int (0 : Int32)), (.ref ar107)]))
    obtain ⟨T11, h11, X11, e11, W11, A11, st11⟩ := own_stB X10 hx hZ e10 f_10 (j := (0 : Int32)) (x := ((p0 &&& (255 : Int32))).toInt8.toInt32) (by decide) (show (0 : Nat) < 5 by decide) (g := (mkF m 123 #[.val (.int p0), .val (.int p1), .val (.int p2), .val (.int (5 : Int32)), .val (.ref ar10), .val (.ref ar107), .unset, .unset] [(.int ((p0 &&& (255 : Int32))).toInt8.toInt32), (.int (0 : Int32)), (.ref ar107)])) rfl rfl (hb hby at_123)
    rw [own_nar8] at A11
    have N11 := Fr.snoc X11 N9 ge_ar107
    have f_11 := Arl.other f_9 W11 ne_ar10_ar107
    have Z11 : n0 ≤ h11.size := by rw [W11.size]; exact Z10
    have f_12 : Arl Z h11 ar107 .byte [(.int ((p0 &&& (255 : Int32))).toInt8.toInt32), (.int (0 : Int32)), (.int (0 : Int32)), (.int (0 : Int32)), (.int (0 : Int32))] := A11
    refine Goes.go (st11) ?_
    show Goes _ _ _ _ _ _ _ (T11.setTop (mkF m 124 _ []))
    refine Goes.go (fun _ kk => XS.iloadN X11.here hx rfl (hb hby at_124) rfl kk) ?_
    show Goes _ _ _ _ _ _ _ (T11.setTop (mkF m 125 _ [(.int (5 : Int32))]))
    refine Goes.go (fun _ kk => XS.iconst X11.here hx rfl (hb hby at_125) kk) ?_
    show Goes _ _ _ _ _ _ _ (T11.setTop (mkF m 126 _ [(.int (1 : Int32)), (.int (5 : Int32))]))
    refine Goes.go (fun _ kk => XS.icmpNo X11.here hx rfl (hb hby at_126) rfl (XT.ii_le_f (by decide)) kk) ?_
    show Goes _ _ _ _ _ _ _ (T11.setTop (mkF m 129 _ []))
    refine Goes.go (fun _ kk => XS.aload X11.here hx rfl (hb hby at_129) rfl rfl kk) ?_
    show Goes _ _ _ _ _ _ _ (T11.setTop (mkF m 131 _ [(.ref ar107)]))
    refine Goes.go (fun _ kk => XS.iconst X11.here hx rfl (hb hby at_131) kk) ?_
    show Goes _ _ _ _ _ _ _ (T11.setTop (mkF m 132 _ [(.int (1 : Int32)), (.ref ar107)]))
    refine Goes.go (fun _ kk => XS.aload X11.here hx rfl (hb hby at_132) rfl rfl kk) ?_
    show Goes _ _ _ _ _ _ _ (T11.setTop (mkF m 134 _ [(.ref ar10), (.int (1 : Int32)), (.ref ar107)]))
    refine Goes.go (fun _ kk => XS.iconst X11.here hx rfl (hb hby at_134) kk) ?_
    show Goes _ _ _ _ _ _ _ (T11.setTop (mkF m 135 _ [(.int (1 : Int32)), (.ref ar10), (.int (1 : Int32)), (.ref ar107)]))
    refine Goes.go (own_ldI X11 hx hZ e11 f_11 (j := (1 : Int32)) (v := (.int (((p0).toUInt32 >>> ((8 : Int32) &&& 31).toUInt32).toInt32 &&& (255 : Int32)))) (by decide) rfl rfl rfl (hb hby at_135)) ?_
    show Goes _ _ _ _ _ _ _ (T11.setTop (mkF m 136 _ [(.int (((p0).toUInt32 >>> ((8 : Int32) &&& 31).toUInt32).toInt32 &&& (255 : Int32))), (.int (1 : Int32)), (.ref ar107)]))
    refine Goes.go (fun _ kk => XS.i2b X11.here hx rfl (hb hby at_136) rfl kk) ?_
    show Goes _ _ _ _ _ _ _ (T11.setTop (mkF m 137 _ [(.int ((((p0).toUInt32 >>> ((8 : Int32) &&& 31).toUInt32).toInt32 &&& (255 : Int32))).toInt8.toInt32), (.int (1 : Int32)), (.ref ar107)]))
    obtain ⟨T12, h12, X12, e12, W12, A12, st12⟩ := own_stB X11 hx hZ e11 f_12 (j := (1 : Int32)) (x := ((((p0).toUInt32 >>> ((8 : Int32) &&& 31).toUInt32).toInt32 &&& (255 : Int32))).toInt8.toInt32) (by decide) (show (1 : Nat) < 5 by decide) (g := (mkF m 137 #[.val (.int p0), .val (.int p1), .val (.int p2), .val (.int (5 : Int32)), .val (.ref ar10), .val (.ref ar107), .unset, .unset] [(.int ((((p0).toUInt32 >>> ((8 : Int32) &&& 31).toUInt32).toInt32 &&& (255 : Int32))).toInt8.toInt32), (.int (1 : Int32)), (.ref ar107)])) rfl rfl (hb hby at_137)
    rw [own_nar8] at A12
    have N12 := Fr.snoc X12 N11 ge_ar107
    have f_13 := Arl.other f_11 W12 ne_ar10_ar107
    have Z12 : n0 ≤ h12.size := by rw [W12.size]; exact Z11
    have f_14 : Arl Z h12 ar107 .byte [(.int ((p0 &&& (255 : Int32))).toInt8.toInt32), (.int ((((p0).toUInt32 >>> ((8 : Int32) &&& 31).toUInt32).toInt32 &&& (255 : Int32))).toInt8.toInt32), (.int (0 : Int32)), (.int (0 : Int32)), (.int (0 : Int32))] := A12
    refine Goes.go (st12) ?_
    show Goes _ _ _ _ _ _ _ (T12.setTop (mkF m 138 _ []))
    refine Goes.go (fun _ kk => XS.iloadN X12.here hx rfl (hb hby at_138) rfl kk) ?_
    show Goes _ _ _ _ _ _ _ (T12.setTop (mkF m 139 _ [(.int (5 : Int32))]))
    refine Goes.go (fun _ kk => XS.iconst X12.here hx rfl (hb hby at_139) kk) ?_
    show Goes _ _ _ _ _ _ _ (T12.setTop (mkF m 140 _ [(.int (2 : Int32)), (.int (5 : Int32))]))
    refine Goes.go (fun _ kk => XS.icmpNo X12.here hx rfl (hb hby at_140) rfl (XT.ii_le_f (by decide)) kk) ?_
    show Goes _ _ _ _ _ _ _ (T12.setTop (mkF m 143 _ []))
    refine Goes.go (fun _ kk => XS.aload X12.here hx rfl (hb hby at_143) rfl rfl kk) ?_
    show Goes _ _ _ _ _ _ _ (T12.setTop (mkF m 145 _ [(.ref ar107)]))
    refine Goes.go (fun _ kk => XS.iconst X12.here hx rfl (hb hby at_145) kk) ?_
    show Goes _ _ _ _ _ _ _ (T12.setTop (mkF m 146 _ [(.int (2 : Int32)), (.ref ar107)]))
    refine Goes.go (fun _ kk => XS.aload X12.here hx rfl (hb hby at_146) rfl rfl kk) ?_
    show Goes _ _ _ _ _ _ _ (T12.setTop (mkF m 148 _ [(.ref ar10), (.int (2 : Int32)), (.ref ar107)]))
    refine Goes.go (fun _ kk => XS.iconst X12.here hx rfl (hb hby at_148) kk) ?_
    show Goes _ _ _ _ _ _ _ (T12.setTop (mkF m 149 _ [(.int (2 : Int32)), (.ref ar10), (.int (2 : Int32)), (.ref ar107)]))
    refine Goes.go (own_ldI X12 hx hZ e12 f_13 (j := (2 : Int32)) (v := (.int (((p0).toUInt32 >>> ((16 : Int32) &&& 31).toUInt32).toInt32 &&& (255 : Int32)))) (by decide) rfl rfl rfl (hb hby at_149)) ?_
    show Goes _ _ _ _ _ _ _ (T12.setTop (mkF m 150 _ [(.int (((p0).toUInt32 >>> ((16 : Int32) &&& 31).toUInt32).toInt32 &&& (255 : Int32))), (.int (2 : Int32)), (.ref ar107)]))
    refine Goes.go (fun _ kk => XS.i2b X12.here hx rfl (hb hby at_150) rfl kk) ?_
    show Goes _ _ _ _ _ _ _ (T12.setTop (mkF m 151 _ [(.int ((((p0).toUInt32 >>> ((16 : Int32) &&& 31).toUInt32).toInt32 &&& (255 : Int32))).toInt8.toInt32), (.int (2 : Int32)), (.ref ar107)]))
    obtain ⟨T13, h13, X13, e13, W13, A13, st13⟩ := own_stB X12 hx hZ e12 f_14 (j := (2 : Int32)) (x := ((((p0).toUInt32 >>> ((16 : Int32) &&& 31).toUInt32).toInt32 &&& (255 : Int32))).toInt8.toInt32) (by decide) (show (2 : Nat) < 5 by decide) (g := (mkF m 151 #[.val (.int p0), .val (.int p1), .val (.int p2), .val (.int (5 : Int32)), .val (.ref ar10), .val (.ref ar107), .unset, .unset] [(.int ((((p0).toUInt32 >>> ((16 : Int32) &&& 31).toUInt32).toInt32 &&& (255 : Int32))).toInt8.toInt32), (.int (2 : Int32)), (.ref ar107)])) rfl rfl (hb hby at_151)
    rw [own_nar8] at A13
    have N13 := Fr.snoc X13 N12 ge_ar107
    have f_15 := Arl.other f_13 W13 ne_ar10_ar107
    have Z13 : n0 ≤ h13.size := by rw [W13.size]; exact Z12
    have f_16 : Arl Z h13 ar107 .byte [(.int ((p0 &&& (255 : Int32))).toInt8.toInt32), (.int ((((p0).toUInt32 >>> ((8 : Int32) &&& 31).toUInt32).toInt32 &&& (255 : Int32))).toInt8.toInt32), (.int ((((p0).toUInt32 >>> ((16 : Int32) &&& 31).toUInt32).toInt32 &&& (255 : Int32))).toInt8.toInt32), (.int (0 : Int32)), (.int (0 : Int32))] := A13
    refine Goes.go (st13) ?_
    show Goes _ _ _ _ _ _ _ (T13.setTop (mkF m 152 _ []))
    refine Goes.go (fun _ kk => XS.iloadN X13.here hx rfl (hb hby at_152) rfl kk) ?_
    show Goes _ _ _ _ _ _ _ (T13.setTop (mkF m 153 _ [(.int (5 : Int32))]))
    refine Goes.go (fun _ kk => XS.iconst X13.here hx rfl (hb hby at_153) kk) ?_
    show Goes _ _ _ _ _ _ _ (T13.setTop (mkF m 154 _ [(.int (3 : Int32)), (.int (5 : Int32))]))
    refine Goes.go (fun _ kk => XS.icmpNo X13.here hx rfl (hb hby at_154) rfl (XT.ii_le_f (by decide)) kk) ?_
    show Goes _ _ _ _ _ _ _ (T13.setTop (mkF m 157 _ []))
    refine Goes.go (fun _ kk => XS.aload X13.here hx rfl (hb hby at_157) rfl rfl kk) ?_
    show Goes _ _ _ _ _ _ _ (T13.setTop (mkF m 159 _ [(.ref ar107)]))
    refine Goes.go (fun _ kk => XS.iconst X13.here hx rfl (hb hby at_159) kk) ?_
    show Goes _ _ _ _ _ _ _ (T13.setTop (mkF m 160 _ [(.int (3 : Int32)), (.ref ar107)]))
    refine Goes.go (fun _ kk => XS.aload X13.here hx rfl (hb hby at_160) rfl rfl kk) ?_
    show Goes _ _ _ _ _ _ _ (T13.setTop (mkF m 162 _ [(.ref ar10), (.int (3 : Int32)), (.ref ar107)]))
    refine Goes.go (fun _ kk => XS.iconst X13.here hx rfl (hb hby at_162) kk) ?_
    show Goes _ _ _ _ _ _ _ (T13.setTop (mkF m 163 _ [(.int (3 : Int32)), (.ref ar10), (.int (3 : Int32)), (.ref ar107)]))
    refine Goes.go (own_ldI X13 hx hZ e13 f_15 (j := (3 : Int32)) (v := (.int (((p0).toUInt32 >>> ((24 : Int32) &&& 31).toUInt32).toInt32 &&& (255 : Int32)))) (by decide) rfl rfl rfl (hb hby at_163)) ?_
    show Goes _ _ _ _ _ _ _ (T13.setTop (mkF m 164 _ [(.int (((p0).toUInt32 >>> ((24 : Int32) &&& 31).toUInt32).toInt32 &&& (255 : Int32))), (.int (3 : Int32)), (.ref ar107)]))
    refine Goes.go (fun _ kk => XS.i2b X13.here hx rfl (hb hby at_164) rfl kk) ?_
    show Goes _ _ _ _ _ _ _ (T13.setTop (mkF m 165 _ [(.int ((((p0).toUInt32 >>> ((24 : Int32) &&& 31).toUInt32).toInt32 &&& (255 : Int32))).toInt8.toInt32), (.int (3 : Int32)), (.ref ar107)]))
    obtain ⟨T14, h14, X14, e14, W14, A14, st14⟩ := own_stB X13 hx hZ e13 f_16 (j := (3 : Int32)) (x := ((((p0).toUInt32 >>> ((24 : Int32) &&& 31).toUInt32).toInt32 &&& (255 : Int32))).toInt8.toInt32) (by decide) (show (3 : Nat) < 5 by decide) (g := (mkF m 165 #[.val (.int p0), .val (.int p1), .val (.int p2), .val (.int (5 : Int32)), .val (.ref ar10), .val (.ref ar107), .unset, .unset] [(.int ((((p0).toUInt32 >>> ((24 : Int32) &&& 31).toUInt32).toInt32 &&& (255 : Int32))).toInt8.toInt32), (.int (3 : Int32)), (.ref ar107)])) rfl rfl (hb hby at_165)
    rw [own_nar8] at A14
    have N14 := Fr.snoc X14 N13 ge_ar107
    have f_17 := Arl.other f_15 W14 ne_ar10_ar107
    have Z14 : n0 ≤ h14.size := by rw [W14.size]; exact Z13
    have f_18 : Arl Z h14 ar107 .byte [(.int ((p0 &&& (255 : Int32))).toInt8.toInt32), (.int ((((p0).toUInt32 >>> ((8 : Int32) &&& 31).toUInt32).toInt32 &&& (255 : Int32))).toInt8.toInt32), (.int ((((p0).toUInt32 >>> ((16 : Int32) &&& 31).toUInt32).toInt32 &&& (255 : Int32))).toInt8.toInt32), (.int ((((p0).toUInt32 >>> ((24 : Int32) &&& 31).toUInt32).toInt32 &&& (255 : Int32))).toInt8.toInt32), (.int (0 : Int32))] := A14
    refine Goes.go (st14) ?_
    show Goes _ _ _ _ _ _ _ (T14.setTop (mkF m 166 _ []))
    refine Goes.go (fun _ kk => XS.iloadN X14.here hx rfl (hb hby at_166) rfl kk) ?_
    show Goes _ _ _ _ _ _ _ (T14.setTop (mkF m 167 _ [(.int (5 : Int32))]))
    refine Goes.go (fun _ kk => XS.iconst X14.here hx rfl (hb hby at_167) kk) ?_
    show Goes _ _ _ _ _ _ _ (T14.setTop (mkF m 168 _ [(.int (4 : Int32)), (.int (5 : Int32))]))
    refine Goes.go (fun _ kk => XS.icmpNo X14.here hx rfl (hb hby at_168) rfl (XT.ii_le_f (by decide)) kk) ?_
    show Goes _ _ _ _ _ _ _ (T14.setTop (mkF m 171 _ []))
    refine Goes.go (fun _ kk => XS.aload X14.here hx rfl (hb hby at_171) rfl rfl kk) ?_
    show Goes _ _ _ _ _ _ _ (T14.setTop (mkF m 173 _ [(.ref ar107)]))
    refine Goes.go (fun _ kk => XS.iconst X14.here hx rfl (hb hby at_173) kk) ?_
    show Goes _ _ _ _ _ _ _ (T14.setTop (mkF m 174 _ [(.int (4 : Int32)), (.ref ar107)]))
    refine Goes.go (fun _ kk => XS.aload X14.here hx rfl (hb hby at_174) rfl rfl kk) ?_
    show Goes _ _ _ _ _ _ _ (T14.setTop (mkF m 176 _ [(.ref ar10), (.int (4 : Int32)), (.ref ar107)]))
    refine Goes.go (fun _ kk => XS.iconst X14.here hx rfl (hb hby at_176) kk) ?_
    show Goes _ _ _ _ _ _ _ (T14.setTop (mkF m 177 _ [(.int (4 : Int32)), (.ref ar10), (.int (4 : Int32)), (.ref ar107)]))
    refine Goes.go (own_ldI X14 hx hZ e14 f_17 (j := (4 : Int32)) (v := (.int (p1 &&& (255 : Int32)))) (by decide) rfl rfl rfl (hb hby at_177)) ?_
    show Goes _ _ _ _ _ _ _ (T14.setTop (mkF m 178 _ [(.int (p1 &&& (255 : Int32))), (.int (4 : Int32)), (.ref ar107)]))
    refine Goes.go (fun _ kk => XS.i2b X14.here hx rfl (hb hby at_178) rfl kk) ?_
    show Goes _ _ _ _ _ _ _ (T14.setTop (mkF m 179 _ [(.int ((p1 &&& (255 : Int32))).toInt8.toInt32), (.int (4 : Int32)), (.ref ar107)]))
    obtain ⟨T15, h15, X15, e15, W15, A15, st15⟩ := own_stB X14 hx hZ e14 f_18 (j := (4 : Int32)) (x := ((p1 &&& (255 : Int32))).toInt8.toInt32) (by decide) (show (4 : Nat) < 5 by decide) (g := (mkF m 179 #[.val (.int p0), .val (.int p1), .val (.int p2), .val (.int (5 : Int32)), .val (.ref ar10), .val (.ref ar107), .unset, .unset] [(.int ((p1 &&& (255 : Int32))).toInt8.toInt32), (.int (4 : Int32)), (.ref ar107)])) rfl rfl (hb hby at_179)
    rw [own_nar8] at A15
    have N15 := Fr.snoc X15 N14 ge_ar107
    have f_19 := Arl.other f_17 W15 ne_ar10_ar107
    have Z15 : n0 ≤ h15.size := by rw [W15.size]; exact Z14
    have f_20 : Arl Z h15 ar107 .byte [(.int ((p0 &&& (255 : Int32))).toInt8.toInt32), (.int ((((p0).toUInt32 >>> ((8 : Int32) &&& 31).toUInt32).toInt32 &&& (255 : Int32))).toInt8.toInt32), (.int ((((p0).toUInt32 >>> ((16 : Int32) &&& 31).toUInt32).toInt32 &&& (255 : Int32))).toInt8.toInt32), (.int ((((p0).toUInt32 >>> ((24 : Int32) &&& 31).toUInt32).toInt32 &&& (255 : Int32))).toInt8.toInt32), (.int ((p1 &&& (255 : Int32))).toInt8.toInt32)] := A15
    refine Goes.go (st15) ?_
    show Goes _ _ _ _ _ _ _ (T15.setTop (mkF m 180 _ []))
    refine Goes.go (fun _ kk => XS.iloadN X15.here hx rfl (hb hby at_180) rfl kk) ?_
    show Goes _ _ _ _ _ _ _ (T15.setTop (mkF m 181 _ [(.int (5 : Int32))]))
    refine Goes.go (fun _ kk => XS.iconst X15.here hx rfl (hb hby at_181) kk) ?_
    show Goes _ _ _ _ _ _ _ (T15.setTop (mkF m 182 _ [(.int (5 : Int32)), (.int (5 : Int32))]))
    refine Goes.go (fun _ kk => XS.icmpYes X15.here hx rfl (pc0 := 182) (pc' := 194) rfl (hb hby at_182) rfl (XT.ii_le_t (by decide)) (by decide) (by decide) kk) ?_
    show Goes _ _ _ _ _ _ _ (T15.setTop (mkF m 194 _ []))
    refine Goes.go (fun _ kk => XS.iloadN X15.here hx rfl (hb hby at_194) rfl kk) ?_
    show Goes _ _ _ _ _ _ _ (T15.setTop (mkF m 195 _ [(.int (5 : Int32))]))
    refine Goes.go (fun _ kk => XS.bipush X15.here hx rfl (hb hby at_195) kk) ?_
    show Goes _ _ _ _ _ _ _ (T15.setTop (mkF m 197 _ [(.int (6 : Int32)), (.int (5 : Int32))]))
    refine Goes.go (fun _ kk => XS.icmpYes X15.here hx rfl (pc0 := 197) (pc' := 211) rfl (hb hby at_197) rfl (XT.ii_le_t (by decide)) (by decide) (by decide) kk) ?_
    show Goes _ _ _ _ _ _ _ (T15.setTop (mkF m 211 _ []))
    refine Goes.go (fun _ kk => XS.iloadN X15.here hx rfl (hb hby at_211) rfl kk) ?_
    show Goes _ _ _ _ _ _ _ (T15.setTop (mkF m 212 _ [(.int (5 : Int32))]))
    refine Goes.go (fun _ kk => XS.bipush X15.here hx rfl (hb hby at_212) kk) ?_
    show Goes _ _ _ _ _ _ _ (T15.setTop (mkF m 214 _ [(.int (7 : Int32)), (.int (5 : Int32))]))
    refine Goes.go (fun _ kk => XS.icmpYes X15.here hx rfl (pc0 := 214) (pc' := 228) rfl (hb hby at_214) rfl (XT.ii_le_t (by decide)) (by decide) (by decide) kk) ?_
    show Goes _ _ _ _ _ _ _ (T15.setTop (mkF m 228 _ []))
    have hB : ∀ j, isB (gi [(p0 &&& (255 : Int32)), (((p0).toUInt32 >>> ((8 : Int32) &&& 31).toUInt32).toInt32 &&& (255 : Int32)), (((p0).toUInt32 >>> ((16 : Int32) &&& 31).toUInt32).toInt32 &&& (255 : Int32)), (((p0).toUInt32 >>> ((24 : Int32) &&& 31).toUInt32).toInt32 &&& (255 : Int32)), (p1 &&& (255 : Int32)), (((p1).toUInt32 >>> ((8 : Int32) &&& 31).toUInt32).toInt32 &&& (255 : Int32)), (((p1).toUInt32 >>> ((16 : Int32) &&& 31).toUInt32).toInt32 &&& (255 : Int32)), (((p1).toUInt32 >>> ((24 : Int32) &&& 31).toUInt32).toInt32 &&& (255 : Int32))] j) := own_hb (by intro x hx; simp only [List.mem_cons, List.not_mem_nil, or_false] at hx; rcases hx with rfl | rfl | rfl | rfl | rfl | rfl | rfl | rfl <;> exact own_m8 _)
    have XX := X15.more (Nat.le_refl _) (by decide : _ ≤ 16)
    exact seg228 hw hx hby hml hown hnm hlk hret hZ p0 p1 p2 _ _ _ 5 [(p0 &&& (255 : Int32)), (((p0).toUInt32 >>> ((8 : Int32) &&& 31).toUInt32).toInt32 &&& (255 : Int32)), (((p0).toUInt32 >>> ((16 : Int32) &&& 31).toUInt32).toInt32 &&& (255 : Int32)), (((p0).toUInt32 >>> ((24 : Int32) &&& 31).toUInt32).toInt32 &&& (255 : Int32)), (p1 &&& (255 : Int32)), (((p1).toUInt32 >>> ((8 : Int32) &&& 31).toUInt32).toInt32 &&& (255 : Int32)), (((p1).toUInt32 >>> ((16 : Int32) &&& 31).toUInt32).toInt32 &&& (255 : Int32)), (((p1).toUInt32 >>> ((24 : Int32) &&& 31).toUInt32).toInt32 &&& (255 : Int32))] 0 n0 (fun _ _ N => ⟨rfl, N⟩) Z15 XX e15 N15 f_19 f_20 rfl (by decide) (by decide) hB rfl
  · skip
    show Goes _ _ _ _ _ _ _ (T9.setTop (mkF m 106 #[.val (.int p0), .val (.int p1), .val (.int p2), .val (.int (6 : Int32)), .val (.ref ar10), .unset, .unset, .unset] []))
    refine Goes.go (fun _ kk => XS.iloadN X9.here hx rfl (hb hby at_106) rfl kk) ?_
    show Goes _ _ _ _ _ _ _ (T9.setTop (mkF m 107 _ [(.int (6 : Int32))]))
    obtain ⟨T10, h10, X10, e10, E10, A10, st10⟩ := own_newP X9 hx hZ (aty := .byte) (hw _ (List.mem_of_getElem? (i := 2) rfl)) e9 (g := (mkF m 107 #[.val (.int p0), .val (.int p1), .val (.int p2), .val (.int (6 : Int32)), .val (.ref ar10), .unset, .unset, .unset] [(.int (6 : Int32))])) rfl (hb hby at_107) rfl (n := (6 : Int32)) (by decide) (cap := 6) (by decide) (by decide) (by decide) (by decide)
    obtain ⟨ar107, gar107⟩ : ∃ z, z = h9.size := ⟨_, rfl⟩
    rw [← gar107] at A10 st10
    have ne_ar10_ar107 : ar10 ≠ ar107 := by rw [gar107]; exact Nat.ne_of_lt f_8.lt
    have f_9 := f_8.ext E10
    have Z10 : n0 ≤ h10.size := Nat.le_trans Z9 E10.1
    have ge_ar107 : n0 ≤ ar107 := Nat.le_trans Z9 (Nat.le_of_eq gar107.symm)
    have f_10 : Arl Z h10 ar107 .byte [(.int (0 : Int32)), (.int (0 : Int32)), (.int (0 : Int32)), (.int (0 : Int32)), (.int (0 : Int32)), (.int (0 : Int32))] := A10
    refine Goes.go (st10) ?_
    show Goes _ _ _ _ _ _ _ (T10.setTop (mkF m 109 _ [(.ref ar107)]))
    refine Goes.go (fun _ kk => XS.astore X10.here hx rfl (hb hby at_109) rfl rfl (l' := #[.val (.int p0), .val (.int p1), .val (.int p2), .val (.int (6 : Int32)), .val (.ref ar10), .val (.ref ar107), .unset, .unset]) rfl kk) ?_
    show Goes _ _ _ _ _ _ _ (T10.setTop (mkF m 111 #[.val (.int p0), .val (.int p1), .val (.int p2), .val (.int (6 : Int32)), .val (.ref ar10), .val (.ref ar107), .unset, .unset] []))
    refine Goes.go (fun _ kk => XS.iloadN X10.here hx rfl (hb hby at_111) rfl kk) ?_
    show Goes _ _ _ _ _ _ _ (T10.setTop (mkF m 112 _ [(.int (6 : Int32))]))
    refine Goes.go (fun _ kk => XS.ifNo X10.here hx rfl (hb hby at_112) rfl (XT.i0_le_f (by decide)) kk) ?_
    show Goes _ _ _ _ _ _ _ (T10.setTop (mkF m 115 _ []))
    refine Goes.go (fun _ kk => XS.aload X10.here hx rfl (hb hby at_115) rfl rfl kk) ?_
    show Goes _ _ _ _ _ _ _ (T10.setTop (mkF m 117 _ [(.ref ar107)]))
    refine Goes.go (fun _ kk => XS.iconst X10.here hx rfl (hb hby at_117) kk) ?_
    show Goes _ _ _ _ _ _ _ (T10.setTop (mkF m 118 _ [(.int (0 : Int32)), (.ref ar107)]))
    refine Goes.go (fun _ kk => XS.aload X10.here hx rfl (hb hby at_118) rfl rfl kk) ?_
    show Goes _ _ _ _ _ _ _ (T10.setTop (mkF m 120 _ [(.ref ar10), (.int (0 : Int32)), (.ref ar107)]))
    refine Goes.go (fun _ kk => XS.iconst X10.here hx rfl (hb hby at_120) kk) ?_
    show Goes _ _ _ _ _ _ _ (T10.setTop (mkF m 121 _ [(.int (0 : Int32)), (.ref ar10), (.int (0 : Int32)), (.ref ar107)]))
    refine Goes.go (own_ldI X10 hx hZ e10 f_9 (j := (0 : Int32)) (v := (.int (p0 &&& (255 : Int32)))) (by decide) rfl rfl rfl (hb hby at_121)) ?_
    show Goes _ _ _ _ _ _ _ (T10.setTop (mkF m 122 _ [(.int (p0 &&& (255 : Int32))), (.int (0 : Int32)), (.ref ar107)]))
    refine Goes.go (fun _ kk => XS.i2b X10.here hx rfl (hb hby at_122) rfl kk) ?_
    show Goes _ _ _ _ _ _ _ (T10.setTop (mkF m 123 _ [(.int ((p0 &&& (255 : Int32))).toInt8.toInt32), (.int (0 : Int32)), (.ref ar107)]))
    obtain ⟨T11, h11, X11, e11, W11, A11, st11⟩ := own_stB X10 hx hZ e10 f_10 (j := (0 : Int32)) (x := ((p0 &&& (255 : Int32))).toInt8.toInt32) (by decide) (show (0 : Nat) < 6 by decide) (g := (mkF m 123 #[.val (.int p0), .val (.int p1), .val (.int p2), .val (.int (6 : Int32)), .val (.ref ar10), .val (.ref ar107), .unset, .unset] [(.int ((p0 &&& (255 : Int32))).toInt8.toInt32), (.int (0 : Int32)), (.ref ar107)])) rfl rfl (hb hby at_123)
    rw [own_nar8] at A11
    have N11 := Fr.snoc X11 N9 ge_ar107
    have f_11 := Arl.other f_9 W11 ne_ar10_ar107
    have Z11 : n0 ≤ h11.size := by rw [W11.size]; exact Z10
    have f_12 : Arl Z h11 ar107 .byte [(.int ((p0 &&& (255 : Int32))).toInt8.toInt32), (.int (0 : Int32)), (.int (0 : Int32)), (.int (0 : Int32)), (.int (0 : Int32)), (.int (0 : Int32))] := A11
    refine Goes.go (st11) ?_
    show Goes _ _ _ _ _ _ _ (T11.setTop (mkF m 124 _ []))
    refine Goes.go (fun _ kk => XS.iloadN X11.here hx rfl (hb hby at_124) rfl kk) ?_
    show Goes _ _ _ _ _ _ _ (T11.setTop (mkF m 125 _ [(.int (6 : Int32))]))
    refine Goes.go (fun _ kk => XS.iconst X11.here hx rfl (hb hby at_125) kk) ?_
    show Goes _ _ _ _ _ _ _ (T11.setTop (mkF m 126 _ [(.int (1 : Int32)), (.int (6 : Int32))]))
    refine Goes.go (fun _ kk => XS.icmpNo X11.here hx rfl (hb hby at_126) rfl (XT.ii_le_f (by decide)) kk) ?_
    show Goes _ _ _ _ _ _ _ (T11.setTop (mkF m 129 _ []))
    refine Goes.go (fun _ kk => XS.aload X11.here hx rfl (hb hby at_129) rfl rfl kk) ?_
    show Goes _ _ _ _ _ _ _ (T11.setTop (mkF m 131 _ [(.ref ar107)]))
    refine Goes.go (fun _ kk => XS.iconst X11.here hx rfl (hb hby at_131) kk) ?_
    show Goes _ _ _ _ _ _ _ (T11.setTop (mkF m 132 _ [(.int (1 : Int32)), (.ref ar107)]))
    refine Goes.go (fun _ kk => XS.aload X11.here hx rfl (hb hby at_132) rfl rfl kk) ?_
    show Goes _ _ _ _ _ _ _ (T11.setTop (mkF m 134 _ [(.ref ar10), (.int (1 : Int32)), (.ref ar107)]))
    refine Goes.go (fun _ kk => XS.iconst X11.here hx rfl (hb hby at_134) kk) ?_
    show Goes _ _ _ _ _ _ _ (T11.setTop (mkF m 135 _ [(.int (1 : Int32)), (.ref ar10), (.int (1 : Int32)), (.ref ar107)]))
    refine Goes.go (own_ldI X11 hx hZ e11 f_11 (j := (1 : Int32)) (v := (.int (((p0).toUInt32 >>> ((8 : Int32) &&& 31).toUInt32).toInt32 &&& (255 : Int32)))) (by decide) rfl rfl rfl (hb hby at_135)) ?_
    show Goes _ _ _ _ _ _ _ (T11.setTop (mkF m 136 _ [(.int (((p0).toUInt32 >>> ((8 : Int32) &&& 31).toUInt32).toInt32 &&& (255 : Int32))), (.int (1 : Int32)), (.ref ar107)]))
    refine Goes.go (fun _ kk => XS.i2b X11.here hx rfl (hb hby at_136) rfl kk) ?_
    show Goes _ _ _ _ _ _ _ (T11.setTop (mkF m 137 _ [(.int ((((p0).toUInt32 >>> ((8 : Int32) &&& 31).toUInt32).toInt32 &&& (255 : Int32))).toInt8.toInt32), (.int (1 : Int32)), (.ref ar107)]))
    obtain ⟨T12, h12, X12, e12, W12, A12, st12⟩ := own_stB X11 hx hZ e11 f_12 (j := (1 : Int32)) (x := ((((p0).toUInt32 >>> ((8 : Int32) &&& 31).toUInt32).toInt32 &&& (255 : Int32))).toInt8.toInt32) (by decide) (show (1 : Nat) < 6 by decide) (g := (mkF m 137 #[.val (.int p0), .val (.int p1), .val (.int p2), .val (.int (6 : Int32)), .val (.ref ar10), .val (.ref ar107), .unset, .unset] [(.int ((((p0).toUInt32 >>> ((8 : Int32) &&& 31).toUInt32).toInt32 &&& (255 : Int32))).toInt8.toInt32), (.int (1 : Int32)), (.ref ar107)])) rfl rfl (hb hby at_137)
    rw [own_nar8] at A12
    have N12 := Fr.snoc X12 N11 ge_ar107
    have f_13 := Arl.other f_11 W12 ne_ar10_ar107
    have Z12 : n0 ≤ h12.size := by rw [W12.size]; exact Z11
    have f_14 : Arl Z h12 ar107 .byte [(.int ((p0 &&& (255 : Int32))).toInt8.toInt32), (.int ((((p0).toUInt32 >>> ((8 : Int32) &&& 31).toUInt32).toInt32 &&& (255 : Int32))).toInt8.toInt32), (.int (0 : Int32)), (.int (0 : Int32)), (.int (0 : Int32)), (.int (0 : Int32))] := A12
    refine Goes.go (st12) ?_
    show Goes _ _ _ _ _ _ _ (T12.setTop (mkF m 138 _ []))
    refine Goes.go (fun _ kk => XS.iloadN X12.here hx rfl (hb hby at_138) rfl kk) ?_
    show Goes _ _ _ _ _ _ _ (T12.setTop (mkF m 139 _ [(.int (6 : Int32))]))
    refine Goes.go (fun _ kk => XS.iconst X12.here hx rfl (hb hby at_139) kk) ?_
    show Goes _ _ _ _ _ _ _ (T12.setTop (mkF m 140 _ [(.int (2 : Int32)), (.int (6 : Int32))]))
    refine Goes.go (fun _ kk => XS.icmpNo X12.here hx rfl (hb hby at_140) rfl (XT.ii_le_f (by decide)) kk) ?_
    show Goes _ _ _ _ _ _ _ (T12.setTop (mkF m 143 _ []))
    refine Goes.go (fun _ kk => XS.aload X12.here hx rfl (hb hby at_143) rfl rfl kk) ?_
    show Goes _ _ _ _ _ _ _ (T12.setTop (mkF m 145 _ [(.ref ar107)]))
    refine Goes.go (fun _ kk => XS.iconst X12.here hx rfl (hb hby at_145) kk) ?_
    show Goes _ _ _ _ _ _ _ (T12.setTop (mkF m 146 _ [(.int (2 : Int32)), (.ref ar107)]))
    refine Goes.go (fun _ kk => XS.aload X12.here hx rfl (hb hby at_146) rfl rfl kk) ?_
    show Goes _ _ _ _ _ _ _ (T12.setTop (mkF m 148 _ [(.ref ar10), (.int (2 : Int32)), (.ref ar107)]))
    refine Goes.go (fun _ kk => XS.iconst X12.here hx rfl (hb hby at_148) kk) ?_
    show Goes _ _ _ _ _ _ _ (T12.setTop (mkF m 149 _ [(.int (2 : Int32)), (.ref ar10), (.int (2 : Int32)), (.ref ar107)]))
    refine Goes.go (own_ldI X12 hx hZ e12 f_13 (j := (2 : Int32)) (v := (.int (((p0).toUInt32 >>> ((16 : Int32) &&& 31).toUInt32).toInt32 &&& (255 : Int32)))) (by decide) rfl rfl rfl (hb hby at_149)) ?_
    show Goes _ _ _ _ _ _ _ (T12.setTop (mkF m 150 _ [(.int (((p0).toUInt32 >>> ((16 : Int32) &&& 31).toUInt32).toInt32 &&& (255 : Int32))), (.int (2 : Int32)), (.ref ar107)]))
    refine Goes.go (fun _ kk => XS.i2b X12.here hx rfl (hb hby at_150) rfl kk) ?_
    show Goes _ _ _ _ _ _ _ (T12.setTop (mkF m 151 _ [(.int ((((p0).toUInt32 >>> ((16 : Int32) &&& 31).toUInt32).toInt32 &&& (255 : Int32))).toInt8.toInt32), (.int (2 : Int32)), (.ref ar107)]))
    obtain ⟨T13, h13, X13, e13, W13, A13, st13⟩ := own_stB X12 hx hZ e12 f_14 (j := (2 : Int32)) (x := ((((p0).toUInt32 >>> ((16 : Int32) &&& 31).toUInt32).toInt32 &&& (255 : Int32))).toInt8.toInt32) (by decide) (show (2 : Nat) < 6 by decide) (g := (mkF m 151 #[.val (.int p0), .val (.int p1), .val (.int p2), .val (.int (6 : Int32)), .val (.ref ar10), .val (.ref ar107), .unset, .unset] [(.int ((((p0).toUInt32 >>> ((16 : Int32) &&& 31).toUInt32).toInt32 &&& (255 : Int32))).toInt8.toInt32), (.int (2 : Int32)), (.ref ar107)])) rfl rfl (hb hby at_151)
    rw [own_nar8] at A13
    have N13 := Fr.snoc X13 N12 ge_ar107
    have f_15 := Arl.other f_13 W13 ne_ar10_ar107
    have Z13 : n0 ≤ h13.size := by rw [W13.size]; exact Z12
    have f_16 : Arl Z h13 ar107 .byte [(.int ((p0 &&& (255 : Int32))).toInt8.toInt32), (.int ((((p0).toUInt32 >>> ((8 : Int32) &&& 31).toUInt32).toInt32 &&& (255 : Int32))).toInt8.toInt32), (.int ((((p0).toUInt32 >>> ((16 : Int32) &&& 31).toUInt32).toInt32 &&& (255 : Int32))).toInt8.toInt32), (.int (0 : Int32)), (.int (0 : Int32)), (.int (0 : Int32))] := A13
    refine Goes.go (st13) ?_
    show Goes _ _ _ _ _ _ _ (T13.setTop (mkF m 152 _ []))
    refine Goes.go (fun _ kk => XS.iloadN X13.here hx rfl (hb hby at_152) rfl kk) ?_
    show Goes _ _ _ _ _ _ _ (T13.setTop (mkF m 153 _ [(.int (6 : Int32))]))
    refine Goes.go (fun _ kk => XS.iconst X13.here hx rfl (hb hby at_153) kk) ?_
    show Goes _ _ _ _ _ _ _ (T13.setTop (mkF m 154 _ [(.int (3 : Int32)), (.int (6 : Int32))]))
    refine Goes.go (fun _ kk => XS.icmpNo X13.here hx rfl (hb hby at_154) rfl (XT.ii_le_f (by decide)) kk) ?_
    show Goes _ _ _ _ _ _ _ (T13.setTop (mkF m 157 _ []))
    refine Goes.go (fun _ kk => XS.aload X13.here hx rfl (hb hby at_157) rfl rfl kk) ?_
    show Goes _ _ _ _ _ _ _ (T13.setTop (mkF m 159 _ [(.ref ar107)]))
    refine Goes.go (fun _ kk => XS.iconst X13.here hx rfl (hb hby at_159) kk) ?_
    show Goes _ _ _ _ _ _ _ (T13.setTop (mkF m 160 _ [(.int (3 : Int32)), (.ref ar107)]))
    refine Goes.go (fun _ kk => XS.aload X13.here hx rfl (hb hby at_160) rfl rfl kk) ?_
    show Goes _ _ _ _ _ _ _ (T13.setTop (mkF m 162 _ [(.ref ar10), (.int (3 : Int32)), (.ref ar107)]))
    refine Goes.go (fun _ kk => XS.iconst X13.here hx rfl (hb hby at_162) kk) ?_
    show Goes _ _ _ _ _ _ _ (T13.setTop (mkF m 163 _ [(.int (3 : Int32)), (.ref ar10), (.int (3 : Int32)), (.ref ar107)]))
    refine Goes.go (own_ldI X13 hx hZ e13 f_15 (j := (3 : Int32)) (v := (.int (((p0).toUInt32 >>> ((24 : Int32) &&& 31).toUInt32).toInt32 &&& (255 : Int32)))) (by decide) rfl rfl rfl (hb hby at_163)) ?_
    show Goes _ _ _ _ _ _ _ (T13.setTop (mkF m 164 _ [(.int (((p0).toUInt32 >>> ((24 : Int32) &&& 31).toUInt32).toInt32 &&& (255 : Int32))), (.int (3 : Int32)), (.ref ar107)]))
    refine Goes.go (fun _ kk => XS.i2b X13.here hx rfl (hb hby at_164) rfl kk) ?_
    show Goes _ _ _ _ _ _ _ (T13.setTop (mkF m 165 _ [(.int ((((p0).toUInt32 >>> ((24 : Int32) &&& 31).toUInt32).toInt32 &&& (255 : Int32))).toInt8.toInt32), (.int (3 : Int32)), (.ref ar107)]))
    obtain ⟨T14, h14, X14, e14, W14, A14, st14⟩ := own_stB X13 hx hZ e13 f_16 (j := (3 : Int32)) (x := ((((p0).toUInt32 >>> ((24 : Int32) &&& 31).toUInt32).toInt32 &&& (255 : Int32))).toInt8.toInt32) (by decide) (show (3 : Nat) < 6 by decide) (g := (mkF m 165 #[.val (.int p0), .val (.int p1), .val (.int p2), .val (.int (6 : Int32)), .val (.ref ar10), .val (.ref ar107), .unset, .unset] [(.int ((((p0).toUInt32 >>> ((24 : Int32) &&& 31).toUInt32).toInt32 &&& (255 : Int32))).toInt8.toInt32), (.int (3 : Int32)), (.ref ar107)])) rfl rfl (hb hby at_165)
    rw [own_nar8] at A14
    have N14 := Fr.snoc X14 N13 ge_ar107
    have f_17 := Arl.other f_15 W14 ne_ar10_ar107
    have Z14 : n0 ≤ h14.size := by rw [W14.size]; exact Z13
    have f_18 : Arl Z h14 ar107 .byte [(.int ((p0 &&& (255 : Int32))).toInt8.toInt32), (.int ((((p0).toUInt32 >>> ((8 : Int32) &&& 31).toUInt32).toInt32 &&& (255 : Int32))).toInt8.toInt32), (.int ((((p0).toUInt32 >>> ((16 : Int32) &&& 31).toUInt32).toInt32 &&& (255 : Int32))).toInt8.toInt32), (.int ((((p0).toUInt32 >>> ((24 : Int32) &&& 31).toUInt32).toInt32 &&& (255 : Int32))).toInt8.toInt32), (.int (0 : Int32)), (.int (0 : Int32))] := A14
    refine Goes.go (st14) ?_
    show Goes _ _ _ _ _ _ _ (T14.setTop (mkF m 166 _ []))
    refine Goes.go (fun _ kk => XS.iloadN X14.here hx rfl (hb hby at_166) rfl kk) ?_
    show Goes _ _ _ _ _ _ _ (T14.setTop (mkF m 167 _ [(.int (6 : Int32))]))
    refine Goes.go (fun _ kk => XS.iconst X14.here hx rfl (hb hby at_167) kk) ?_
    show Goes _ _ _ _ _ _ _ (T14.setTop (mkF m 168 _ [(.int (4 : Int32)), (.int (6 : Int32))]))
    refine Goes.go (fun _ kk => XS.icmpNo X14.here hx rfl (hb hby at_168) rfl (XT.ii_le_f (by decide)) kk) ?_
    show Goes _ _ _ _ _ _ _ (T14.setTop (mkF m 171 _ []))
    refine Goes.go (fun _ kk => XS.aload X14.here hx rfl (hb hby at_171) rfl rfl kk) ?_
    show Goes _ _ _ _ _ _ _ (T14.setTop (mkF m 173 _ [(.ref ar107)]))
    refine Goes.go (fun _ kk => XS.iconst X14.here hx rfl (hb hby at_173) kk) ?_
    show Goes _ _ _ _ _ _ _ (T14.setTop (mkF m 174 _ [(.int (4 : Int32)), (.ref ar107)]))
    refine Goes.go (fun _ kk => XS.aload X14.here hx rfl (hb hby at_174) rfl rfl kk) ?_
    show Goes _ _ _ _ _ _ _ (T14.setTop (mkF m 176 _ [(.ref ar10), (.int (4 : Int32)), (.ref ar107)]))
    refine Goes.go (fun _ kk => XS.iconst X14.here hx rfl (hb hby at_176) kk) ?_
    show Goes _ _ _ _ _ _ _ (T14.setTop (mkF m 177 _ [(.int (4 : Int32)), (.ref ar10), (.int (4 : Int32)), (.ref ar107)]))
    refine Goes.go (own_ldI X14 hx hZ e14 f_17 (j := (4 : Int32)) (v := (.int (p1 &&& (255 : Int32)))) (by decide) rfl rfl rfl (hb hby at_177)) ?_
    show Goes _ _ _ _ _ _ _ (T14.setTop (mkF m 178 _ [(.int (p1 &&& (255 : Int32))), (.int (4 : Int32)), (.ref ar107)]))
    refine Goes.go (fun _ kk => XS.i2b X14.here hx rfl (hb hby at_178) rfl kk) ?_
    show Goes _ _ _ _ _ _ _ (T14.setTop (mkF m 179 _ [(.int ((p1 &&& (255 : Int32))).toInt8.toInt32), (.int (4 : Int32)), (.ref ar107)]))
    obtain ⟨T15, h15, X15, e15, W15, A15, st15⟩ := own_stB X14 hx hZ e14 f_18 (j := (4 : Int32)) (x := ((p1 &&& (255 : Int32))).toInt8.toInt32) (by decide) (show (4 : Nat) < 6 by decide) (g := (mkF m 179 #[.val (.int p0), .val (.int p1), .val (.int p2), .val (.int (6 : Int32)), .val (.ref ar10), .val (.ref ar107), .unset, .unset] [(.int ((p1 &&& (255 : Int32))).toInt8.toInt32), (.int (4 : Int32)), (.ref ar107)])) rfl rfl (hb hby at_179)
    rw [own_nar8] at A15
    have N15 := Fr.snoc X15 N14 ge_ar107
    have f_19 := Arl.other f_17 W15 ne_ar10_ar107
    have Z15 : n0 ≤ h15.size := by rw [W15.size]; exact Z14
    have f_20 : Arl Z h15 ar107 .byte [(.int ((p0 &&& (255 : Int32))).toInt8.toInt32), (.int ((((p0).toUInt32 >>> ((8 : Int32) &&& 31).toUInt32).toInt32 &&& (255 : Int32))).toInt8.toInt32), (.int ((((p0).toUInt32 >>> ((16 : Int32) &&& 31).toUInt32).toInt32 &&& (255 : Int32))).toInt8.toInt32), (.int ((((p0).toUInt32 >>> ((24 : Int32) &&& 31).toUInt32).toInt32 &&& (255 : Int32))).toInt8.toInt32), (.int ((p1 &&& (255 : Int32))).toInt8.toInt32), (.int (0 : Int32))] := A15
    refine Goes.go (st15) ?_
    show Goes _ _ _ _ _ _ _ (T15.setTop (mkF m 180 _ []))
    refine Goes.go (fun _ kk => XS.iloadN X15.here hx rfl (hb hby at_180) rfl kk) ?_
    show Goes _ _ _ _ _ _ _ (T15.setTop (mkF m 181 _ [(.int (6 : Int32))]))
    refine Goes.go (fun _ kk => XS.iconst X15.here hx rfl (hb hby at_181) kk) ?_
    show Goes _ _ _ _ _ _ _ (T15.setTop (mkF m 182 _ [(.int (5 : Int32)), (.int (6 : Int32))]))
    refine Goes.go (fun _ kk => XS.icmpNo X15.here hx rfl (hb hby at_182) rfl (XT.ii_le_f (by decide)) kk) ?_
    show Goes _ _ _ _ _ _ _ (T15.setTop (mkF m 185 _ []))
    refine Goes.go (fun _ kk => XS.aload X15.here hx rfl (hb hby at_185) rfl rfl kk) ?_
    show Goes _ _ _ _ _ _ _ (T15.setTop (mkF m 187 _ [(.ref ar107)]))
    refine Goes.go (fun _ kk => XS.iconst X15.here hx rfl (hb hby at_187) kk) ?_
    show Goes _ _ _ _ _ _ _ (T15.setTop (mkF m 188 _ [(.int (5 : Int32)), (.ref ar107)]))
    refine Goes.go (fun _ kk => XS.aload X15.here hx rfl (hb hby at_188) rfl rfl kk) ?_
    show Goes _ _ _ _ _ _ _ (T15.setTop (mkF m 190 _ [(.ref ar10), (.int (5 : Int32)), (.ref ar107)]))
    refine Goes.go (fun _ kk => XS.iconst X15.here hx rfl (hb hby at_190) kk) ?_
    show Goes _ _ _ _ _ _ _ (T15.setTop (mkF m 191 _ [(.int (5 : Int32)), (.ref ar10), (.int (5 : Int32)), (.ref ar107)]))
    refine Goes.go (own_ldI X15 hx hZ e15 f_19 (j := (5 : Int32)) (v := (.int (((p1).toUInt32 >>> ((8 : Int32) &&& 31).toUInt32).toInt32 &&& (255 : Int32)))) (by decide) rfl rfl rfl (hb hby at_191)) ?_
    show Goes _ _ _ _ _ _ _ (T15.setTop (mkF m 192 _ [(.int (((p1).toUInt32 >>> ((8 : Int32) &&& 31).toUInt32).toInt32 &&& (255 : Int32))), (.int (5 : Int32)), (.ref ar107)]))
    refine Goes.go (fun _ kk => XS.i2b X15.here hx rfl (hb hby at_192) rfl kk) ?_
    show Goes _ _ _ _ _ _ _ (T15.setTop (mkF m 193 _ [(.int ((((p1).toUInt32 >>> ((8 : Int32) &&& 31).toUInt32).toInt32 &&& (255 : Int32))).toInt8.toInt32), (.int (5 : Int32)), (.ref ar107)]))
    obtain ⟨T16, h16, X16, e16, W16, A16, st16⟩ := own_stB X15 hx hZ e15 f_20 (j := (5 : Int32)) (x := ((((p1).toUInt32 >>> ((8 : Int32) &&& 31).toUInt32).toInt32 &&& (255 : Int32))).toInt8.toInt32) (by decide) (show (5 : Nat) < 6 by decide) (g := (mkF m 193 #[.val (.int p0), .val (.int p1), .val (.int p2), .val (.int (6 : Int32)), .val (.ref ar10), .val (.ref ar107), .unset, .unset] [(.int ((((p1).toUInt32 >>> ((8 : Int32) &&& 31).toUInt32).toInt32 &&& (255 : Int32))).toInt8.toInt32), (.int (5 : Int32)), (.ref ar107)])) rfl rfl (hb hby at_193)
    rw [own_nar8] at A16
    have N16 := Fr.snoc X16 N15 ge_ar107
    have f_21 := Arl.other f_19 W16 ne_ar10_ar107
    have Z16 : n0 ≤ h16.size := by rw [W16.size]; exact Z15
    have f_22 : Arl Z h16 ar107 .byte [(.int ((p0 &&& (255 : Int32))).toInt8.toInt32), (.int ((((p0).toUInt32 >>> ((8 : Int32) &&& 31).toUInt32).toInt32 &&& (255 : Int32))).toInt8.toInt32), (.int ((((p0).toUInt32 >>> ((16 : Int32) &&& 31).toUInt32).toInt32 &&& (255 : Int32))).toInt8.toInt32), (.int ((((p0).toUInt32 >>> ((24 : Int32) &&& 31).toUInt32).toInt32 &&& (255 : Int32))).toInt8.toInt32), (.int ((p1 &&& (255 : Int32))).toInt8.toInt32), (.int ((((p1).toUInt32 >>> ((8 : Int32) &&& 31).toUInt32).toInt32 &&& (255 : Int32))).toInt8.toInt32)] := A16
    refine Goes.go (st16) ?_
    show Goes _ _ _ _ _ _ _ (T16.setTop (mkF m 194 _ []))
    refine Goes.go (fun _ kk => XS.iloadN X16.here hx rfl (hb hby at_194) rfl kk) ?_
    show Goes _ _ _ _ _ _ _ (T16.setTop (mkF m 195 _ [(.int (6 : Int32))]))
    refine Goes.go (fun _ kk => XS.bipush X16.here hx rfl (hb hby at_195) kk) ?_
    show Goes _ _ _ _ _ _ _ (T16.setTop (mkF m 197 _ [(.int (6 : Int32)), (.int (6 : Int32))]))
    refine Goes.go (fun _ kk => XS.icmpYes X16.here hx rfl (pc0 := 197) (pc' := 211) rfl (hb hby at_197) rfl (XT.ii_le_t (by decide)) (by decide) (by decide) kk) ?_
    show Goes _ _ _ _ _ _ _ (T16.setTop (mkF m 211 _ []))
    refine Goes.go (fun _ kk => XS.iloadN X16.here hx rfl (hb hby at_211) rfl kk) ?_
    show Goes _ _ _ _ _ _ _ (T16.setTop (mkF m 212 _ [(.int (6 : Int32))]))
    refine Goes.go (fun _ kk => XS.bipush X16.here hx rfl (hb hby at_212) kk) ?_
    show Goes _ _ _ _ _ _ _ (T16.setTop (mkF m 214 _ [(.int (7 : Int32)), (.int (6 : Int32))]))
    refine Goes.go (fun _ kk => XS.icmpYes X16.here hx rfl (pc0 := 214) (pc' := 228) rfl (hb hby at_214) rfl (XT.ii_le_t (by decide)) (by decide) (by decide) kk) ?_
    show Goes _ _ _ _ _ _ _ (T16.setTop (mkF m 228 _ []))
    have hB : ∀ j, isB (gi [(p0 &&& (255 : Int32)), (((p0).toUInt32 >>> ((8 : Int32) &&& 31).toUInt32).toInt32 &&& (255 : Int32)), (((p0).toUInt32 >>> ((16 : Int32) &&& 31).toUInt32).toInt32 &&& (255 : Int32)), (((p0).toUInt32 >>> ((24 : Int32) &&& 31).toUInt32).toInt32 &&& (255 : Int32)), (p1 &&& (255 : Int32)), (((p1).toUInt32 >>> ((8 : Int32) &&& 31).toUInt32).toInt32 &&& (255 : Int32)), (((p1).toUInt32 >>> ((16 : Int32) &&& 31).toUInt32).toInt32 &&& (255 : Int32)), (((p1).toUInt32 >>> ((24 : Int32) &&& 31).toUInt32).toInt32 &&& (255 : Int32))] j) := own_hb (by intro x hx; simp only [List.mem_cons, List.not_mem_nil, or_false] at hx; rcases hx with rfl | rfl | rfl | rfl | rfl | rfl | rfl | rfl <;> exact own_m8 _)
    have XX := X16.more (Nat.le_refl _) (by decide : _ ≤ 16)
    exact seg228 hw hx hby hml hown hnm hlk hret hZ p0 p1 p2 _ _ _ 6 [(p0 &&& (255 : Int32)), (((p0).toUInt32 >>> ((8 : Int32) &&& 31).toUInt32).toInt32 &&& (255 : Int32)), (((p0).toUInt32 >>> ((16 : Int32) &&& 31).toUInt32).toInt32 &&& (255 : Int32)), (((p0).toUInt32 >>> ((24 : Int32) &&& 31).toUInt32).toInt32 &&& (255 : Int32)), (p1 &&& (255 : Int32)), (((p1).toUInt32 >>> ((8 : Int32) &&& 31).toUInt32).toInt32 &&& (255 : Int32)), (((p1).toUInt32 >>> ((16 : Int32) &&& 31).toUInt32).toInt32 &&& (255 : Int32)), (((p1).toUInt32 >>> ((24 : Int32) &&& 31).toUInt32).toInt32 &&& (255 : Int32))] 0 n0 (fun _ _ N => ⟨rfl, N⟩) Z16 XX e16 N16 f_21 f_22 rfl (by decide) (by decide) hB rfl
  · skip
    show Goes _ _ _ _ _ _ _ (T9.setTop (mkF m 106 #[.val (.int p0), .val (.int p1), .val (.int p2), .val (.int (7 : Int32)), .val (.ref ar10), .unset, .unset, .unset] []))
    refine Goes.go (fun _ kk => XS.iloadN X9.here hx rfl (hb hby at_106) rfl kk) ?_
    show Goes _ _ _ _ _ _ _ (T9.setTop (mkF m 107 _ [(.int (7 : Int32))]))
    obtain ⟨T10, h10, X10, e10, E10, A10, st10⟩ := own_newP X9 hx hZ (aty := .byte) (hw _ (List.mem_of_getElem? (i := 2) rfl)) e9 (g := (mkF m 107 #[.val (.int p0), .val (.int p1), .val (.int p2), .val (.int (7 : Int32)), .val (.ref ar10), .unset, .unset, .unset] [(.int (7 : Int32))])) rfl (hb hby at_107) rfl (n := (7 : Int32)) (by decide) (cap := 7) (by decide) (by decide) (by decide) (by decide)
    obtain ⟨ar107, gar107⟩ : ∃ z, z = h9.size := ⟨_, rfl⟩
    rw [← gar107] at A10 st10
    have ne_ar10_ar107 : ar10 ≠ ar107 := by rw [gar107]; exact Nat.ne_of_lt f_8.lt
    have f_9 := f_8.ext E10
    have Z10 : n0 ≤ h10.size := Nat.le_trans Z9 E10.1
    have ge_ar107 : n0 ≤ ar107 := Nat.le_trans Z9 (Nat.le_of_eq gar107.symm)
    have f_10 : Arl Z h10 ar107 .byte [(.int (0 : Int32)), (.int (0 : Int32)), (.int (0 : Int32)), (.int (0 : Int32)), (.int (0 : Int32)), (.int (0 : Int32)), (.int (0 : Int32))] := A10
    refine Goes.go (st10) ?_
    show Goes _ _ _ _ _ _ _ (T10.setTop (mkF m 109 _ [(.ref ar107)]))
    refine Goes.go (fun _ kk => XS.astore X10.here hx rfl (hb hby at_109) rfl rfl (l' := #[.val (.int p0), .val (.int p1), .val (.int p2), .val (.int (7 : Int32)), .val (.ref ar10), .val (.ref ar107), .unset, .unset]) rfl kk) ?_
    show Goes _ _ _ _ _ _ _ (T10.setTop (mkF m 111 #[.val (.int p0), .val (.int p1), .val (.int p2), .val (.int (7 : Int32)), .val (.ref ar10), .val (.ref ar107), .unset, .unset] []))
    refine Goes.go (fun _ kk => XS.iloadN X10.here hx rfl (hb hby at_111) rfl kk) ?_
    show Goes _ _ _ _ _ _ _ (T10.setTop (mkF m 112 _ [(.int (7 : Int32))]))
    refine Goes.go (fun _ kk => XS.ifNo X10.here hx rfl (hb hby at_112) rfl (XT.i0_le_f (by decide)) kk) ?_
    show Goes _ _ _ _ _ _ _ (T10.setTop (mkF m 115 _ []))
    refine Goes.go (fun _ kk => XS.aload X10.here hx rfl (hb hby at_115) rfl rfl kk) ?_
    show Goes _ _ _ _ _ _ _ (T10.setTop (mkF m 117 _ [(.ref ar107)]))
    refine Goes.go (fun _ kk => XS.iconst X10.here hx rfl (hb hby at_117) kk) ?_
    show Goes _ _ _ _ _ _ _ (T10.setTop (mkF m 118 _ [(.int (0 : Int32)), (.ref ar107)]))
    refine Goes.go (fun _ kk => XS.aload X10.here hx rfl (hb hby at_118) rfl rfl kk) ?_
    show Goes _ _ _ _ _ _ _ (T10.setTop (mkF m 120 _ [(.ref ar10), (.int (0 : Int32)), (.ref ar107)]))
    refine Goes.go (fun _ kk => XS.iconst X10.here hx rfl (hb hby at_120) kk) ?_
    show Goes _ _ _ _ _ _ _ (T10.setTop (mkF m 121 _ [(.int (0 : Int32)), (.ref ar10), (.int (0 : Int32)), (.ref ar107)]))
    refine Goes.go (own_ldI X10 hx hZ e10 f_9 (j := (0 : Int32)) (v := (.int (p0 &&& (255 : Int32)))) (by decide) rfl rfl rfl (hb hby at_121)) ?_
    show Goes _ _ _ _ _ _ _ (T10.setTop (mkF m 122 _ [(.int (p0 &&& (255 : Int32))), (.int (0 : Int32)), (.ref ar107)]))
    refine Goes.go (fun _ kk => XS.i2b X10.here hx rfl (hb hby at_122) rfl kk) ?_
    show Goes _ _ _ _ _ _ _ (T10.setTop (mkF m 123 _ [(.int ((p0 &&& (255 : Int32))).toInt8.toInt32), (.int (0 : Int32)), (.ref ar107)]))
    obtain ⟨T11, h11, X11, e11, W11, A11, st11⟩ := own_stB X10 hx hZ e10 f_10 (j := (0 : Int32)) (x := ((p0 &&& (255 : Int32))).toInt8.toInt32) (by decide) (show (0 : Nat) < 7 by decide) (g := (mkF m 123 #[.val (.int p0), .val (.int p1), .val (.int p2), .val (.int (7 : Int32)), .val (.ref ar10), .val (.ref ar107), .unset, .unset] [(.int ((p0 &&& (255 : Int32))).toInt8.toInt32), (.int (0 : Int32)), (.ref ar107)])) rfl rfl (hb hby at_123)
    rw [own_nar8] at A11
    have N11 := Fr.snoc X11 N9 ge_ar107
    have f_11 := Arl.other f_9 W11 ne_ar10_ar107
    have Z11 : n0 ≤ h11.size := by rw [W11.size]; exact Z10
    have f_12 : Arl Z h11 ar107 .byte [(.int ((p0 &&& (255 : Int32))).toInt8.toInt32), (.int (0 : Int32)), (.int (0 : Int32)), (.int (0 : Int32)), (.int (0 : Int32)), (.int (0 : Int32)), (.int (0 : Int32))] := A11
    refine Goes.go (st11) ?_
    show Goes _ _ _ _ _ _ _ (T11.setTop (mkF m 124 _ []))
    refine Goes.go (fun _ kk => XS.iloadN X11.here hx rfl (hb hby at_124) rfl kk) ?_
    show Goes _ _ _ _ _ _ _ (T11.setTop (mkF m 125 _ [(.int (7 : Int32))]))
    refine Goes.go (fun _ kk => XS.iconst X11.here hx rfl (hb hby at_125) kk) ?_
    show Goes _ _ _ _ _ _ _ (T11.setTop (mkF m 126 _ [(.int (1 : Int32)), (.int (7 : Int32))]))
    refine Goes.go (fun _ kk => XS.icmpNo X11.here hx rfl (hb hby at_126) rfl (XT.ii_le_f (by decide)) kk) ?_
    show Goes _ _ _ _ _ _ _ (T11.setTop (mkF m 129 _ []))
    refine Goes.go (fun _ kk => XS.aload X11.here hx rfl (hb hby at_129) rfl rfl kk) ?_
    show Goes _ _ _ _ _ _ _ (T11.setTop (mkF m 131 _ [(.ref ar107)]))
    refine Goes.go (fun _ kk => XS.iconst X11.here hx rfl (hb hby at_131) kk) ?_
    show Goes _ _ _ _ _ _ _ (T11.setTop (mkF m 132 _ [(.int (1 : Int32)), (.ref ar107)]))
    refine Goes.go (fun _ kk => XS.aload X11.here hx rfl (hb hby at_132) rfl rfl kk) ?_
    show Goes _ _ _ _ _ _ _ (T11.setTop (mkF m 134 _ [(.ref ar10), (.int (1 : Int32)), (.ref ar107)]))
    refine Goes.go (fun _ kk => XS.iconst X11.here hx rfl (hb hby at_134) kk) ?_
    show Goes _ _ _ _ _ _ _ (T11.setTop (mkF m 135 _ [(.int (1 : Int32)), (.ref ar10), (.int (1 : Int32)), (.ref ar107)]))
    refine Goes.go (own_ldI X11 hx hZ e11 f_11 (j := (1 : Int32)) (v := (.int (((p0).toUInt32 >>> ((8 : Int32) &&& 31).toUInt32).toInt32 &&& (255 : Int32)))) (by decide) rfl rfl rfl (hb hby at_135)) ?_
    show Goes _ _ _ _ _ _ _ (T11.setTop (mkF m 136 _ [(.int (((p0).toUInt32 >>> ((8 : Int32) &&& 31).toUInt32).toInt32 &&& (255 : Int32))), (.int (1 : Int32)), (.ref ar107)]))
    refine Goes.go (fun _ kk => XS.i2b X11.here hx rfl (hb hby at_136) rfl kk) ?_
    show Goes _ _ _ _ _ _ _ (T11.setTop (mkF m 137 _ [(.int ((((p0).toUInt32 >>> ((8 : Int32) &&& 31).toUInt32).toInt32 &&& (255 : Int32))).toInt8.toInt32), (.int (1 : Int32)), (.ref ar107)]))
    obtain ⟨T12, h12, X12, e12, W12, A12, st12⟩ := own_stB X11 hx hZ e11 f_12 (j := (1 : Int32)) (x := ((((p0).toUInt32 >>> ((8 : Int32) &&& 31).toUInt32).toInt32 &&& (255 : Int32))).toInt8.toInt32) (by decide) (show (1 : Nat) < 7 by decide) (g := (mkF m 137 #[.val (.int p0), .val (.int p1), .val (.int p2), .val (.int (7 : Int32)), .val (.ref ar10), .val (.ref ar107), .unset, .unset] [(.int ((((p0).toUInt32 >>> ((8 : Int32) &&& 31).toUInt32).toInt32 &&& (255 : Int32))).toInt8.toInt32), (.int (1 : Int32)), (.ref ar107)])) rfl rfl (hb hby at_137)
    rw [own_nar8] at A12
    have N12 := Fr.snoc X12 N11 ge_ar107
    have f_13 := Arl.other f_11 W12 ne_ar10_ar107
    have Z12 : n0 ≤ h12.size := by rw [W12.size]; exact Z11
    have f_14 : Arl Z h12 ar107 .byte [(.int ((p0 &&& (255 : Int32))).toInt8.toInt32), (.int ((((p0).toUInt32 >>> ((8 : Int32) &&& 31).toUInt32).toInt32 &&& (255 : Int32))).toInt8.toInt32), (.int (0 : Int32)), (.int (0 : Int32)), (.int (0 : Int32)), (.int (0 : Int32)), (.int (0 : Int32))] := A12
    refine Goes.go (st12) ?_
    show Goes _ _ _ _ _ _ _ (T12.setTop (mkF m 138 _ []))
    refine Goes.go (fun _ kk => XS.iloadN X12.here hx rfl (hb hby at_138) rfl kk) ?_
    show Goes _ _ _ _ _ _ _ (T12.setTop (mkF m 139 _ [(.int (7 : Int32))]))
    refine Goes.go (fun _ kk => XS.iconst X12.here hx rfl (hb hby at_139) kk) ?_
    show Goes _ _ _ _ _ _ _ (T12.setTop (mkF m 140 _ [(.int (2 : Int32)), (.int (7 : Int32))]))
    refine Goes.go (fun _ kk => XS.icmpNo X12.here hx rfl (hb hby at_140) rfl (XT.ii_le_f (by decide)) kk) ?_
    show Goes _ _ _ _ _ _ _ (T12.setTop (mkF m 143 _ []))
    refine Goes.go (fun _ kk => XS.aload X12.here hx rfl (hb hby at_143) rfl rfl kk) ?_
    show Goes _ _ _ _ _ _ _ (T12.setTop (mkF m 145 _ [(.ref ar107)]))
    refine Goes.go (fun _ kk => XS.iconst X12.here hx rfl (hb hby at_145) kk) ?_
    show Goes _ _ _ _ _ _ _ (T12.setTop (mkF m 146 _ [(.int (2 : Int32)), (.ref ar107)]))
    refine Goes.go (fun _ kk => XS.aload X12.here hx rfl (hb hby at_146) rfl rfl kk) ?_
    show Goes _ _ _ _ _ _ _ (T12.setTop (mkF m 148 _ [(.ref ar10), (.int (2 : Int32)), (.ref ar107)]))
    refine Goes.go (fun _ kk => XS.iconst X12.here hx rfl (hb hby at_148) kk) ?_
    show Goes _ _ _ _ _ _ _ (T12.setTop (mkF m 149 _ [(.int (2 : Int32)), (.ref ar10), (.int (2 : Int32)), (.ref ar107)]))
    refine Goes.go (own_ldI X12 hx hZ e12 f_13 (j := (2 : Int32)) (v := (.int (((p0).toUInt32 >>> ((16 : Int32) &&& 31).toUInt32).toInt32 &&& (255 : Int32)))) (by decide) rfl rfl rfl (hb hby at_149)) ?_
    show Goes _ _ _ _ _ _ _ (T12.setTop (mkF m 150 _ [(.int (((p0).toUInt32 >>> ((16 : Int32) &&& 31).toUInt32).toInt32 &&& (255 : Int32))), (.int (2 : Int32)), (.ref ar107)]))
    refine Goes.go (fun _ kk => XS.i2b X12.here hx rfl (hb hby at_150) rfl kk) ?_
    show Goes _ _ _ _ _ _ _ (T12.setTop (mkF m 151 _ [(.int ((((p0).toUInt32 >>> ((16 : Int32) &&& 31).toUInt32).toInt32 &&& (255 : Int32))).toInt8.toInt32), (.int (2 : Int32)), (.ref ar107)]))
    obtain ⟨T13, h13, X13, e13, W13, A13, st13⟩ := own_stB X12 hx hZ e12 f_14 (j := (2 : Int32)) (x := ((((p0).toUInt32 >>> ((16 : Int32) &&& 31).toUInt32).toInt32 &&& (255 : Int32))).toInt8.toInt32) (by decide) (show (2 : Nat) < 7 by decide) (g := (mkF m 151 #[.val (.int p0), .val (.int p1), .val (.int p2), .val (.int (7 : Int32)), .val (.ref ar10), .val (.ref ar107), .unset, .unset] [(.int ((((p0).toUInt32 >>> ((16 : Int32) &&& 31).toUInt32).toInt32 &&& (255 : Int32))).toInt8.toInt32), (.int (2 : Int32)), (.ref ar107)])) rfl rfl (hb hby at_151)
    rw [own_nar8] at A13
    have N13 := Fr.snoc X13 N12 ge_ar107
    have f_15 := Arl.other f_13 W13 ne_ar10_ar107
    have Z13 : n0 ≤ h13.size := by rw [W13.size]; exact Z12
    have f_16 : Arl Z h13 ar107 .byte [(.int ((p0 &&& (255 : Int32))).toInt8.toInt32), (.int ((((p0).toUInt32 >>> ((8 : Int32) &&& 31).toUInt32).toInt32 &&& (255 : Int32))).toInt8.toInt32), (.int ((((p0).toUInt32 >>> ((16 : Int32) &&& 31).toUInt32).toInt32 &&& (255 : Int32))).toInt8.toInt32), (.int (0 : Int32)), (.int (0 : Int32)), (.int (0 : Int32)), (.int (0 : Int32))] := A13
    refine Goes.go (st13) ?_
    show Goes _ _ _ _ _ _ _ (T13.setTop (mkF m 152 _ []))
    refine Goes.go (fun _ kk => XS.iloadN X13.here hx rfl (hb hby at_152) rfl kk) ?_
    show Goes _ _ _ _ _ _ _ (T13.setTop (mkF m 153 _ [(.int (7 : Int32))]))
    refine Goes.go (fun _ kk => XS.iconst X13.here hx rfl (hb hby at_153) kk) ?_
    show Goes _ _ _ _ _ _ _ (T13.setTop (mkF m 154 _ [(.int (3 : Int32)), (.int (7 : Int32))]))
    refine Goes.go (fun _ kk => XS.icmpNo X13.here hx rfl (hb hby at_154) rfl (XT.ii_le_f (by decide)) kk) ?_
    show Goes _ _ _ _ _ _ _ (T13.setTop (mkF m 157 _ []))
    refine Goes.go (fun _ kk => XS.aload X13.here hx rfl (hb hby at_157) rfl rfl kk) ?_
    show Goes _ _ _ _ _ _ _ (T13.setTop (mkF m 159 _ [(.ref ar107)]))
    refine Goes.go (fun _ kk => XS.iconst X13.here hx rfl (hb hby at_159) kk) ?_
    show Goes _ _ _ _ _ _ _ (T13.setTop (mkF m 160 _ [(.int (3 : Int32)), (.ref ar107)]))
    refine Goes.go (fun _ kk => XS.aload X13.here hx rfl (hb hby at_160) rfl rfl kk) ?_
    show Goes _ _ _ _ _ _ _ (T13.setTop (mkF m 162 _ [(.ref ar10), (.int (3 : Int32)), (.ref ar107)]))
    refine Goes.go (fun _ kk => XS.iconst X13.here hx rfl (hb hby at_162) kk) ?_
    show Goes _ _ _ _ _ _ _ (T13.setTop (mkF m 163 _ [(.int (3 : Int32)), (.ref ar10), (.int (3 : Int32)), (.ref ar107)]))
    refine Goes.go (own_ldI X13 hx hZ e13 f_15 (j := (3 : Int32)) (v := (.int (((p0).toUInt32 >>> ((24 : Int32) &&& 31).toUInt32).toInt32 &&& (255 : Int32)))) (by decide) rfl rfl rfl (hb hby at_163)) ?_
    show Goes _ _ _ _ _ _ _ (T13.setTop (mkF m 164 _ [(.int (((p0).toUInt32 >>> ((24 : Int32) &&& 31).toUInt32).toInt32 &&& (255 : Int32))), (.int (3 : Int32)), (.ref ar107)]))
    refine Goes.go (fun _ kk => XS.i2b X13.here hx rfl (hb hby at_164) rfl kk) ?_
    show Goes _ _ _ _ _ _ _ (T13.setTop (mkF m 165 _ [(.int ((((p0).toUInt32 >>> ((24 : Int32) &&& 31).toUInt32).toInt32 &&& (255 : Int32))).toInt8.toInt32), (.int (3 : Int32)), (.ref ar107)]))
    obtain ⟨T14, h14, X14, e14, W14, A14, st14⟩ := own_stB X13 hx hZ e13 f_16 (j := (3 : Int32)) (x := ((((p0).toUInt32 >>> ((24 : Int32) &&& 31).toUInt32).toInt32 &&& (255 : Int32))).toInt8.toInt32) (by decide) (show (3 : Nat) < 7 by decide) (g := (mkF m 165 #[.val (.int p0), .val (.int p1), .val (.int p2), .val (.int (7 : Int32)), .val (.ref ar10), .val (.ref ar107), .unset, .unset] [(.int ((((p0).toUInt32 >>> ((24 : Int32) &&& 31).toUInt32).toInt32 &&& (255 : Int32))).toInt8.toInt32), (.int (3 : Int32)), (.ref ar107)])) rfl rfl (hb hby at_165)
    rw [own_nar8] at A14
    have N14 := Fr.snoc X14 N13 ge_ar107
    have f_17 := Arl.other f_15 W14 ne_ar10_ar107
    have Z14 : n0 ≤ h14.size := by rw [W14.size]; exact Z13
    have f_18 : Arl Z h14 ar107 .byte [(.int ((p0 &&& (255 : Int32))).toInt8.toInt32), (.int ((((p0).toUInt32 >>> ((8 : Int32) &&& 31).toUInt32).toInt32 &&& (255 : Int32))).toInt8.toInt32), (.int ((((p0).toUInt32 >>> ((16 : Int32) &&& 31).toUInt32).toInt32 &&& (255 : Int32))).toInt8.toInt32), (.int ((((p0).toUInt32 >>> ((24 : Int32) &&& 31).toUInt32).toInt32 &&& (255 : Int32))).toInt8.toInt32), (.int (0 : Int32)), (.int (0 : Int32)), (.int (0 : Int32))] := A14
    refine Goes.go (st14) ?_
    show Goes _ _ _ _ _ _ _ (T14.setTop (mkF m 166 _ []))
    refine Goes.go (fun _ kk => XS.iloadN X14.here hx rfl (hb hby at_166) rfl kk) ?_
    show Goes _ _ _ _ _ _ _ (T14.setTop (mkF m 167 _ [(.int (7 : Int32))]))
    refine Goes.go (fun _ kk => XS.iconst X14.here hx rfl (hb hby at_167) kk) ?_
    show Goes _ _ _ _ _ _ _ (T14.setTop (mkF m 168 _ [(.int (4 : Int32)), (.int (7 : Int32))]))
    refine Goes.go (fun _ kk => XS.icmpNo X14.here hx rfl (hb hby at_168) rfl (XT.ii_le_f (by decide)) kk) ?_
    show Goes _ _ _ _ _ _ _ (T14.setTop (mkF m 171 _ []))
    refine Goes.go (fun _ kk => XS.aload X14.here hx rfl (hb hby at_171) rfl rfl kk) ?_
    show Goes _ _ _ _ _ _ _ (T14.setTop (mkF m 173 _ [(.ref ar107)]))
    refine Goes.go (fun _ kk => XS.iconst X14.here hx rfl (hb hby at_173) kk) ?_
    show Goes _ _ _ _ _ _ _ (T14.setTop (mkF m 174 _ [(.int (4 : Int32)), (.ref ar107)]))
    refine Goes.go (fun _ kk => XS.aload X14.here hx rfl (hb hby at_174) rfl rfl kk) ?_
    show Goes _ _ _ _ _ _ _ (T14.setTop (mkF m 176 _ [(.ref ar10), (.int (4 : Int32)), (.ref ar107)]))
    refine Goes.go (fun _ kk => XS.iconst X14.here hx rfl (hb hby at_176) kk) ?_
    show Goes _ _ _ _ _ _ _ (T14.setTop (mkF m 177 _ [(.int (4 : Int32)), (.ref ar10), (.int (4 : Int32)), (.ref ar107)]))
    refine Goes.go (own_ldI X14 hx hZ e14 f_17 (j := (4 : Int32)) (v := (.int (p1 &&& (255 : Int32)))) (by decide) rfl rfl rfl (hb hby at_177)) ?_
    show Goes _ _ _ _ _ _ _ (T14.setTop (mkF m 178 _ [(.int (p1 &&& (255 : Int32))), (.int (4 : Int32)), (.ref ar107)]))
    refine Goes.go (fun _ kk => XS.i2b X14.here hx rfl (hb hby at_178) rfl kk) ?_
    show Goes _ _ _ _ _ _ _ (T14.setTop (mkF m 179 _ [(.int ((p1 &&& (255 : Int32))).toInt8.toInt32), (.int (4 : Int32)), (.ref ar107)]))
    obtain ⟨T15, h15, X15, e15, W15, A15, st15⟩ := own_stB X14 hx hZ e14 f_18 (j := (4 : Int32)) (x := ((p1 &&& (255 : Int32))).toInt8.toInt32) (by decide) (show (4 : Nat) < 7 by decide) (g := (mkF m 179 #[.val (.int p0), .val (.int p1), .val (.int p2), .val (.int (7 : Int32)), .val (.ref ar10), .val (.ref ar107), .unset, .unset] [(.int ((p1 &&& (255 : Int32))).toInt8.toInt32), (.int (4 : Int32)), (.ref ar107)])) rfl rfl (hb hby at_179)
    rw [own_nar8] at A15
    have N15 := Fr.snoc X15 N14 ge_ar107
    have f_19 := Arl.other f_17 W15 ne_ar10_ar107
    have Z15 : n0 ≤ h15.size := by rw [W15.size]; exact Z14
    have f_20 : Arl Z h15 ar107 .byte [(.int ((p0 &&& (255 : Int32))).toInt8.toInt32), (.int ((((p0).toUInt32 >>> ((8 : Int32) &&& 31).toUInt32).toInt32 &&& (255 : Int32))).toInt8.toInt32), (.int ((((p0).toUInt32 >>> ((16 : Int32) &&& 31).toUInt32).toInt32 &&& (255 : Int32))).toInt8.toInt32), (.int ((((p0).toUInt32 >>> ((24 : Int32) &&& 31).toUInt32).toInt32 &&& (255 : Int32))).toInt8.toInt32), (.int ((p1 &&& (255 : Int32))).toInt8.toInt32), (.int (0 : Int32)), (.int (0 : Int32))] := A15
    refine Goes.go (st15) ?_
    show Goes _ _ _ _ _ _ _ (T15.setTop (mkF m 180 _ []))
    refine Goes.go (fun _ kk => XS.iloadN X15.here hx rfl (hb hby at_180) rfl kk) ?_
    show Goes _ _ _ _ _ _ _ (T15.setTop (mkF m 181 _ [(.int (7 : Int32))]))
    refine Goes.go (fun _ kk => XS.iconst X15.here hx rfl (hb hby at_181) kk) ?_
    show Goes _ _ _ _ _ _ _ (T15.setTop (mkF m 182 _ [(.int (5 : Int32)), (.int (7 : Int32))]))
    refine Goes.go (fun _ kk => XS.icmpNo X15.here hx rfl (hb hby at_182) rfl (XT.ii_le_f (by decide)) kk) ?_
    show Goes _ _ _ _ _ _ _ (T15.setTop (mkF m 185 _ []))
    refine Goes.go (fun _ kk => XS.aload X15.here hx rfl (hb hby at_185) rfl rfl kk) ?_
    show Goes _ _ _ _ _ _ _ (T15.setTop (mkF m 187 _ [(.ref ar107)]))
    refine Goes.go (fun _ kk => XS.iconst X15.here hx rfl (hb hby at_187) kk) ?_
    show Goes _ _ _ _ _ _ _ (T15.setTop (mkF m 188 _ [(.int (5 : Int32)), (.ref ar107)]))
    refine Goes.go (fun _ kk => XS.aload X15.here hx rfl (hb hby at_188) rfl rfl kk) ?_
    show Goes _ _ _ _ _ _ _ (T15.setTop (mkF m 190 _ [(.ref ar10), (.int (5 : Int32)), (.ref ar107)]))
    refine Goes.go (fun _ kk => XS.iconst X15.here hx rfl (hb hby at_190) kk) ?_
    show Goes _ _ _ _ _ _ _ (T15.setTop (mkF m 191 _ [(.int (5 : Int32)), (.ref ar10), (.int (5 : Int32)), (.ref ar107)]))
    refine Goes.go (own_ldI X15 hx hZ e15 f_19 (j := (5 : Int32)) (v := (.int (((p1).toUInt32 >>> ((8 : Int32) &&& 31).toUInt32).toInt32 &&& (255 : Int32)))) (by decide) rfl rfl rfl (hb hby at_191)) ?_
    show Goes _ _ _ _ _ _ _ (T15.setTop (mkF m 192 _ [(.int (((p1).toUInt32 >>> ((8 : Int32) &&& 31).toUInt32).toInt32 &&& (255 : Int32))), (.int (5 : Int32)), (.ref ar107)]))
    refine Goes.go (fun _ kk => XS.i2b X15.here hx rfl (hb hby at_192) rfl kk) ?_
    show Goes _ _ _ _ _ _ _ (T15.setTop (mkF m 193 _ [(.int ((((p1).toUInt32 >>> ((8 : Int32) &&& 31).toUInt32).toInt32 &&& (255 : Int32))).toInt8.toInt32), (.int (5 : Int32)), (.ref ar107)]))
    obtain ⟨T16, h16, X16, e16, W16, A16, st16⟩ := own_stB X15 hx hZ e15 f_20 (j := (5 : Int32)) (x := ((((p1).toUInt32 >>> ((8 : Int32) &&& 31).toUInt32).toInt32 &&& (255 : Int32))).toInt8.toInt32) (by decide) (show (5 : Nat) < 7 by decide) (g := (mkF m 193 #[.val (.int p0), .val (.int p1), .val (.int p2), .val (.int (7 : Int32)), .val (.ref ar10), .val (.ref ar107), .unset, .unset] [(.int ((((p1).toUInt32 >>> ((8 : Int32) &&& 31).toUInt32).toInt32 &&& (255 : Int32))).toInt8.toInt32), (.int (5 : Int32)), (.ref ar107)])) rfl rfl (hb hby at_193)
    rw [own_nar8] at A16
    have N16 := Fr.snoc X16 N15 ge_ar107
    have f_21 := Arl.other f_19 W16 ne_ar10_ar107
    have Z16 : n0 ≤ h16.size := by rw [W16.size]; exact Z15
    have f_22 : Arl Z h16 ar107 .byte [(.int ((p0 &&& (255 : Int32))).toInt8.toInt32), (.int ((((p0).toUInt32 >>> ((8 : Int32) &&& 31).toUInt32).toInt32 &&& (255 : Int32))).toInt8.toInt32), (.int ((((p0).toUInt32 >>> ((16 : Int32) &&& 31).toUInt32).toInt32 &&& (255 : Int32))).toInt8.toInt32), (.int ((((p0).toUInt32 >>> ((24 : Int32) &&& 31).toUInt32).toInt32 &&& (255 : Int32))).toInt8.toInt32), (.int ((p1 &&& (255 : Int32))).toInt8.toInt32), (.int ((((p1).toUInt32 >>> ((8 : Int32) &&& 31).toUInt32).toInt32 &&& (255 : Int32))).toInt8.toInt32), (.int (0 : Int32))] := A16
    refine Goes.go (st16) ?_
    show Goes _ _ _ _ _ _ _ (T16.setTop (mkF m 194 _ []))
    refine Goes.go (fun _ kk => XS.iloadN X16.here hx rfl (hb hby at_194) rfl kk) ?_
    show Goes _ _ _ _ _ _ _ (T16.setTop (mkF m 195 _ [(.int (7 : Int32))]))
    refine Goes.go (fun _ kk => XS.bipush X16.here hx rfl (hb hby at_195) kk) ?_
    show Goes _ _ _ _ _ _ _ (T16.setTop (mkF m 197 _ [(.int (6 : Int32)), (.int (7 : Int32))]))
    refine Goes.go (fun _ kk => XS.icmpNo X16.here hx rfl (hb hby at_197) rfl (XT.ii_le_f (by decide)) kk) ?_
    show Goes _ _ _ _ _ _ _ (T16.setTop (mkF m 200 _ []))
    refine Goes.go (fun _ kk => XS.aload X16.here hx rfl (hb hby at_200) rfl rfl kk) ?_
    show Goes _ _ _ _ _ _ _ (T16.setTop (mkF m 202 _ [(.ref ar107)]))
    refine Goes.go (fun _ kk => XS.bipush X16.here hx rfl (hb hby at_202) kk) ?_
    show Goes _ _ _ _ _ _ _ (T16.setTop (mkF m 204 _ [(.int (6 : Int32)), (.ref ar107)]))
    refine Goes.go (fun _ kk => XS.aload X16.here hx rfl (hb hby at_204) rfl rfl kk) ?_
    show Goes _ _ _ _ _ _ _ (T16.setTop (mkF m 206 _ [(.ref ar10), (.int (6 : Int32)), (.ref ar107)]))
    refine Goes.go (fun _ kk => XS.bipush X16.here hx rfl (hb hby at_206) kk) ?_
    show Goes _ _ _ _ _ _ _ (T16.setTop (mkF m 208 _ [(.int (6 : Int32)), (.ref ar10), (.int (6 : Int32)), (.ref ar107)]))
    refine Goes.go (own_ldI X16 hx hZ e16 f_21 (j := (6 : Int32)) (v := (.int (((p1).toUInt32 >>> ((16 : Int32) &&& 31).toUInt32).toInt32 &&& (255 : Int32)))) (by decide) rfl rfl rfl (hb hby at_208)) ?_
    show Goes _ _ _ _ _ _ _ (T16.setTop (mkF m 209 _ [(.int (((p1).toUInt32 >>> ((16 : Int32) &&& 31).toUInt32).toInt32 &&& (255 : Int32))), (.int (6 : Int32)), (.ref ar107)]))
    refine Goes.go (fun _ kk => XS.i2b X16.here hx rfl (hb hby at_209) rfl kk) ?_
    show Goes _ _ _ _ _ _ _ (T16.setTop (mkF m 210 _ [(.int ((((p1).toUInt32 >>> ((16 : Int32) &&& 31).toUInt32).toInt32 &&& (255 : Int32))).toInt8.toInt32), (.int (6 : Int32)), (.ref ar107)]))
    obtain ⟨T17, h17, X17, e17, W17, A17, st17⟩ := own_stB X16 hx hZ e16 f_22 (j := (6 : Int32)) (x := ((((p1).toUInt32 >>> ((16 : Int32) &&& 31).toUInt32).toInt32 &&& (255 : Int32))).toInt8.toInt32) (by decide) (show (6 : Nat) < 7 by decide) (g := (mkF m 210 #[.val (.int p0), .val (.int p1), .val (.int p2), .val (.int (7 : Int32)), .val (.ref ar10), .val (.ref ar107), .unset, .unset] [(.int ((((p1).toUInt32 >>> ((16 : Int32) &&& 31).toUInt32).toInt32 &&& (255 : Int32))).toInt8.toInt32), (.int (6 : Int32)), (.ref ar107)])) rfl rfl (hb hby at_210)
    rw [own_nar8] at A17
    have N17 := Fr.snoc X17 N16 ge_ar107
    have f_23 := Arl.other f_21 W17 ne_ar10_ar107
    have Z17 : n0 ≤ h17.size := by rw [W17.size]; exact Z16
    have f_24 : Arl Z h17 ar107 .byte [(.int ((p0 &&& (255 : Int32))).toInt8.toInt32), (.int ((((p0).toUInt32 >>> ((8 : Int32) &&& 31).toUInt32).toInt32 &&& (255 : Int32))).toInt8.toInt32), (.int ((((p0).toUInt32 >>> ((16 : Int32) &&& 31).toUInt32).toInt32 &&& (255 : Int32))).toInt8.toInt32), (.int ((((p0).toUInt32 >>> ((24 : Int32) &&& 31).toUInt32).toInt32 &&& (255 : Int32))).toInt8.toInt32), (.int ((p1 &&& (255 : Int32))).toInt8.toInt32), (.int ((((p1).toUInt32 >>> ((8 : Int32) &&& 31).toUInt32).toInt32 &&& (255 : Int32))).toInt8.toInt32), (.int ((((p1).toUInt32 >>> ((16 : Int32) &&& 31).toUInt32).toInt32 &&& (255 : Int32))).toInt8.toInt32)] := A17
    refine Goes.go (st17) ?_
    show Goes _ _ _ _ _ _ _ (T17.setTop (mkF m 211 _ []))
    refine Goes.go (fun _ kk => XS.iloadN X17.here hx rfl (hb hby at_211) rfl kk) ?_
    show Goes _ _ _ _ _ _ _ (T17.setTop (mkF m 212 _ [(.int (7 : Int32))]))
    refine Goes.go (fun _ kk => XS.bipush X17.here hx rfl (hb hby at_212) kk) ?_
    show Goes _ _ _ _ _ _ _ (T17.setTop (mkF m 214 _ [(.int (7 : Int32)), (.int (7 : Int32))]))
    refine Goes.go (fun _ kk => XS.icmpYes X17.here hx rfl (pc0 := 214) (pc' := 228) rfl (hb hby at_214) rfl (XT.ii_le_t (by decide)) (by decide) (by decide) kk) ?_
    show Goes _ _ _ _ _ _ _ (T17.setTop (mkF m 228 _ []))
    have hB : ∀ j, isB (gi [(p0 &&& (255 : Int32)), (((p0).toUInt32 >>> ((8 : Int32) &&& 31).toUInt32).toInt32 &&& (255 : Int32)), (((p0).toUInt32 >>> ((16 : Int32) &&& 31).toUInt32).toInt32 &&& (255 : Int32)), (((p0).toUInt32 >>> ((24 : Int32) &&& 31).toUInt32).toInt32 &&& (255 : Int32)), (p1 &&& (255 : Int32)), (((p1).toUInt32 >>> ((8 : Int32) &&& 31).toUInt32).toInt32 &&& (255 : Int32)), (((p1).toUInt32 >>> ((16 : Int32) &&& 31).toUInt32).toInt32 &&& (255 : Int32)), (((p1).toUInt32 >>> ((24 : Int32) &&& 31).toUInt32).toInt32 &&& (255 : Int32))] j) := own_hb (by intro x hx; simp only [List.mem_cons, List.not_mem_nil, or_false] at hx; rcases hx with rfl | rfl | rfl | rfl | rfl | rfl | rfl | rfl <;> exact own_m8 _)
    have XX := X17.more (Nat.le_refl _) (by decide : _ ≤ 16)
    exact seg228 hw hx hby hml hown hnm hlk hret hZ p0 p1 p2 _ _ _ 7 [(p0 &&& (255 : Int32)), (((p0).toUInt32 >>> ((8 : Int32) &&& 31).toUInt32).toInt32 &&& (255 : Int32)), (((p0).toUInt32 >>> ((16 : Int32) &&& 31).toUInt32).toInt32 &&& (255 : Int32)), (((p0).toUInt32 >>> ((24 : Int32) &&& 31).toUInt32).toInt32 &&& (255 : Int32)), (p1 &&& (255 : Int32)), (((p1).toUInt32 >>> ((8 : Int32) &&& 31).toUInt32).toInt32 &&& (255 : Int32)), (((p1).toUInt32 >>> ((16 : Int32) &&& 31).toUInt32).toInt32 &&& (255 : Int32)), (((p1).toUInt32 >>> ((24 : Int32) &&& 31).toUInt32).toInt32 &&& (255 : Int32))] 0 n0 (fun _ _ N => ⟨rfl, N⟩) Z17 XX e17 N17 f_23 f_24 rfl (by decide) (by decide) hB rfl
  · skip
    show Goes _ _ _ _ _ _ _ (T9.setTop (mkF m 106 #[.val (.int p0), .val (.int p1), .val (.int p2), .val (.int (8 : Int32)), .val (.ref ar10), .unset, .unset, .unset] []))
    refine Goes.go (fun _ kk => XS.iloadN X9.here hx rfl (hb hby at_106) rfl kk) ?_
    show Goes _ _ _ _ _ _ _ (T9.setTop (mkF m 107 _ [(.int (8 : Int32))]))
    obtain ⟨T10, h10, X10, e10, E10, A10, st10⟩ := own_newP X9 hx hZ (aty := .byte) (hw _ (List.mem_of_getElem? (i := 2) rfl)) e9 (g := (mkF m 107 #[.val (.int p0), .val (.int p1), .val (.int p2), .val (.int (8 : Int32)), .val (.ref ar10), .unset, .unset, .unset] [(.int (8 : Int32))])) rfl (hb hby at_107) rfl (n := (8 : Int32)) (by decide) (cap := 8) (by decide) (by decide) (by decide) (by decide)
    obtain ⟨ar107, gar107⟩ : ∃ z, z = h9.size := ⟨_, rfl⟩
    rw [← gar107] at A10 st10
    have ne_ar10_ar107 : ar10 ≠ ar107 := by rw [gar107]; exact Nat.ne_of_lt f_8.lt
    have f_9 := f_8.ext E10
    have Z10 : n0 ≤ h10.size := Nat.le_trans Z9 E10.1
    have ge_ar107 : n0 ≤ ar107 := Nat.le_trans Z9 (Nat.le_of_eq gar107.symm)
    have f_10 : Arl Z h10 ar107 .byte [(.int (0 : Int32)), (.int (0 : Int32)), (.int (0 : Int32)), (.int (0 : Int32)), (.int (0 : Int32)), (.int (0 : Int32)), (.int (0 : Int32)), (.int (0 : Int32))] := A10
    refine Goes.go (st10) ?_
    show Goes _ _ _ _ _ _ _ (T10.setTop (mkF m 109 _ [(.ref ar107)]))
    refine Goes.go (fun _ kk => XS.astore X10.here hx rfl (hb hby at_109) rfl rfl (l' := #[.val (.int p0), .val (.int p1), .val (.int p2), .val (.int (8 : Int32)), .val (.ref ar10), .val (.ref ar107), .unset, .unset]) rfl kk) ?_
    show Goes _ _ _ _ _ _ _ (T10.setTop (mkF m 111 #[.val (.int p0), .val (.int p1), .val (.int p2), .val (.int (8 : Int32)), .val (.ref ar10), .val (.ref ar107), .unset, .unset] []))
    refine Goes.go (fun _ kk => XS.iloadN X10.here hx rfl (hb hby at_111) rfl kk) ?_
    show Goes _ _ _ _ _ _ _ (T10.setTop (mkF m 112 _ [(.int (8 : Int32))]))
    refine Goes.go (fun _ kk => XS.ifNo X10.here hx rfl (hb hby at_112) rfl (XT.i0_le_f (by decide)) kk) ?_
    show Goes _ _ _ _ _ _ _ (T10.setTop (mkF m 115 _ []))
    refine Goes.go (fun _ kk => XS.aload X10.here hx rfl (hb hby at_115) rfl rfl kk) ?_
    show Goes _ _ _ _ _ _ _ (T10.setTop (mkF m 117 _ [(.ref ar107)]))
    refine Goes.go (fun _ kk => XS.iconst X10.here hx rfl (hb hby at_117) kk) ?_
    show Goes _ _ _ _ _ _ _ (T10.setTop (mkF m 118 _ [(.int (0 : Int32)), (.ref ar107)]))
    refine Goes.go (fun _ kk => XS.aload X10.here hx rfl (hb hby at_118) rfl rfl kk) ?_
    show Goes _ _ _ _ _ _ _ (T10.setTop (mkF m 120 _ [(.ref ar10), (.int (0 : Int32)), (.ref ar107)]))
    refine Goes.go (fun _ kk => XS.iconst X10.here hx rfl (hb hby at_120) kk) ?_
    show Goes _ _ _ _ _ _ _ (T10.setTop (mkF m 121 _ [(.int (0 : Int32)), (.ref ar10), (.int (0 : Int32)), (.ref ar107)]))
    refine Goes.go (own_ldI X10 hx hZ e10 f_9 (j := (0 : Int32)) (v := (.int (p0 &&& (255 : Int32)))) (by decide) rfl rfl rfl (hb hby at_121)) ?_
    show Goes _ _ _ _ _ _ _ (T10.setTop (mkF m 122 _ [(.int (p0 &&& (255 : Int32))), (.int (0 : Int32)), (.ref ar107)]))
    refine Goes.go (fun _ kk => XS.i2b X10.here hx rfl (hb hby at_122) rfl kk) ?_
    show Goes _ _ _ _ _ _ _ (T10.setTop (mkF m 123 _ [(.int ((p0 &&& (255 : Int32))).toInt8.toInt32), (.int (0 : Int32)), (.ref ar107)]))
    obtain ⟨T11, h11, X11, e11, W11, A11, st11⟩ := own_stB X10 hx hZ e10 f_10 (j := (0 : Int32)) (x := ((p0 &&& (255 : Int32))).toInt8.toInt32) (by decide) (show (0 : Nat) < 8 by decide) (g := (mkF m 123 #[.val (.int p0), .val (.int p1), .val (.int p2), .val (.int (8 : Int32)), .val (.ref ar10), .val (.ref ar107), .unset, .unset] [(.int ((p0 &&& (255 : Int32))).toInt8.toInt32), (.int (0 : Int32)), (.ref ar107)])) rfl rfl (hb hby at_123)
    rw [own_nar8] at A11
    have N11 := Fr.snoc X11 N9 ge_ar107
    have f_11 := Arl.other f_9 W11 ne_ar10_ar107
    have Z11 : n0 ≤ h11.size := by rw [W11.size]; exact Z10
    have f_12 : Arl Z h11 ar107 .byte [(.int ((p0 &&& (255 : Int32))).toInt8.toInt32), (.int (0 : Int32)), (.int (0 : Int32)), (.int (0 : Int32)), (.int (0 : Int32)), (.int (0 : Int32)), (.int (0 : Int32)), (.int (0 : Int32))] := A11
    refine Goes.go (st11) ?_
    show Goes _ _ _ _ _ _ _ (T11.setTop (mkF m 124 _ []))
    refine Goes.go (fun _ kk => XS.iloadN X11.here hx rfl (hb hby at_124) rfl kk) ?_
    show Goes _ _ _ _ _ _ _ (T11.setTop (mkF m 125 _ [(.int (8 : Int32))]))
    refine Goes.go (fun _ kk => XS.iconst X11.here hx rfl (hb hby at_125) kk) ?_
    show Goes _ _ _ _ _ _ _ (T11.setTop (mkF m 126 _ [(.int (1 : Int32)), (.int (8 : Int32))]))
    refine Goes.go (fun _ kk => XS.icmpNo X11.here hx rfl (hb hby at_126) rfl (XT.ii_le_f (by decide)) kk) ?_
    show Goes _ _ _ _ _ _ _ (T11.setTop (mkF m 129 _ []))
    refine Goes.go (fun _ kk => XS.aload X11.here hx rfl (hb hby at_129) rfl rfl kk) ?_
    show Goes _ _ _ _ _ _ _ (T11.setTop (mkF m 131 _ [(.ref ar107)]))
    refine Goes.go (fun _ kk => XS.iconst X11.here hx rfl (hb hby at_131) kk) ?_
    show Goes _ _ _ _ _ _ _ (T11.setTop (mkF m 132 _ [(.int (1 : Int32)), (.ref ar107)]))
    refine Goes.go (fun _ kk => XS.aload X11.here hx rfl (hb hby at_132) rfl rfl kk) ?_
    show Goes _ _ _ _ _ _ _ (T11.setTop (mkF m 134 _ [(.ref ar10), (.int (1 : Int32)), (.ref ar107)]))
    refine Goes.go (fun _ kk => XS.iconst X11.here hx rfl (hb hby at_134) kk) ?_
    show Goes _ _ _ _ _ _ _ (T11.setTop (mkF m 135 _ [(.int (1 : Int32)), (.ref ar10), (.int (1 : Int32)), (.ref ar107)]))
    refine Goes.go (own_ldI X11 hx hZ e11 f_11 (j := (1 : Int32)) (v := (.int (((p0).toUInt32 >>> ((8 : Int32) &&& 31).toUInt32).toInt32 &&& (255 : Int32)))) (by decide) rfl rfl rfl (hb hby at_135)) ?_
    show Goes _ _ _ _ _ _ _ (T11.setTop (mkF m 136 _ [(.int (((p0).toUInt32 >>> ((8 : Int32) &&& 31).toUInt32).toInt32 &&& (255 : Int32))), (.int (1 : Int32)), (.ref ar107)]))
    refine Goes.go (fun _ kk => XS.i2b X11.here hx rfl (hb hby at_136) rfl kk) ?_
    show Goes _ _ _ _ _ _ _ (T11.setTop (mkF m 137 _ [(.int ((((p0).toUInt32 >>> ((8 : Int32) &&& 31).toUInt32).toInt32 &&& (255 : Int32))).toInt8.toInt32), (.int (1 : Int32)), (.ref ar107)]))
    obtain ⟨T12, h12, X12, e12, W12, A12, st12⟩ := own_stB X11 hx hZ e11 f_12 (j := (1 : Int32)) (x := ((((p0).toUInt32 >>> ((8 : Int32) &&& 31).toUInt32).toInt32 &&& (255 : Int32))).toInt8.toInt32) (by decide) (show (1 : Nat) < 8 by decide) (g := (mkF m 137 #[.val (.int p0), .val (.int p1), .val (.int p2), .val (.int (8 : Int32)), .val (.ref ar10), .val (.ref ar107), .unset, .unset] [(.int ((((p0).toUInt32 >>> ((8 : Int32) &&& 31).toUInt32).toInt32 &&& (255 : Int32))).toInt8.toInt32), (.int (1 : Int32)), (.ref ar107)])) rfl rfl (hb hby at_137)
    rw [own_nar8] at A12
    have N12 := Fr.snoc X12 N11 ge_ar107
    have f_13 := Arl.other f_11 W12 ne_ar10_ar107
    have Z12 : n0 ≤ h12.size := by rw [W12.size]; exact Z11
    have f_14 : Arl Z h12 ar107 .byte [(.int ((p0 &&& (255 : Int32))).toInt8.toInt32), (.int ((((p0).toUInt32 >>> ((8 : Int32) &&& 31).toUInt32).toInt32 &&& (255 : Int32))).toInt8.toInt32), (.int (0 : Int32)), (.int (0 : Int32)), (.int (0 : Int32)), (.int (0 : Int32)), (.int (0 : Int32)), (.int (0 : Int32))] := A12
    refine Goes.go (st12) ?_
    show Goes _ _ _ _ _ _ _ (T12.setTop (mkF m 138 _ []))
    refine Goes.go (fun _ kk => XS.iloadN X12.here hx rfl (hb hby at_138) rfl kk) ?_
    show Goes _ _ _ _ _ _ _ (T12.setTop (mkF m 139 _ [(.int (8 : Int32))]))
    refine Goes.go (fun _ kk => XS.iconst X12.here hx rfl (hb hby at_139) kk) ?_
    show Goes _ _ _ _ _ _ _ (T12.setTop (mkF m 140 _ [(.int (2 : Int32)), (.int (8 : Int32))]))
    refine Goes.go (fun _ kk => XS.icmpNo X12.here hx rfl (hb hby at_140) rfl (XT.ii_le_f (by decide)) kk) ?_
    show Goes _ _ _ _ _ _ _ (T12.setTop (mkF m 143 _ []))
    refine Goes.go (fun _ kk => XS.aload X12.here hx rfl (hb hby at_143) rfl rfl kk) ?_
    show Goes _ _ _ _ _ _ _ (T12.setTop (mkF m 145 _ [(.ref ar107)]))
    refine Goes.go (fun _ kk => XS.iconst X12.here hx rfl (hb hby at_145) kk) ?_
    show Goes _ _ _ _ _ _ _ (T12.setTop (mkF m 146 _ [(.int (2 : Int32)), (.ref ar107)]))
    refine Goes.go (fun _ kk => XS.aload X12.here hx rfl (hb hby at_146) rfl rfl kk) ?_
    show Goes _ _ _ _ _ _ _ (T12.setTop (mkF m 148 _ [(.ref ar10), (.int (2 : Int32)), (.ref ar107)]))
    refine Goes.go (fun _ kk => XS.iconst X12.here hx rfl (hb hby at_148) kk) ?_
    show Goes _ _ _ _ _ _ _ (T12.setTop (mkF m 149 _ [(.int (2 : Int32)), (.ref ar10), (.int (2 : Int32)), (.ref ar107)]))
    refine Goes.go (own_ldI X12 hx hZ e12 f_13 (j := (2 : Int32)) (v := (.int (((p0).toUInt32 >>> ((16 : Int32) &&& 31).toUInt32).toInt32 &&& (255 : Int32)))) (by decide) rfl rfl rfl (hb hby at_149)) ?_
    show Goes _ _ _ _ _ _ _ (T12.setTop (mkF m 150 _ [(.int (((p0).toUInt32 >>> ((16 : Int32) &&& 31).toUInt32).toInt32 &&& (255 : Int32))), (.int (2 : Int32)), (.ref ar107)]))
    refine Goes.go (fun _ kk => XS.i2b X12.here hx rfl (hb hby at_150) rfl kk) ?_
    show Goes _ _ _ _ _ _ _ (T12.setTop (mkF m 151 _ [(.int ((((p0).toUInt32 >>> ((16 : Int32) &&& 31).toUInt32).toInt32 &&& (255 : Int32))).toInt8.toInt32), (.int (2 : Int32)), (.ref ar107)]))
    obtain ⟨T13, h13, X13, e13, W13, A13, st13⟩ := own_stB X12 hx hZ e12 f_14 (j := (2 : Int32)) (x := ((((p0).toUInt32 >>> ((16 : Int32) &&& 31).toUInt32).toInt32 &&& (255 : Int32))).toInt8.toInt32) (by decide) (show (2 : Nat) < 8 by decide) (g := (mkF m 151 #[.val (.int p0), .val (.int p1), .val (.int p2), .val (.int (8 : Int32)), .val (.ref ar10), .val (.ref ar107), .unset, .unset] [(.int ((((p0).toUInt32 >>> ((16 : Int32) &&& 31).toUInt32).toInt32 &&& (255 : Int32))).toInt8.toInt32), (.int (2 : Int32)), (.ref ar107)])) rfl rfl (hb hby at_151)
    rw [own_nar8] at A13
    have N13 := Fr.snoc X13 N12 ge_ar107
    have f_15 := Arl.other f_13 W13 ne_ar10_ar107
    have Z13 : n0 ≤ h13.size := by rw [W13.size]; exact Z12
    have f_16 : Arl Z h13 ar107 .byte [(.int ((p0 &&& (255 : Int32))).toInt8.toInt32), (.int ((((p0).toUInt32 >>> ((8 : Int32) &&& 31).toUInt32).toInt32 &&& (255 : Int32))).toInt8.toInt32), (.int ((((p0).toUInt32 >>> ((16 : Int32) &&& 31).toUInt32).toInt32 &&& (255 : Int32))).toInt8.toInt32), (.int (0 : Int32)), (.int (0 : Int32)), (.int (0 : Int32)), (.int (0 : Int32)), (.int (0 : Int32))] := A13
    refine Goes.go (st13) ?_
    show Goes _ _ _ _ _ _ _ (T13.setTop (mkF m 152 _ []))
    refine Goes.go (fun _ kk => XS.iloadN X13.here hx rfl (hb hby at_152) rfl kk) ?_
    show Goes _ _ _ _ _ _ _ (T13.setTop (mkF m 153 _ [(.int (8 : Int32))]))
    refine Goes.go (fun _ kk => XS.iconst X13.here hx rfl (hb hby at_153) kk) ?_
    show Goes _ _ _ _ _ _ _ (T13.setTop (mkF m 154 _ [(.int (3 : Int32)), (.int (8 : Int32))]))
    refine Goes.go (fun _ kk => XS.icmpNo X13.here hx rfl (hb hby at_154) rfl (XT.ii_le_f (by decide)) kk) ?_
    show Goes _ _ _ _ _ _ _ (T13.setTop (mkF m 157 _ []))
    refine Goes.go (fun _ kk => XS.aload X13.here hx rfl (hb hby at_157) rfl rfl kk) ?_
    show Goes _ _ _ _ _ _ _ (T13.setTop (mkF m 159 _ [(.ref ar107)]))
    refine Goes.go (fun _ kk => XS.iconst X13.here hx rfl (hb hby at_159) kk) ?_
    show Goes _ _ _ _ _ _ _ (T13.setTop (mkF m 160 _ [(.int (3 : Int32)), (.ref ar107)]))
    refine Goes.go (fun _ kk => XS.aload X13.here hx rfl (hb hby at_160) rfl rfl kk) ?_
    show Goes _ _ _ _ _ _ _ (T13.setTop (mkF m 162 _ [(.ref ar10), (.int (3 : Int32)), (.ref ar107)]))
    refine Goes.go (fun _ kk => XS.iconst X13.here hx rfl (hb hby at_162) kk) ?_
    show Goes _ _ _ _ _ _ _ (T13.setTop (mkF m 163 _ [(.int (3 : Int32)), (.ref ar10), (.int (3 : Int32)), (.ref ar107)]))
    refine Goes.go (own_ldI X13 hx hZ e13 f_15 (j := (3 : Int32)) (v := (.int (((p0).toUInt32 >>> ((24 : Int32) &&& 31).toUInt32).toInt32 &&& (255 : Int32)))) (by decide) rfl rfl rfl (hb hby at_163)) ?_
    show Goes _ _ _ _ _ _ _ (T13.setTop (mkF m 164 _ [(.int (((p0).toUInt32 >>> ((24 : Int32) &&& 31).toUInt32).toInt32 &&& (255 : Int32))), (.int (3 : Int32)), (.ref ar107)]))
    refine Goes.go (fun _ kk => XS.i2b X13.here hx rfl (hb hby at_164) rfl kk) ?_
    show Goes _ _ _ _ _ _ _ (T13.setTop (mkF m 165 _ [(.int ((((p0).toUInt32 >>> ((24 : Int32) &&& 31).toUInt32).toInt32 &&& (255 : Int32))).toInt8.toInt32), (.int (3 : Int32)), (.ref ar107)]))
    obtain ⟨T14, h14, X14, e14, W14, A14, st14⟩ := own_stB X13 hx hZ e13 f_16 (j := (3 : Int32)) (x := ((((p0).toUInt32 >>> ((24 : Int32) &&& 31).toUInt32).toInt32 &&& (255 : Int32))).toInt8.toInt32) (by decide) (show (3 : Nat) < 8 by decide) (g := (mkF m 165 #[.val (.int p0), .val (.int p1), .val (.int p2), .val (.int (8 : Int32)), .val (.ref ar10), .val (.ref ar107), .unset, .unset] [(.int ((((p0).toUInt32 >>> ((24 : Int32) &&& 31).toUInt32).toInt32 &&& (255 : Int32))).toInt8.toInt32), (.int (3 : Int32)), (.ref ar107)])) rfl rfl (hb hby at_165)
    rw [own_nar8] at A14
    have N14 := Fr.snoc X14 N13 ge_ar107
    have f_17 := Arl.other f_15 W14 ne_ar10_ar107
    have Z14 : n0 ≤ h14.size := by rw [W14.size]; exact Z13
    have f_18 : Arl Z h14 ar107 .byte [(.int ((p0 &&& (255 : Int32))).toInt8.toInt32), (.int ((((p0).toUInt32 >>> ((8 : Int32) &&& 31).toUInt32).toInt32 &&& (255 : Int32))).toInt8.toInt32), (.int ((((p0).toUInt32 >>> ((16 : Int32) &&& 31).toUInt32).toInt32 &&& (255 : Int32))).toInt8.toInt32), (.int ((((p0).toUInt32 >>> ((24 : Int32) &&& 31).toUInt32).toInt32 &&& (255 : Int32))).toInt8.toInt32), (.int (0 : Int32)), (.int (0 : Int32)), (.int (0 : Int32)), (.int (0 : Int32))] := A14
    refine Goes.go (st14) ?_
    show Goes _ _ _ _ _ _ _ (T14.setTop (mkF m 166 _ []))
    refine Goes.go (fun _ kk => XS.iloadN X14.here hx rfl (hb hby at_166) rfl kk) ?_
    show Goes _ _ _ _ _ _ _ (T14.setTop (mkF m 167 _ [(.int (8 : Int32))]))
    refine Goes.go (fun _ kk => XS.iconst X14.here hx rfl (hb hby at_167) kk) ?_
    show Goes _ _ _ _ _ _ _ (T14.setTop (mkF m 168 _ [(.int (4 : Int32)), (.int (8 : Int32))]))
    refine Goes.go (fun _ kk => XS.icmpNo X14.here hx rfl (hb hby at_168) rfl (XT.ii_le_f (by decide)) kk) ?_
    show Goes _ _ _ _ _ _ _ (T14.setTop (mkF m 171 _ []))
    refine Goes.go (fun _ kk => XS.aload X14.here hx rfl (hb hby at_171) rfl rfl kk) ?_
    show Goes _ _ _ _ _ _ _ (T14.setTop (mkF m 173 _ [(.ref ar107)]))
    refine Goes.go (fun _ kk => XS.iconst X14.here hx rfl (hb hby at_173) kk) ?_
    show Goes _ _ _ _ _ _ _ (T14.setTop (mkF m 174 _ [(.int (4 : Int32)), (.ref ar107)]))
    refine Goes.go (fun _ kk => XS.aload X14.here hx rfl (hb hby at_174) rfl rfl kk) ?_
    show Goes _ _ _ _ _ _ _ (T14.setTop (mkF m 176 _ [(.ref ar10), (.int (4 : Int32)), (.ref ar107)]))
    refine Goes.go (fun _ kk => XS.iconst X14.here hx rfl (hb hby at_176) kk) ?_
    show Goes _ _ _ _ _ _ _ (T14.setTop (mkF m 177 _ [(.int (4 : Int32)), (.ref ar10), (.int (4 : Int32)), (.ref ar107)]))
    refine Goes.go (own_ldI X14 hx hZ e14 f_17 (j := (4 : Int32)) (v := (.int (p1 &&& (255 : Int32)))) (by decide) rfl rfl rfl (hb hby at_177)) ?_
    show Goes _ _ _ _ _ _ _ (T14.setTop (mkF m 178 _ [(.int (p1 &&& (255 : Int32))), (.int (4 : Int32)), (.ref ar107)]))
    refine Goes.go (fun _ kk => XS.i2b X14.here hx rfl (hb hby at_178) rfl kk) ?_
    show Goes _ _ _ _ _ _ _ (T14.setTop (mkF m 179 _ [(.int ((p1 &&& (255 : Int32))).toInt8.toInt32), (.int (4 : Int32)), (.ref ar107)]))
    obtain ⟨T15, h15, X15, e15, W15, A15, st15⟩ := own_stB X14 hx hZ e14 f_18 (j := (4 : Int32)) (x := ((p1 &&& (255 : Int32))).toInt8.toInt32) (by decide) (show (4 : Nat) < 8 by decide) (g := (mkF m 179 #[.val (.int p0), .val (.int p1), .val (.int p2), .val (.int (8 : Int32)), .val (.ref ar10), .val (.ref ar107), .unset, .unset] [(.int ((p1 &&& (255 : Int32))).toInt8.toInt32), (.int (4 : Int32)), (.ref ar107)])) rfl rfl (hb hby at_179)
    rw [own_nar8] at A15
    have N15 := Fr.snoc X15 N14 ge_ar107
    have f_19 := Arl.other f_17 W15 ne_ar10_ar107
    have Z15 : n0 ≤ h15.size := by rw [W15.size]; exact Z14
    have f_20 : Arl Z h15 ar107 .byte [(.int ((p0 &&& (255 : Int32))).toInt8.toInt32), (.int ((((p0).toUInt32 >>> ((8 : Int32) &&& 31).toUInt32).toInt32 &&& (255 : Int32))).toInt8.toInt32), (.int ((((p0).toUInt32 >>> ((16 : Int32) &&& 31).toUInt32).toInt32 &&& (255 : Int32))).toInt8.toInt32), (.int ((((p0).toUInt32 >>> ((24 : Int32) &&& 31).toUInt32).toInt32 &&& (255 : Int32))).toInt8.toInt32), (.int ((p1 &&& (255 : Int32))).toInt8.toInt32), (.int (0 : Int32)), (.int (0 : Int32)), (.int (0 : Int32))] := A15
    refine Goes.go (st15) ?_
    show Goes _ _ _ _ _ _ _ (T15.setTop (mkF m 180 _ []))
    refine Goes.go (fun _ kk => XS.iloadN X15.here hx rfl (hb hby at_180) rfl kk) ?_
    show Goes _ _ _ _ _ _ _ (T15.setTop (mkF m 181 _ [(.int (8 : Int32))]))
    refine Goes.go (fun _ kk => XS.iconst X15.here hx rfl (hb hby at_181) kk) ?_
    show Goes _ _ _ _ _ _ _ (T15.setTop (mkF m 182 _ [(.int (5 : Int32)), (.int (8 : Int32))]))
    refine Goes.go (fun _ kk => XS.icmpNo X15.here hx rfl (hb hby at_182) rfl (XT.ii_le_f (by decide)) kk) ?_
    show Goes _ _ _ _ _ _ _ (T15.setTop (mkF m 185 _ []))
    refine Goes.go (fun _ kk => XS.aload X15.here hx rfl (hb hby at_185) rfl rfl kk) ?_
    show Goes _ _ _ _ _ _ _ (T15.setTop (mkF m 187 _ [(.ref ar107)]))
    refine Goes.go (fun _ kk => XS.iconst X15.here hx rfl (hb hby at_187) kk) ?_
    show Goes _ _ _ _ _ _ _ (T15.setTop (mkF m 188 _ [(.int (5 : Int32)), (.ref ar107)]))
    refine Goes.go (fun _ kk => XS.aload X15.here hx rfl (hb hby at_188) rfl rfl kk) ?_
    show Goes _ _ _ _ _ _ _ (T15.setTop (mkF m 190 _ [(.ref ar10), (.int (5 : Int32)), (.ref ar107)]))
    refine Goes.go (fun _ kk => XS.iconst X15.here hx rfl (hb hby at_190) kk) ?_
    show Goes _ _ _ _ _ _ _ (T15.setTop (mkF m 191 _ [(.int (5 : Int32)), (.ref ar10), (.int (5 : Int32)), (.ref ar107)]))
    refine Goes.go (own_ldI X15 hx hZ e15 f_19 (j := (5 : Int32)) (v := (.int (((p1).toUInt32 >>> ((8 : Int32) &&& 31).toUInt32).toInt32 &&& (255 : Int32)))) (by decide) rfl rfl rfl (hb hby at_191)) ?_
    show Goes _ _ _ _ _ _ _ (T15.setTop (mkF m 192 _ [(.int (((p1).toUInt32 >>> ((8 : Int32) &&& 31).toUInt32).toInt32 &&& (255 : Int32))), (.int (5 : Int32)), (.ref ar107)]))
    refine Goes.go (fun _ kk => XS.i2b X15.here hx rfl (hb hby at_192) rfl kk) ?_
    show Goes _ _ _ _ _ _ _ (T15.setTop (mkF m 193 _ [(.int ((((p1).toUInt32 >>> ((8 : Int32) &&& 31).toUInt32).toInt32 &&& (255 : Int32))).toInt8.toInt32), (.int (5 : Int32)), (.ref ar107)]))
    obtain ⟨T16, h16, X16, e16, W16, A16, st16⟩ := own_stB X15 hx hZ e15 f_20 (j := (5 : Int32)) (x := ((((p1).toUInt32 >>> ((8 : Int32) &&& 31).toUInt32).toInt32 &&& (255 : Int32))).toInt8.toInt32) (by decide) (show (5 : Nat) < 8 by decide) (g := (mkF m 193 #[.val (.int p0), .val (.int p1), .val (.int p2), .val (.int (8 : Int32)), .val (.ref ar10), .val (.ref ar107), .unset, .unset] [(.int ((((p1).toUInt32 >>> ((8 : Int32) &&& 31).toUInt32).toInt32 &&& (255 : Int32))).toInt8.toInt32), (.int (5 : Int32)), (.ref ar107)])) rfl rfl (hb hby at_193)
    rw [own_nar8] at A16
    have N16 := Fr.snoc X16 N15 ge_ar107
    have f_21 := Arl.other f_19 W16 ne_ar10_ar107
    have Z16 : n0 ≤ h16.size := by rw [W16.size]; exact Z15
    have f_22 : Arl Z h16 ar107 .byte [(.int ((p0 &&& (255 : Int32))).toInt8.toInt32), (.int ((((p0).toUInt32 >>> ((8 : Int32) &&& 31).toUInt32).toInt32 &&& (255 : Int32))).toInt8.toInt32), (.int ((((p0).toUInt32 >>> ((16 : Int32) &&& 31).toUInt32).toInt32 &&& (255 : Int32))).toInt8.toInt32), (.int ((((p0).toUInt32 >>> ((24 : Int32) &&& 31).toUInt32).toInt32 &&& (255 : Int32))).toInt8.toInt32), (.int ((p1 &&& (255 : Int32))).toInt8.toInt32), (.int ((((p1).toUInt32 >>> ((8 : Int32) &&& 31).toUInt32).toInt32 &&& (255 : Int32))).toInt8.toInt32), (.int (0 : Int32)), (.int (0 : Int32))] := A16
    refine Goes.go (st16) ?_
    show Goes _ _ _ _ _ _ _ (T16.setTop (mkF m 194 _ []))
    refine Goes.go (fun _ kk => XS.iloadN X16.here hx rfl (hb hby at_194) rfl kk) ?_
    show Goes _ _ _ _ _ _ _ (T16.setTop (mkF m 195 _ [(.int (8 : Int32))]))
    refine Goes.go (fun _ kk => XS.bipush X16.here hx rfl (hb hby at_195) kk) ?_
    show Goes _ _ _ _ _ _ _ (T16.setTop (mkF m 197 _ [(.int (6 : Int32)), (.int (8 : Int32))]))
    refine Goes.go (fun _ kk => XS.icmpNo X16.here hx rfl (hb hby at_197) rfl (XT.ii_le_f (by decide)) kk) ?_
    show Goes _ _ _ _ _ _ _ (T16.setTop (mkF m 200 _ []))
    refine Goes.go (fun _ kk => XS.aload X16.here hx rfl (hb hby at_200) rfl rfl kk) ?_
    show Goes _ _ _ _ _ _ _ (T16.setTop (mkF m 202 _ [(.ref ar107)]))
    refine Goes.go (fun _ kk => XS.bipush X16.here hx rfl (hb hby at_202) kk) ?_
    show Goes _ _ _ _ _ _ _ (T16.setTop (mkF m 204 _ [(.int (6 : Int32)), (.ref ar107)]))
    refine Goes.go (fun _ kk => XS.aload X16.here hx rfl (hb hby at_204) rfl rfl kk) ?_
    show Goes _ _ _ _ _ _ _ (T16.setTop (mkF m 206 _ [(.ref ar10), (.int (6 : Int32)), (.ref ar107)]))
    refine Goes.go (fun _ kk => XS.bipush X16.here hx rfl (hb hby at_206) kk) ?_
    show Goes _ _ _ _ _ _ _ (T16.setTop (mkF m 208 _ [(.int (6 : Int32)), (.ref ar10), (.int (6 : Int32)), (.ref ar107)]))
    refine Goes.go (own_ldI X16 hx hZ e16 f_21 (j := (6 : Int32)) (v := (.int (((p1).toUInt32 >>> ((16 : Int32) &&& 31).toUInt32).toInt32 &&& (255 : Int32)))) (by decide) rfl rfl rfl (hb hby at_208)) ?_
    show Goes _ _ _ _ _ _ _ (T16.setTop (mkF m 209 _ [(.int (((p1).toUInt32 >>> ((16 : Int32) &&& 31).toUInt32).toInt32 &&& (255 : Int32))), (.int (6 : Int32)), (.ref ar107)]))
    refine Goes.go (fun _ kk => XS.i2b X16.here hx rfl (hb hby at_209) rfl kk) ?_
    show Goes _ _ _ _ _ _ _ (T16.setTop (mkF m 210 _ [(.int ((((p1).toUInt32 >>> ((16 : Int32) &&& 31).toUInt32).toInt32 &&& (255 : Int32))).toInt8.toInt32), (.int (6 : Int32)), (.ref ar107)]))
    obtain ⟨T17, h17, X17, e17, W17, A17, st17⟩ := own_stB X16 hx hZ e16 f_22 (j := (6 : Int32)) (x := ((((p1).toUInt32 >>> ((16 : Int32) &&& 31).toUInt32).toInt32 &&& (255 : Int32))).toInt8.toInt32) (by decide) (show (6 : Nat) < 8 by decide) (g := (mkF m 210 #[.val (.int p0), .val (.int p1), .val (.int p2), .val (.int (8 : Int32)), .val (.ref ar10), .val (.ref ar107), .unset, .unset] [(.int ((((p1).toUInt32 >>> ((16 : Int32) &&& 31).toUInt32).toInt32 &&& (255 : Int32))).toInt8.toInt32), (.int (6 : Int32)), (.ref ar107)])) rfl rfl (hb hby at_210)
    rw [own_nar8] at A17
    have N17 := Fr.snoc X17 N16 ge_ar107
    have f_23 := Arl.other f_21 W17 ne_ar10_ar107
    have Z17 : n0 ≤ h17.size := by rw [W17.size]; exact Z16
    have f_24 : Arl Z h17 ar107 .byte [(.int ((p0 &&& (255 : Int32))).toInt8.toInt32), (.int ((((p0).toUInt32 >>> ((8 : Int32) &&& 31).toUInt32).toInt32 &&& (255 : Int32))).toInt8.toInt32), (.int ((((p0).toUInt32 >>> ((16 : Int32) &&& 31).toUInt32).toInt32 &&& (255 : Int32))).toInt8.toInt32), (.int ((((p0).toUInt32 >>> ((24 : Int32) &&& 31).toUInt32).toInt32 &&& (255 : Int32))).toInt8.toInt32), (.int ((p1 &&& (255 : Int32))).toInt8.toInt32), (.int ((((p1).toUInt32 >>> ((8 : Int32) &&& 31).toUInt32).toInt32 &&& (255 : Int32))).toInt8.toInt32), (.int ((((p1).toUInt32 >>> ((16 : Int32) &&& 31).toUInt32).toInt32 &&& (255 : Int32))).toInt8.toInt32), (.int (0 : Int32))] := A17
    refine Goes.go (st17) ?_
    show Goes _ _ _ _ _ _ _ (T17.setTop (mkF m 211 _ []))
    refine Goes.go (fun _ kk => XS.iloadN X17.here hx rfl (hb hby at_211) rfl kk) ?_
    show Goes _ _ _ _ _ _ _ (T17.setTop (mkF m 212 _ [(.int (8 : Int32))]))
    refine Goes.go (fun _ kk => XS.bipush X17.here hx rfl (hb hby at_212) kk) ?_
    show Goes _ _ _ _ _ _ _ (T17.setTop (mkF m 214 _ [(.int (7 : Int32)), (.int (8 : Int32))]))
    refine Goes.go (fun _ kk => XS.icmpNo X17.here hx rfl (hb hby at_214) rfl (XT.ii_le_f (by decide)) kk) ?_
    show Goes _ _ _ _ _ _ _ (T17.setTop (mkF m 217 _ []))
    refine Goes.go (fun _ kk => XS.aload X17.here hx rfl (hb hby at_217) rfl rfl kk) ?_
    show Goes _ _ _ _ _ _ _ (T17.setTop (mkF m 219 _ [(.ref ar107)]))
    refine Goes.go (fun _ kk => XS.bipush X17.here hx rfl (hb hby at_219) kk) ?_
    show Goes _ _ _ _ _ _ _ (T17.setTop (mkF m 221 _ [(.int (7 : Int32)), (.ref ar107)]))
    refine Goes.go (fun _ kk => XS.aload X17.here hx rfl (hb hby at_221) rfl rfl kk) ?_
    show Goes _ _ _ _ _ _ _ (T17.setTop (mkF m 223 _ [(.ref ar10), (.int (7 : Int32)), (.ref ar107)]))
    refine Goes.go (fun _ kk => XS.bipush X17.here hx rfl (hb hby at_223) kk) ?_
    show Goes _ _ _ _ _ _ _ (T17.setTop (mkF m 225 _ [(.int (7 : Int32)), (.ref ar10), (.int (7 : Int32)), (.ref ar107)]))
    refine Goes.go (own_ldI X17 hx hZ e17 f_23 (j := (7 : Int32)) (v := (.int (((p1).toUInt32 >>> ((24 : Int32) &&& 31).toUInt32).toInt32 &&& (255 : Int32)))) (by decide) rfl rfl rfl (hb hby at_225)) ?_
    show Goes _ _ _ _ _ _ _ (T17.setTop (mkF m 226 _ [(.int (((p1).toUInt32 >>> ((24 : Int32) &&& 31).toUInt32).toInt32 &&& (255 : Int32))), (.int (7 : Int32)), (.ref ar107)]))
    refine Goes.go (fun _ kk => XS.i2b X17.here hx rfl (hb hby at_226) rfl kk) ?_
    show Goes _ _ _ _ _ _ _ (T17.setTop (mkF m 227 _ [(.int ((((p1).toUInt32 >>> ((24 : Int32) &&& 31).toUInt32).toInt32 &&& (255 : Int32))).toInt8.toInt32), (.int (7 : Int32)), (.ref ar107)]))
    obtain ⟨T18, h18, X18, e18, W18, A18, st18⟩ := own_stB X17 hx hZ e17 f_24 (j := (7 : Int32)) (x := ((((p1).toUInt32 >>> ((24 : Int32) &&& 31).toUInt32).toInt32 &&& (255 : Int32))).toInt8.toInt32) (by decide) (show (7 : Nat) < 8 by decide) (g := (mkF m 227 #[.val (.int p0), .val (.int p1), .val (.int p2), .val (.int (8 : Int32)), .val (.ref ar10), .val (.ref ar107), .unset, .unset] [(.int ((((p1).toUInt32 >>> ((24 : Int32) &&& 31).toUInt32).toInt32 &&& (255 : Int32))).toInt8.toInt32), (.int (7 : Int32)), (.ref ar107)])) rfl rfl (hb hby at_227)
    rw [own_nar8] at A18
    have N18 := Fr.snoc X18 N17 ge_ar107
    have f_25 := Arl.other f_23 W18 ne_ar10_ar107
    have Z18 : n0 ≤ h18.size := by rw [W18.size]; exact Z17
    have f_26 : Arl Z h18 ar107 .byte [(.int ((p0 &&& (255 : Int32))).toInt8.toInt32), (.int ((((p0).toUInt32 >>> ((8 : Int32) &&& 31).toUInt32).toInt32 &&& (255 : Int32))).toInt8.toInt32), (.int ((((p0).toUInt32 >>> ((16 : Int32) &&& 31).toUInt32).toInt32 &&& (255 : Int32))).toInt8.toInt32), (.int ((((p0).toUInt32 >>> ((24 : Int32) &&& 31).toUInt32).toInt32 &&& (255 : Int32))).toInt8.toInt32), (.int ((p1 &&& (255 : Int32))).toInt8.toInt32), (.int ((((p1).toUInt32 >>> ((8 : Int32) &&& 31).toUInt32).toInt32 &&& (255 : Int32))).toInt8.toInt32), (.int ((((p1).toUInt32 >>> ((16 : Int32) &&& 31).toUInt32).toInt32 &&& (255 : Int32))).toInt8.toInt32), (.int ((((p1).toUInt32 >>> ((24 : Int32) &&& 31).toUInt32).toInt32 &&& (255 : Int32))).toInt8.toInt32)] := A18
    refine Goes.go (st18) ?_
    show Goes _ _ _ _ _ _ _ (T18.setTop (mkF m 228 _ []))
    have hB : ∀ j, isB (gi [(p0 &&& (255 : Int32)), (((p0).toUInt32 >>> ((8 : Int32) &&& 31).toUInt32).toInt32 &&& (255 : Int32)), (((p0).toUInt32 >>> ((16 : Int32) &&& 31).toUInt32).toInt32 &&& (255 : Int32)), (((p0).toUInt32 >>> ((24 : Int32) &&& 31).toUInt32).toInt32 &&& (255 : Int32)), (p1 &&& (255 : Int32)), (((p1).toUInt32 >>> ((8 : Int32) &&& 31).toUInt32).toInt32 &&& (255 : Int32)), (((p1).toUInt32 >>> ((16 : Int32) &&& 31).toUInt32).toInt32 &&& (255 : Int32)), (((p1).toUInt32 >>> ((24 : Int32) &&& 31).toUInt32).toInt32 &&& (255 : Int32))] j) := own_hb (by intro x hx; simp only [List.mem_cons, List.not_mem_nil, or_false] at hx; rcases hx with rfl | rfl | rfl | rfl | rfl | rfl | rfl | rfl <;> exact own_m8 _)
    have XX := X18.more (Nat.le_refl _) (by decide : _ ≤ 16)
    exact seg228 hw hx hby hml hown hnm hlk hret hZ p0 p1 p2 _ _ _ 8 [(p0 &&& (255 : Int32)), (((p0).toUInt32 >>> ((8 : Int32) &&& 31).toUInt32).toInt32 &&& (255 : Int32)), (((p0).toUInt32 >>> ((16 : Int32) &&& 31).toUInt32).toInt32 &&& (255 : Int32)), (((p0).toUInt32 >>> ((24 : Int32) &&& 31).toUInt32).toInt32 &&& (255 : Int32)), (p1 &&& (255 : Int32)), (((p1).toUInt32 >>> ((8 : Int32) &&& 31).toUInt32).toInt32 &&& (255 : Int32)), (((p1).toUInt32 >>> ((16 : Int32) &&& 31).toUInt32).toInt32 &&& (255 : Int32)), (((p1).toUInt32 >>> ((24 : Int32) &&& 31).toUInt32).toInt32 &&& (255 : Int32))] 0 n0 (fun _ _ N => ⟨rfl, N⟩) Z18 XX e18 N18 f_25 f_26 rfl (by decide) (by decide) hB rfl
set_option maxRecDepth 65536 in
set_option maxHeartbeats 40000000 in
theorem comes_1 {Post : Tables → Env → Array Value → State → Outcome → State → Prop} (hpost : ∀ tb e args s v u, (limb_1_1.after args s (.returned v) u = true ∧ limb_1_2.after args s (.returned v) u = true ∧ True) → FrameEnd s (.returned v) u (Jvm.fieldLocs frame_1_writes args s ++ Jvm.arrayLocs frame_1_arrays args s ++ Jvm.staticLocs frame_1_statics s) 16 128 → Post tb e args s (.returned v) u) :
    ArmFor flags0 classFile x code maxLocals ret World_1 tables_1 room_1 Calls_1 rest_1 Pre_1 Post := by
  intro l hfl _ _ p e ha hc hk s m args below hf hA hF happ hP
  obtain ⟨hcalls, hrest, hpre⟩ := hP
  obtain ⟨-, -, -, hnamed, -, -, -, hat⟩ := (Spec.applies_iff hf).mp happ
  obtain ⟨hg, hn⟩ := and_e (Cond.before_iff.mp (show (Jvm.Cond.and given_1 narrow_1).before args s = true from hpre))
  obtain ⟨gc, gr0⟩ := and_e hg
  obtain ⟨g0, gr1⟩ := and_e gr0
  obtain ⟨g1, gr2⟩ := and_e gr1
  obtain ⟨w0, w1, w2, rfl⟩ : ∃ w0 w1 w2 : Value, args = #[w0, w1, w2] := by
    have hs : args.size = 3 := by simpa [Cond.value, given_1] using gc
    obtain ⟨L⟩ := args
    match L, hs with
    | [w0, w1, w2], _ => exact ⟨w0, w1, w2, rfl⟩
  have hw := fun d (hd : d ∈ tables_1) => atoms_spec (ws := Jvm.Cond.code x code maxLocals ret :: tables_1) hat d (List.mem_cons_of_mem _ hd)
  obtain ⟨i0, ei0⟩ := is_v g0
  obtain rfl : w0 = (.int i0) := Option.some.inj ei0
  obtain ⟨i1, ei1⟩ := is_v g1
  obtain rfl : w1 = (.int i1) := Option.some.inj ei1
  obtain ⟨i2, ei2⟩ := is_v gr2
  obtain rfl : w2 = (.int i2) := Option.some.inj ei2
  obtain ⟨n, o, h1, h2, h3, _, L, rfl, ⟨rfl, N⟩, hq⟩ := rm0 l s _ hw tables_1 i0 i1 i2 s.heap s.heap.size (Nat.le_refl _)  p e ha hc hk s m _ below hf ((Spec.applies_iff_loose hf).mp happ).1 ⟨rfl, State.Warmed39.refl s, rfl⟩ trivial
  refine ⟨n, _, h1, h2, h3, hpost _ _ _ _ _ _ ⟨Cond.after_iff.mpr rfl, Cond.after_iff.mpr (eq_i res_at (Term.int_eval (1)) rfl), trivial⟩ ⟨hq.1, hq.2.1, (hq.2.2.sift fun y hy => Or.inr (N y hy)).mono (by decide) (by decide)⟩⟩
theorem main_1_1 : Claimed_1_1 := comes_1 fun _ _ _ _ _ _ h hF => ⟨h.1, hF⟩
theorem main_1_2 : Claimed_1_2 := comes_1 fun _ _ _ _ _ _ h hF => ⟨h.2.1, hF⟩
end Jvm.Pilot.@@N@@
namespace Jvm.Pilot.@@N@@
open Jvm Jvm.ClassFile Sem Op Lib Jvm.Free Jvm.Stand Jvm.Pilot.@@N@@.Jvm.D
/-! MADE BY PROGRAM (witnessworld.py) out of the Statement's table words and the real class files: 13 classes; the members and pool entries that the words name. The judged class is class 1, her method 1. -/
namespace start1
open Jvm.ClassFile
def u (s : String) : CpInfo := .utf8 (stringToUtf16 s)
/-- a pool by its gaps: so many unusable entries, then the entry; so many at the end -/
def gap : Nat → List CpInfo → List CpInfo
  | 0, r => r
  | n + 1, r => .unusable :: gap n r
def poolList (es : List (Nat × CpInfo)) (last : Nat) : List CpInfo := es.foldr (fun e r => gap e.1 (e.2 :: r)) (gap last [])
def pool (es : List (Nat × CpInfo)) (last : Nat) : Array CpInfo := ⟨poolList es last⟩
def fileOf (pool : Array CpInfo) (this : Nat) (attrs : Array Attribute := #[]) (ms : Array MethodInfo := #[]) (fl : Nat := 33) (sup : Nat := 0) (ifs : Array Nat := #[]) (fds : Array FieldInfo := #[]) : ClassFile where
  minorVersion := 0
  majorVersion := 65
  constantPool := pool
  accessFlags := fl
  thisClass := this
  superClass := sup
  interfaces := ifs
  fields := fds
  methods := ms
  attributes := attrs
def plain (name : String) (sup : Option ClassId) : Class where
  name := name
  kind := .ordinary
  loader := none
  accessFlags := 33
  super := sup
  interfaces := #[]
  cf := none
  fields := #[]
  methods := #[]
  instanceTypes := #[]
  staticTypes := #[]
  resolved := #[]
  callSites := []
  init := .initialized
  statics := none
  mirror := none

def pool0 : Array CpInfo := pool [(5, u "<init>"), (0, u "()V"), (1, .class_ 10), (1, u "java/lang/Object")] 113

def k0m0 : Method := { name := "<init>", desc := "()V", sig := { parameters := [], returnType := none }, accessFlags := 1, code := none }
/-- java/lang/Object -/
def k0 : Class := { plain "java/lang/Object" none with
  accessFlags := 33
  interfaces := #[]
  cf := some (fileOf pool0 8 #[] #[{ accessFlags := 1, nameIndex := 5, descriptorIndex := 6, attributes := #[] }] 33 0 #[] #[])
  fields := #[]
  methods := #[k0m0]
  instanceTypes := #[]
  staticTypes := #[]
  resolved := Array.replicate 124 none
  statics := none }

def pool1 : Array CpInfo := pool [(2, .class_ 4), (1, u "java/lang/Object"), (0, u "<init>"), (0, u "()V"), (0, .integer 2147483647), (0, .methodref 9 10), (0, .class_ 11), (0, .nameAndType 12 13), (0, u "com/example/wide_schema/wideschema/model/NativeTypeIsUtf8PinLaw"), (0, u "step"), (0, u "([III)I"), (0, .methodref 15 16), (0, .class_ 17), (0, .nameAndType 18 19), (0, u "com/example/wide_schema/wideschema/model/NativeType"), (0, u "isUtf8"), (0, u "([B)Z"), (0, .methodref 9 21), (0, .nameAndType 22 13), (0, u "seq"), (0, .integer 65536), (0, .integer 55296), (0, .integer 57343), (0, .integer 1114111), (2, u "law"), (0, u "(III)Z")] 7

def k1m0 : Method := { name := "<init>", desc := "()V", sig := { parameters := [], returnType := none }, accessFlags := 1, code := none }
def k1c1 : Code := { maxStack := 4, maxLocals := 8, code := code, exceptionTable := #[], attributes := #[] }
def k1m1 : Method := { name := "law", desc := "(III)Z", sig := { parameters := [.int, .int, .int], returnType := some .boolean }, accessFlags := 9, code := some k1c1 }
def k1c2 : Code := { maxStack := 3, maxLocals := 4, code := method_3_code, exceptionTable := #[], attributes := #[] }
def k1m2 : Method := { name := "step", desc := "([III)I", sig := { parameters := [(.array .int), .int, .int], returnType := some .int }, accessFlags := 10, code := some k1c2 }
def k1c3 : Code := { maxStack := 3, maxLocals := 9, code := method_4_code, exceptionTable := #[], attributes := #[] }
def k1m3 : Method := { name := "seq", desc := "([III)I", sig := { parameters := [(.array .int), .int, .int], returnType := some .int }, accessFlags := 10, code := some k1c3 }
/-- com/example/wide_schema/wideschema/model/NativeTypeIsUtf8PinLaw -/
def k1 : Class := { plain "com/example/wide_schema/wideschema/model/NativeTypeIsUtf8PinLaw" (some 0) with
  accessFlags := 49
  interfaces := #[]
  cf := some (fileOf pool1 9 #[] #[{ accessFlags := 1, nameIndex := 5, descriptorIndex := 6, attributes := #[] }, { accessFlags := 9, nameIndex := 29, descriptorIndex := 30, attributes := #[] }, { accessFlags := 10, nameIndex := 12, descriptorIndex := 13, attributes := #[] }, { accessFlags := 10, nameIndex := 22, descriptorIndex := 13, attributes := #[] }] 49 2 #[] #[])
  fields := #[]
  methods := #[k1m0, k1m1, k1m2, k1m3]
  instanceTypes := #[]
  staticTypes := #[]
  resolved := Array.replicate 38 none
  statics := none }

def pool2 : Array CpInfo := pool [(1, .class_ 2), (0, u "java/lang/constant/Constable"), (0, .class_ 4), (0, u "java/lang/Object")] 6

/-- java/lang/constant/Constable -/
def k2 : Class := { plain "java/lang/constant/Constable" (some 0) with
  accessFlags := 1537
  interfaces := #[]
  cf := some (fileOf pool2 1 #[] #[] 1537 3 #[] #[])
  fields := #[]
  methods := #[]
  instanceTypes := #[]
  staticTypes := #[]
  resolved := Array.replicate 11 none
  statics := none }

def pool3 : Array CpInfo := pool [(1, .class_ 2), (0, u "java/lang/Comparable"), (0, .class_ 4), (0, u "java/lang/Object")] 7

/-- java/lang/Comparable -/
def k3 : Class := { plain "java/lang/Comparable" (some 0) with
  accessFlags := 1537
  interfaces := #[]
  cf := some (fileOf pool3 1 #[] #[] 1537 3 #[] #[])
  fields := #[]
  methods := #[]
  instanceTypes := #[]
  staticTypes := #[]
  resolved := Array.replicate 12 none
  statics := none }

def pool4 : Array CpInfo := pool [(1, .class_ 2), (0, u "java/io/Serializable"), (0, .class_ 4), (0, u "java/lang/Object")] 2

/-- java/io/Serializable -/
def k4 : Class := { plain "java/io/Serializable" (some 0) with
  accessFlags := 1537
  interfaces := #[]
  cf := some (fileOf pool4 1 #[] #[] 1537 3 #[] #[])
  fields := #[]
  methods := #[]
  instanceTypes := #[]
  staticTypes := #[]
  resolved := Array.replicate 7 none
  statics := none }

def pool5 : Array CpInfo := pool [(2, .class_ 4), (1, u "java/lang/Enum"), (0, u "name"), (0, u "Ljava/lang/String;"), (2, u "ordinal"), (0, u "I"), (1, .class_ 14), (1, u "java/lang/Object"), (4, u "hash"), (86, .class_ 108), (1, u "java/lang/Enum$EnumDesc"), (2, .class_ 112), (0, u "java/lang/constant/Constable"), (0, .class_ 114), (0, u "java/lang/Comparable"), (0, .class_ 116), (0, u "java/io/Serializable")] 87

/-- java/lang/Enum -/
def k5 : Class := { plain "java/lang/Enum" (some 0) with
  accessFlags := 1057
  interfaces := #[2, 3, 4]
  cf := some (fileOf pool5 2 #[.nestMembers #[106]] #[] 1057 12 #[111, 113, 115] #[{ accessFlags := 18, nameIndex := 5, descriptorIndex := 6, attributes := #[] }, { accessFlags := 18, nameIndex := 9, descriptorIndex := 10, attributes := #[] }, { accessFlags := 2, nameIndex := 19, descriptorIndex := 10, attributes := #[] }])
  fields := #[{ name := "name", type := (.object "java/lang/String"), accessFlags := 18, slot := 0, constantValue := 0 }, { name := "ordinal", type := .int, accessFlags := 18, slot := 1, constantValue := 0 }, { name := "hash", type := .int, accessFlags := 2, slot := 2, constantValue := 0 }]
  methods := #[]
  instanceTypes := #[(.object "java/lang/String"), .int, .int]
  staticTypes := #[]
  resolved := Array.replicate 204 none
  statics := none }

def pool6 : Array CpInfo := pool [(7, .class_ 8), (0, u "com/example/wide_schema/wideschema/model/CqlType"), (51, .class_ 61), (0, u "java/lang/Object")] 60

/-- com/example/wide_schema/wideschema/model/CqlType -/
def k6 : Class := { plain "com/example/wide_schema/wideschema/model/CqlType" (some 0) with
  accessFlags := 1537
  interfaces := #[]
  cf := some (fileOf pool6 7 #[] #[] 1537 60 #[] #[])
  fields := #[]
  methods := #[]
  instanceTypes := #[]
  staticTypes := #[]
  resolved := Array.replicate 122 none
  statics := none }

def pool7 : Array CpInfo := pool [(1, .class_ 2), (0, u "com/example/wide_schema/wideschema/model/NativeType"), (2, u "TEXT"), (0, u "Lcom/example/wide_schema/wideschema/model/NativeType;"), (2, u "INT"), (2, u "BIGINT"), (2, u "COUNTER"), (2, u "TIMESTAMP"), (2, u "BOOLEAN"), (2, u "UUID"), (2, u "TIMEUUID"), (2, u "INET"), (2, u "$VALUES"), (0, u "[Lcom/example/wide_schema/wideschema/model/NativeType;"), (6, .class_ 43), (1, u "java/lang/Enum"), (11, u "_cqlName"), (0, u "Ljava/lang/String;"), (2, u "_protocolId"), (0, u "I"), (2, u "_quoted"), (0, u "Z"), (2, u "_bytes"), (38, u "DECLARABLE"), (0, u "Ljava/util/Set;"), (71, .class_ 180), (0, u "com/example/wide_schema/wideschema/model/NativeType$1"), (6, .class_ 188), (0, u "com/example/wide_schema/wideschema/model/NativeType$2"), (4, .class_ 194), (0, u "com/example/wide_schema/wideschema/model/NativeType$3"), (6, .class_ 202), (0, u "com/example/wide_schema/wideschema/model/NativeType$4"), (4, .class_ 208), (0, u "com/example/wide_schema/wideschema/model/NativeType$5"), (4, .class_ 214), (0, u "com/example/wide_schema/wideschema/model/NativeType$6"), (4, .class_ 220), (0, u "com/example/wide_schema/wideschema/model/NativeType$7"), (4, .class_ 226), (0, u "com/example/wide_schema/wideschema/model/NativeType$8"), (4, .class_ 232), (0, u "com/example/wide_schema/wideschema/model/NativeType$9"), (23, u "TIMESTAMP_LITERAL"), (0, u "Ljava/util/regex/Pattern;"), (14, u "TIMESTAMP_FORMAT"), (0, u "Ljava/time/format/DateTimeFormatter;"), (4, u "IPV4_LITERAL"), (4, u "IPV6_CHARACTERS"), (4, u "UUID_TEXT"), (0, .class_ 290), (0, u "com/example/wide_schema/wideschema/model/CqlType"), (0, u "UUID_DIGITS"), (3, u "ANY_LENGTH"), (19, u "isUtf8"), (0, u "([B)Z")] 36

def k7c0 : Code := { maxStack := 3, maxLocals := 8, code := prog_56_method_10_code, exceptionTable := #[], attributes := #[] }
def k7m0 : Method := { name := "isUtf8", desc := "([B)Z", sig := { parameters := [(.array .byte)], returnType := some .boolean }, accessFlags := 8, code := some k7c0 }
/-- com/example/wide_schema/wideschema/model/NativeType -/
def k7 : Class := { plain "com/example/wide_schema/wideschema/model/NativeType" (some 5) with
  accessFlags := 17441
  interfaces := #[6]
  cf := some (fileOf pool7 1 #[.nestMembers #[231, 225, 219, 213, 207, 201, 193, 187, 179]] #[{ accessFlags := 8, nameIndex := 315, descriptorIndex := 316, attributes := #[] }] 17441 41 #[289] #[{ accessFlags := 16409, nameIndex := 5, descriptorIndex := 6, attributes := #[] }, { accessFlags := 16409, nameIndex := 9, descriptorIndex := 6, attributes := #[] }, { accessFlags := 16409, nameIndex := 12, descriptorIndex := 6, attributes := #[] }, { accessFlags := 16409, nameIndex := 15, descriptorIndex := 6, attributes := #[] }, { accessFlags := 16409, nameIndex := 18, descriptorIndex := 6, attributes := #[] }, { accessFlags := 16409, nameIndex := 21, descriptorIndex := 6, attributes := #[] }, { accessFlags := 16409, nameIndex := 24, descriptorIndex := 6, attributes := #[] }, { accessFlags := 16409, nameIndex := 27, descriptorIndex := 6, attributes := #[] }, { accessFlags := 16409, nameIndex := 30, descriptorIndex := 6, attributes := #[] }, { accessFlags := 25, nameIndex := 291, descriptorIndex := 56, attributes := #[] }, { accessFlags := 26, nameIndex := 106, descriptorIndex := 107, attributes := #[] }, { accessFlags := 26, nameIndex := 295, descriptorIndex := 60, attributes := #[] }, { accessFlags := 26, nameIndex := 256, descriptorIndex := 257, attributes := #[] }, { accessFlags := 26, nameIndex := 272, descriptorIndex := 273, attributes := #[] }, { accessFlags := 26, nameIndex := 278, descriptorIndex := 257, attributes := #[] }, { accessFlags := 26, nameIndex := 283, descriptorIndex := 257, attributes := #[] }, { accessFlags := 26, nameIndex := 288, descriptorIndex := 257, attributes := #[] }, { accessFlags := 18, nameIndex := 55, descriptorIndex := 56, attributes := #[] }, { accessFlags := 18, nameIndex := 59, descriptorIndex := 60, attributes := #[] }, { accessFlags := 18, nameIndex := 63, descriptorIndex := 64, attributes := #[] }, { accessFlags := 18, nameIndex := 67, descriptorIndex := 60, attributes := #[] }, { accessFlags := 4122, nameIndex := 33, descriptorIndex := 34, attributes := #[] }])
  fields := #[{ name := "TEXT", type := (.object "com/example/wide_schema/wideschema/model/NativeType"), accessFlags := 16409, slot := 0, constantValue := 0 }, { name := "INT", type := (.object "com/example/wide_schema/wideschema/model/NativeType"), accessFlags := 16409, slot := 1, constantValue := 0 }, { name := "BIGINT", type := (.object "com/example/wide_schema/wideschema/model/NativeType"), accessFlags := 16409, slot := 2, constantValue := 0 }, { name := "COUNTER", type := (.object "com/example/wide_schema/wideschema/model/NativeType"), accessFlags := 16409, slot := 3, constantValue := 0 }, { name := "TIMESTAMP", type := (.object "com/example/wide_schema/wideschema/model/NativeType"), accessFlags := 16409, slot := 4, constantValue := 0 }, { name := "BOOLEAN", type := (.object "com/example/wide_schema/wideschema/model/NativeType"), accessFlags := 16409, slot := 5, constantValue := 0 }, { name := "UUID", type := (.object "com/example/wide_schema/wideschema/model/NativeType"), accessFlags := 16409, slot := 6, constantValue := 0 }, { name := "TIMEUUID", type := (.object "com/example/wide_schema/wideschema/model/NativeType"), accessFlags := 16409, slot := 7, constantValue := 0 }, { name := "INET", type := (.object "com/example/wide_schema/wideschema/model/NativeType"), accessFlags := 16409, slot := 8, constantValue := 0 }, { name := "UUID_DIGITS", type := (.object "java/lang/String"), accessFlags := 25, slot := 9, constantValue := 0 }, { name := "DECLARABLE", type := (.object "java/util/Set"), accessFlags := 26, slot := 10, constantValue := 0 }, { name := "ANY_LENGTH", type := .int, accessFlags := 26, slot := 11, constantValue := 0 }, { name := "TIMESTAMP_LITERAL", type := (.object "java/util/regex/Pattern"), accessFlags := 26, slot := 12, constantValue := 0 }, { name := "TIMESTAMP_FORMAT", type := (.object "java/time/format/DateTimeFormatter"), accessFlags := 26, slot := 13, constantValue := 0 }, { name := "IPV4_LITERAL", type := (.object "java/util/regex/Pattern"), accessFlags := 26, slot := 14, constantValue := 0 }, { name := "IPV6_CHARACTERS", type := (.object "java/util/regex/Pattern"), accessFlags := 26, slot := 15, constantValue := 0 }, { name := "UUID_TEXT", type := (.object "java/util/regex/Pattern"), accessFlags := 26, slot := 16, constantValue := 0 }, { name := "_cqlName", type := (.object "java/lang/String"), accessFlags := 18, slot := 3, constantValue := 0 }, { name := "_protocolId", type := .int, accessFlags := 18, slot := 4, constantValue := 0 }, { name := "_quoted", type := .boolean, accessFlags := 18, slot := 5, constantValue := 0 }, { name := "_bytes", type := .int, accessFlags := 18, slot := 6, constantValue := 0 }, { name := "$VALUES", type := (.array (.object "com/example/wide_schema/wideschema/model/NativeType")), accessFlags := 4122, slot := 17, constantValue := 0 }]
  methods := #[k7m0]
  instanceTypes := #[(.object "java/lang/String"), .int, .int, (.object "java/lang/String"), .int, .boolean, .int]
  staticTypes := #[(.object "com/example/wide_schema/wideschema/model/NativeType"), (.object "com/example/wide_schema/wideschema/model/NativeType"), (.object "com/example/wide_schema/wideschema/model/NativeType"), (.object "com/example/wide_schema/wideschema/model/NativeType"), (.object "com/example/wide_schema/wideschema/model/NativeType"), (.object "com/example/wide_schema/wideschema/model/NativeType"), (.object "com/example/wide_schema/wideschema/model/NativeType"), (.object "com/example/wide_schema/wideschema/model/NativeType"), (.object "com/example/wide_schema/wideschema/model/NativeType"), (.object "java/lang/String"), (.object "java/util/Set"), .int, (.object "java/util/regex/Pattern"), (.object "java/time/format/DateTimeFormatter"), (.object "java/util/regex/Pattern"), (.object "java/util/regex/Pattern"), (.object "java/util/regex/Pattern"), (.array (.object "com/example/wide_schema/wideschema/model/NativeType"))]
  resolved := Array.replicate 353 none
  statics := none }

def pool8 : Array CpInfo := pool [(1, u "java/lang/Cloneable"), (0, .class_ 1), (0, u "java/lang/Object"), (0, .class_ 3)] 3

/-- java/lang/Cloneable -/
def k8 : Class := { plain "java/lang/Cloneable" (some 0) with
  accessFlags := 1537
  interfaces := #[]
  cf := some (fileOf pool8 2 #[] #[] 1537 4 #[] #[])
  fields := #[]
  methods := #[]
  instanceTypes := #[]
  staticTypes := #[]
  resolved := Array.replicate 8 none
  statics := none }

/-- the primitive byte -/
def k9 : Class := { plain "byte" none with kind := .primitive 'B', accessFlags := 0x411 }
/-- [B -/
def k10 : Class := { plain "[B" (some 0) with kind := .array 9 .byte, interfaces := #[8, 4], accessFlags := 1041 }

/-- the primitive int -/
def k11 : Class := { plain "int" none with kind := .primitive 'I', accessFlags := 0x411 }
/-- [I -/
def k12 : Class := { plain "[I" (some 0) with kind := .array 11 .int, interfaces := #[8, 4], accessFlags := 1041 }

def heap : Heap := #[]
def classes : Array Class := #[k0, k1, k2, k3, k4, k5, k6, k7, k8, k9, k10, k11, k12]
def interned : List (Array UInt16 × Addr) := []
def slotsUsed : Nat := 0
def theMethod : MethodId := ⟨1, 1⟩
def args0 : Array Value := #[.int 5, .int 7, .int 8]
def aboutOver (below : List Frame) : State where
  vm := { classes := classes, interned := interned.toArray }
  heap := heap
  slotsUsed := slotsUsed
  threads := #[{ frames := .invoking theMethod args0 :: below }]
def below0 : List Frame := [.native { method := ⟨0, 0⟩, args := #[] }]
def about1 : State := aboutOver below0
def p0 : Program := .bare "" "" ""
def e0 : Env := launch0.env 0 0 0
theorem w_frames : about1.frames = Frame.invoking theMethod args0 :: below0 := rfl
set_option maxRecDepth 65536 in
theorem w_args : argsFit about1.vm theMethod args0 = true := by decide +kernel
set_option maxRecDepth 65536 in
theorem w_heap : heapFits about1 = true := by decide +kernel
set_option maxRecDepth 65536 in
theorem w_runnable : about1.curStatus? = some .runnable := by decide +kernel
set_option maxRecDepth 65536 in
theorem w_alone : about1.alone = true := by decide +kernel
set_option maxRecDepth 65536 in
theorem w_named : about1.methodNamed? x = some theMethod := by decide +kernel
set_option maxRecDepth 65536 in
theorem w_hears : about1.hears theMethod below0 = true := by decide +kernel
set_option maxRecDepth 65536 in
theorem w_ripe : about1.ripe theMethod args0 below0 = true := by decide +kernel
theorem w_running : about1.status = .running := rfl
set_option maxRecDepth 65536 in
theorem w_room : about1.hasRoom e0.platform room_1 = true :=
  launch0.hasRoom_least _ room_1 (by decide +kernel) (by decide +kernel) (by decide +kernel) (by decide +kernel) (by decide +kernel) (by decide +kernel)
theorem allAtoms_all (ts : List Jvm.Cond) (a : Array Jvm.Value) (st : Jvm.State) : (allAtoms ts).before a st = ts.all (fun c => c.before a st) := by
  induction ts with
  | nil => rfl
  | cons c t ih =>
    show (Jvm.Cond.and c (allAtoms t)).before a st = _
    rw [Jvm.Cond.before_and, ih, List.all_cons]
def words1 : List Jvm.Cond := Jvm.Cond.code x code maxLocals ret :: tables_1
/-- a 'code' word, met by the world's own term for the bytes: nothing is compared byte by byte -/
theorem code_word {y : MethodName} {bytes : ByteArray} {mx : Nat} {rt : Option FieldType} {a : Array Value} {s : State} {m : MethodId} {meth : Method} {c : Code} (h1 : s.methodNamed? y = some m) (h2 : s.vm.method? m = some meth) (h3 : meth.code = some c) (h4 : c.code = bytes)
    (h5 : (c.maxLocals == mx && c.exceptionTable.isEmpty && decide (c.maxStack ≤ mostOperands) && decide (meth.sig.returnType = rt) && !meth.locks && decide (parseMethodDescriptor y.desc = some meth.sig)) = true) : (Jvm.Cond.code y bytes mx rt).before a s = true := by
  simp only [Bool.and_eq_true, beq_iff_eq, Bool.not_eq_true', decide_eq_true_eq] at h5
  obtain ⟨⟨⟨⟨⟨g1, g2⟩, g3⟩, g4⟩, g5⟩, g6⟩ := h5
  simp [Cond.before, Cond.holds, Cond.value, h1, h2, h3, h4, g1, g2, g3, g4, g5, g6]
def isCode : Jvm.Cond → Bool
  | .code _ _ _ _ => true
  | _ => false
theorem all_split {L : List Jvm.Cond} {P : Jvm.Cond → Bool} (h1 : L.all (fun c => isCode c || P c) = true) (h2 : ∀ c ∈ L.filter isCode, P c = true) : L.all P = true := by
  refine List.all_eq_true.mpr fun c hc => ?_
  have h := List.all_eq_true.mp h1 c hc
  rcases Bool.eq_false_or_eq_true (isCode c) with hi | hi
  · exact h2 c (List.mem_filter.mpr ⟨hc, hi⟩)
  · simpa [hi] using h
set_option maxRecDepth 65536 in
theorem w_c0 : (Jvm.Cond.code x code maxLocals ret).before args0 about1 = true := code_word (m := ⟨1, 1⟩) (meth := k1m1) (c := k1c1) (by decide +kernel) rfl rfl rfl (by decide +kernel)
set_option maxRecDepth 65536 in
theorem w_c1 : (Jvm.Cond.code ({ cls := "com/example/wide_schema/wideschema/model/NativeTypeIsUtf8PinLaw", name := "step", desc := "([III)I" } : Jvm.MethodName) method_3_code (4 : Nat) (Option.some Jvm.ClassFile.FieldType.int)).before args0 about1 = true := code_word (m := ⟨1, 2⟩) (meth := k1m2) (c := k1c2) (by decide +kernel) rfl rfl rfl (by decide +kernel)
set_option maxRecDepth 65536 in
theorem w_c2 : (Jvm.Cond.code ({ cls := "com/example/wide_schema/wideschema/model/NativeTypeIsUtf8PinLaw", name := "seq", desc := "([III)I" } : Jvm.MethodName) method_4_code (9 : Nat) (Option.some Jvm.ClassFile.FieldType.int)).before args0 about1 = true := code_word (m := ⟨1, 3⟩) (meth := k1m3) (c := k1c3) (by decide +kernel) rfl rfl rfl (by decide +kernel)
set_option maxRecDepth 65536 in
theorem w_c3 : (Jvm.Cond.code ({ cls := "com/example/wide_schema/wideschema/model/NativeType", name := "isUtf8", desc := "([B)Z" } : Jvm.MethodName) prog_56_method_10_code (8 : Nat) (Option.some Jvm.ClassFile.FieldType.boolean)).before args0 about1 = true := code_word (m := ⟨7, 0⟩) (meth := k7m0) (c := k7c0) (by decide +kernel) rfl rfl rfl (by decide +kernel)
def codes1 : List Jvm.Cond := [Jvm.Cond.code x code maxLocals ret, Jvm.Cond.code ({ cls := "com/example/wide_schema/wideschema/model/NativeTypeIsUtf8PinLaw", name := "step", desc := "([III)I" } : Jvm.MethodName) method_3_code (4 : Nat) (Option.some Jvm.ClassFile.FieldType.int), Jvm.Cond.code ({ cls := "com/example/wide_schema/wideschema/model/NativeTypeIsUtf8PinLaw", name := "seq", desc := "([III)I" } : Jvm.MethodName) method_4_code (9 : Nat) (Option.some Jvm.ClassFile.FieldType.int), Jvm.Cond.code ({ cls := "com/example/wide_schema/wideschema/model/NativeType", name := "isUtf8", desc := "([B)Z" } : Jvm.MethodName) prog_56_method_10_code (8 : Nat) (Option.some Jvm.ClassFile.FieldType.boolean)]
set_option maxRecDepth 65536 in
theorem codes_eq : words1.filter isCode = codes1 := rfl
theorem w_codes : ∀ c ∈ words1.filter isCode, c.before args0 about1 = true := by
  rw [codes_eq]
  intro c hc
  simp only [codes1, List.mem_cons, List.not_mem_nil, or_false] at hc
  rcases hc with rfl | rfl | rfl | rfl
  · exact w_c0
  · exact w_c1
  · exact w_c2
  · exact w_c3
set_option maxRecDepth 65536 in
theorem w_t1 : words1.all (fun c => isCode c || c.before args0 about1) = true := by decide +kernel
theorem w_tables : (allAtoms (Jvm.Cond.code x code maxLocals ret :: tables_1)).before args0 about1 = true := by
  rw [allAtoms_all]
  show words1.all (fun c => c.before args0 about1) = true
  refine all_split ?_ w_codes
  rw [w_t1]
set_option maxRecDepth 65536 in
theorem w_case : (Jvm.Cond.and given_1 narrow_1).before args0 about1 = true := by decide +kernel
theorem w_applies : (headSpec (Jvm.Cond.code x code maxLocals ret :: tables_1) room_1).applies x e0.platform about1 = true :=
  (Spec.applies_iff w_frames).mpr ⟨w_running, w_runnable, w_alone, w_named, w_hears, w_ripe, w_room, w_tables⟩
theorem atStart : AtStart classFile x code maxLocals ret World_1 tables_1 room_1 Calls_1 rest_1 Pre_1 launch0 p0 e0 about1 theMethod args0 below0 :=
  ⟨lists_1, trivial, launch0.admits_env _ _ _, launch0.least_env, fairChoices_fair.cas, fairChoices_fair.clock, w_frames, w_args, w_heap, w_applies, trivial, trivial, w_case⟩
end start1
theorem witness_1 : WitnessClaimed_1 := ⟨start1.p0, start1.e0, start1.about1, start1.theMethod, start1.args0, start1.below0, start1.atStart⟩
end Jvm.Pilot.@@N@@
