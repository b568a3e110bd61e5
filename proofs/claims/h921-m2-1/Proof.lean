import JvmDerived
import JvmDerived.Pilot.@@N@@Statement
import JvmDerived.Pilot.@@N@@Code
set_option linter.unusedVariables false
set_option linter.unusedSimpArgs false
namespace Jvm.Pilot.@@N@@
open Jvm Jvm.ClassFile Sem Op Lib Jvm.Free Jvm.Stand Jvm.LawKit Jvm.RoadKit Bundle Jvm.Pilot.@@N@@.Jvm.D
section Own
variable {p : Program} {l : Launch} {e : Env} {R : Room} {s : State} {m : MethodId} {args : Array Value} {below : List Frame} {meth : Method} {c : Code} {T : State} {locs : List Loc} {cells slots : Nat} {Z : State} {a0 : Array Value} {h h' : Heap} {Q : Option Value → Heap → List Loc → Prop} {k n : Nat}
/-- from U the walk comes to a return of which Q holds -/
def Goes (p : Program) (e : Env) (below : List Frame) (s : State) (Q : Option Value → Heap → List Loc → Prop) (k n : Nat) (U : State) : Prop :=
  ∃ s₂ o, Steps p.tables e below U s₂ ∧ s₂.status = .running ∧ Ended s₂ below o ∧ ∃ v L, o = .returned v ∧ Q v s₂.heap L ∧ FrameEnd s o s₂ L k n
theorem Goes.go {U U' : State} (h : ∀ t, Steps p.tables e below U' t → Steps p.tables e below U t) (r : Goes p e below s Q k n U') : Goes p e below s Q k n U := by
  obtain ⟨s₂, o, h1, r⟩ := r
  exact ⟨s₂, o, h _ h1, r⟩
theorem Goes.outI (X : Stand p l e R s m args below meth c T locs cells slots) (hx : p.tables.exec = Jvm.exec) (hlk : meth.locks = false) (hret : meth.sig.returnType = some .int) {pc : Nat} {Ls : Array Slot} {z : Int32} (hd : decode c.code pc = .ok (.ireturn, 1)) (eT : T.heap = h) (hq : Q (some (.int z)) h locs) (hk : cells ≤ k) (hn : slots ≤ n) :
    Goes p e below s Q k n (T.setTop (mkF m pc Ls [.int z])) := by
  obtain ⟨fs, hr, hrun, hended, hW, hsame⟩ := X.leave (v := some (.int z)) (fun h => by rw [hret] at h; cases h) hlk
  refine ⟨_, _, X.ireturnOut hx hret rfl (Or.inl rfl) hd hr, hrun, hended, _, _, rfl, ?_, ⟨_, rfl⟩, hW, hsame.mono hk hn⟩
  show Q _ T.heap _
  rw [eT]; exact hq
theorem Goes.outZ (X : Stand p l e R s m args below meth c T locs cells slots) (hx : p.tables.exec = Jvm.exec) (hlk : meth.locks = false) (hret : meth.sig.returnType = some .boolean) {pc : Nat} {Ls : Array Slot} {z : Int32} (hz : narrow .boolean (.int z) = .int z) (hd : decode c.code pc = .ok (.ireturn, 1)) (eT : T.heap = h) (hq : Q (some (.int z)) h locs) (hk : cells ≤ k) (hn : slots ≤ n) :
    Goes p e below s Q k n (T.setTop (mkF m pc Ls [.int z])) := by
  obtain ⟨fs, hr, hrun, hended, hW, hsame⟩ := X.leave (v := some (.int z)) (fun h => by rw [hret] at h; cases h) hlk
  refine ⟨_, _, X.ireturnOut hx hret hz (Or.inr (Or.inl rfl)) hd hr, hrun, hended, _, _, rfl, ?_, ⟨_, rfl⟩, hW, hsame.mono hk hn⟩
  show Q _ T.heap _
  rw [eT]; exact hq
theorem Goes.outJ (X : Stand p l e R s m args below meth c T locs cells slots) (hx : p.tables.exec = Jvm.exec) (hlk : meth.locks = false) (hret : meth.sig.returnType = some .long) {pc : Nat} {Ls : Array Slot} {z : Int64} (hd : decode c.code pc = .ok (.lreturn, 1)) (eT : T.heap = h) (hq : Q (some (.long z)) h locs) (hk : cells ≤ k) (hn : slots ≤ n) :
    Goes p e below s Q k n (T.setTop (mkF m pc Ls [.long z])) := by
  obtain ⟨fs, hr, hrun, hended, hW, hsame⟩ := X.leave (v := some (.long z)) (fun h => by rw [hret] at h; cases h) hlk
  refine ⟨_, _, X.lreturnOut hx hret hd hr, hrun, hended, _, _, rfl, ?_, ⟨_, rfl⟩, hW, hsame.mono hk hn⟩
  show Q _ T.heap _
  rw [eT]; exact hq
theorem Goes.outA (X : Stand p l e R s m args below meth c T locs cells slots) (hx : p.tables.exec = Jvm.exec) (hlk : meth.locks = false) {t : FieldType} (hret : meth.sig.returnType = some t) (ht : t.isReference = true) {pc : Nat} {Ls : Array Slot} {w : Value} (hw : w.isRef = true) (hd : decode c.code pc = .ok (.areturn, 1)) (eT : T.heap = h) (hq : Q (some w) h locs) (hk : cells ≤ k) (hn : slots ≤ n) :
    Goes p e below s Q k n (T.setTop (mkF m pc Ls [w])) := by
  obtain ⟨fs, hr, hrun, hended, hW, hsame⟩ := X.leave (v := some w) (fun h => by rw [hret] at h; cases h) hlk
  refine ⟨_, _, X.areturnOut hx hw hret ht hd hr, hrun, hended, _, _, rfl, ?_, ⟨_, rfl⟩, hW, hsame.mono hk hn⟩
  show Q _ T.heap _
  rw [eT]; exact hq
theorem Goes.outV (X : Stand p l e R s m args below meth c T locs cells slots) (hx : p.tables.exec = Jvm.exec) (hlk : meth.locks = false) (hret : meth.sig.returnType = none) {pc : Nat} {Ls : Array Slot} (hd : decode c.code pc = .ok (.return_, 1)) (eT : T.heap = h) (hq : Q none h locs) (hk : cells ≤ k) (hn : slots ≤ n) :
    Goes p e below s Q k n (T.setTop (mkF m pc Ls [])) := by
  obtain ⟨fs, hr, hrun, hended, hW, hsame⟩ := X.leave (v := none) (fun _ => rfl) hlk
  refine ⟨_, _, X.returnOut hx hret hd hr, hrun, hended, _, _, rfl, ?_, ⟨_, rfl⟩, hW, hsame.mono hk hn⟩
  show Q _ T.heap _
  rw [eT]; exact hq
/-- an array, by the list of what it holds -/
def Arl (Z : State) (h : Heap) (a : Addr) (ty : FieldType) (vs : List Value) : Prop := ∃ c : Cell, Arr Z h a c ty ∧ c.slots.toList = vs
section Arls
variable {a b : Addr} {ty : FieldType} {vs : List Value} {v : Value} {sl : Nat} {ws : List Addr} {j : Int32}
theorem Arl.lt (F : Arl Z h a ty vs) : a < h.size := by obtain ⟨c, A, -⟩ := F; exact A.lt
theorem Arl.ext (F : Arl Z h a ty vs) (E : Ext h h') : Arl Z h' a ty vs := by obtain ⟨c, A, r⟩ := F; exact ⟨c, A.ext E, r⟩
theorem Arl.other (F : Arl Z h b ty vs) (W : Wr h h' a sl v) (q : b ≠ a) : Arl Z h' b ty vs := by obtain ⟨c, A, r⟩ := F; exact ⟨c, A.other W q, r⟩
theorem Arl.keep (F : Arl Z h a ty vs) (K : Keep h h' ws) (q : a ∉ ws) : Arl Z h' a ty vs := by obtain ⟨c, A, r⟩ := F; exact ⟨c, ⟨K.2.1 a c A.1 q, A.2⟩, r⟩
theorem Arl.set (F : Arl Z h a ty vs) (W : Wr h h' a sl v) : Arl Z h' a ty (vs.set sl v) := by
  obtain ⟨c, A, r⟩ := F
  refine ⟨_, A.same W, ?_⟩
  subst r
  simp [Cell.setSlot]
theorem Arl.eq {vs' : List Value} (F : Arl Z h a ty vs) (e : vs = vs') : Arl Z h a ty vs' := e ▸ F
theorem own_in {c : Cell} (r : c.slots.toList = vs) (h0 : ¬ j < 0) (h1 : j.toNatClampNeg < vs.length) : ¬ (j < 0 ∨ c.slots.size ≤ j.toNatClampNeg) := by
  subst r
  intro q
  rcases q with q | q
  · exact h0 q
  · rw [Array.length_toList] at h1; omega
theorem own_lt (hv : vs[sl]? = some v) : sl < vs.length := (List.getElem?_eq_some_iff.mp hv).1
end Arls
theorem own_ati {xs : List Int32} {j : Nat} {w : Int32} (h : xs[j]? = some w) : (xs.map Value.int)[j]? = some (.int w) := by
  rw [List.getElem?_map, h]; rfl
theorem own_lni {xs : List Int32} {j k : Nat} (hl : xs.length = k) (h : j < k) : j < (xs.map Value.int).length := by
  rw [List.length_map, hl]; exact h
theorem own_sti {a : Addr} {xs : List Int32} {j : Nat} {w : Int32} (A : Arl Z h a .int ((xs.map Value.int).set j (.int w))) : Arl Z h a .int ((xs.set j w).map Value.int) := A.eq List.map_set.symm
theorem own_selP {C : String} {y y' : MethodName} (hs : (Cond.selects C y' y').before args s = true) (hcls : y'.cls = y.cls) (hpriv : s.PrivateAt y) (hinst : (Cond.instanceMethod y).before args s = true) (hy : y.cls ≠ "java/lang/invoke/MethodHandle" ∧ y.cls ≠ "java/lang/invoke/VarHandle") : (Cond.selects y.cls y y).before args s = true := by
  obtain ⟨c2, r2, m2, -, -, q3, -, kP, hkP, hkPi⟩ := Cond.selects_spec hs
  have hc : s.vm.findClass y.cls = some m2.cls := hcls ▸ findClass_of_methodNamed q3
  exact selects_self_of_private hc hkP hkPi hpriv hinst hy
theorem own_neA {a b : Addr} {C : String} {k : Nat} {ty : FieldType} {vs : List Value} (F : Exa Z h a C) (wi : (Cond.instantiable C k).before a0 Z = true) (G : Arl Z h b ty vs) : a ≠ b := by
  obtain ⟨c', A', -⟩ := G
  exact ne_arr F wi A'
theorem own_newP (X : Stand p l e R s m args below meth c T locs cells slots) (hx : p.tables.exec = Jvm.exec) (hZ : Z.Warmed39 s.vm) {aty : ArrayType} (w : (Cond.arrayClass (newarray.typeOf aty)).before a0 Z = true) (eT : T.heap = h) {g : JFrame} (hg : g.method = m) (hd : decode c.code g.pc = .ok (.newarray aty, 2)) {n : Int32} {rest : List Value} (hs : g.stack = .int n :: rest)
    (hn : ¬ n < 0) {cap : Nat} (hcap : n.toNatClampNeg ≤ cap) (hb : cap * 8 ≤ 536870912) (hc : cells + 1 ≤ R.cells) (hl : slots + cap ≤ R.slots) :
    ∃ T' h', Stand p l e R s m args below meth c T' locs (cells + 1) (slots + cap) ∧ T'.heap = h' ∧ Ext h h' ∧ Arl Z h' h.size (newarray.typeOf aty) (List.replicate n.toNatClampNeg (defaultValue (newarray.typeOf aty))) ∧
      ∀ target, Steps p.tables e below (T'.setTop { g with pc := g.pc + 2, stack := .ref h.size :: rest }) target → Steps p.tables e below (T.setTop g) target := by
  obtain ⟨T', h', cA, X', e', E', A', st⟩ := newP X hx hZ w eT hg hd hs hn hcap hb hc hl
  exact ⟨T', h', X', e', E', ⟨_, A', by simp [newA]⟩, st⟩
theorem own_stB (X : Stand p l e R s m args below meth c T locs cells slots) (hx : p.tables.exec = Jvm.exec) (hZ : Z.Warmed39 s.vm) (eT : T.heap = h) {a : Addr} {vs : List Value} (A : Arl Z h a .byte vs) {j x : Int32} (hj : ¬ j < 0) (hj' : j.toNatClampNeg < vs.length) {g : JFrame} (hg : g.method = m) {rest : List Value} (hs : g.stack = .int x :: .int j :: .ref a :: rest) (hd : decode c.code g.pc = .ok (.bastore, 1)) :
    ∃ T' h', Stand p l e R s m args below meth c T' (locs ++ [⟨a, j.toNatClampNeg⟩]) cells slots ∧ T'.heap = h' ∧ Wr h h' a j.toNatClampNeg (.int x.toInt8.toInt32) ∧ Arl Z h' a .byte (vs.set j.toNatClampNeg (.int x.toInt8.toInt32)) ∧ ∀ target, Steps p.tables e below (T'.setTop { g with pc := g.pc + 1, stack := rest }) target → Steps p.tables e below (T.setTop g) target := by
  obtain ⟨c', A', r⟩ := A
  obtain ⟨T', h', X', e', W, st⟩ := stB X hx hZ eT A' (own_in r hj hj') hg hs hd
  exact ⟨T', h', X', e', W, Arl.set ⟨c', A', r⟩ W, st⟩
theorem own_stI (X : Stand p l e R s m args below meth c T locs cells slots) (hx : p.tables.exec = Jvm.exec) (hZ : Z.Warmed39 s.vm) (eT : T.heap = h) {a : Addr} {vs : List Value} (A : Arl Z h a .int vs) {j x : Int32} (hj : ¬ j < 0) (hj' : j.toNatClampNeg < vs.length) {g : JFrame} (hg : g.method = m) {rest : List Value} (hs : g.stack = .int x :: .int j :: .ref a :: rest) (hd : decode c.code g.pc = .ok (.iastore, 1)) :
    ∃ T' h', Stand p l e R s m args below meth c T' (locs ++ [⟨a, j.toNatClampNeg⟩]) cells slots ∧ T'.heap = h' ∧ Wr h h' a j.toNatClampNeg (.int x) ∧ Arl Z h' a .int (vs.set j.toNatClampNeg (.int x)) ∧ ∀ target, Steps p.tables e below (T'.setTop { g with pc := g.pc + 1, stack := rest }) target → Steps p.tables e below (T.setTop g) target := by
  obtain ⟨c', A', r⟩ := A
  obtain ⟨T', h', X', e', W, st⟩ := stI X hx hZ eT A' (own_in r hj hj') hg hs hd
  exact ⟨T', h', X', e', W, Arl.set ⟨c', A', r⟩ W, st⟩
theorem own_stJ (X : Stand p l e R s m args below meth c T locs cells slots) (hx : p.tables.exec = Jvm.exec) (hZ : Z.Warmed39 s.vm) (eT : T.heap = h) {a : Addr} {vs : List Value} (A : Arl Z h a .long vs) {j : Int32} {x : Int64} (hj : ¬ j < 0) (hj' : j.toNatClampNeg < vs.length) {g : JFrame} (hg : g.method = m) {rest : List Value} (hs : g.stack = .long x :: .int j :: .ref a :: rest) (hd : decode c.code g.pc = .ok (.lastore, 1)) :
    ∃ T' h', Stand p l e R s m args below meth c T' (locs ++ [⟨a, j.toNatClampNeg⟩]) cells slots ∧ T'.heap = h' ∧ Wr h h' a j.toNatClampNeg (.long x) ∧ Arl Z h' a .long (vs.set j.toNatClampNeg (.long x)) ∧ ∀ target, Steps p.tables e below (T'.setTop { g with pc := g.pc + 1, stack := rest }) target → Steps p.tables e below (T.setTop g) target := by
  obtain ⟨c', A', r⟩ := A
  obtain ⟨T', h', X', e', W, st⟩ := stJ X hx hZ eT A' (own_in r hj hj') hg hs hd
  exact ⟨T', h', X', e', W, Arl.set ⟨c', A', r⟩ W, st⟩
theorem own_at {a : Addr} {c' : Cell} {vs : List Value} {v : Value} {j : Int32} (r : c'.slots.toList = vs) (hv : vs[j.toNatClampNeg]? = some v) : c'.slots[j.toNatClampNeg]? = some v := by
  subst r; simpa using hv
theorem own_ldB (X : Stand p l e R s m args below meth c T locs cells slots) (hx : p.tables.exec = Jvm.exec) (hZ : Z.Warmed39 s.vm) (eT : T.heap = h) {a : Addr} {vs : List Value} {v : Value} (A : Arl Z h a .byte vs) {j : Int32} (hj : ¬ j < 0) (hv : vs[j.toNatClampNeg]? = some v) {g : JFrame} (hg : g.method = m) {rest : List Value} (hs : g.stack = .int j :: .ref a :: rest) (hd : decode c.code g.pc = .ok (.baload, 1)) :
    ∀ target, Steps p.tables e below (T.setTop { g with pc := g.pc + 1, stack := v :: rest }) target → Steps p.tables e below (T.setTop g) target := by
  obtain ⟨c', A', r⟩ := A
  exact fun t k => X.baloadBytes hx (by rw [eT]; exact A'.1) (State.isArrayOf_alike hZ.alike A'.2.1) A'.2.2 (own_in r hj (own_lt hv)) (own_at (a := a) r hv) hg hs hd t k
theorem own_ldI (X : Stand p l e R s m args below meth c T locs cells slots) (hx : p.tables.exec = Jvm.exec) (hZ : Z.Warmed39 s.vm) (eT : T.heap = h) {a : Addr} {vs : List Value} {v : Value} (A : Arl Z h a .int vs) {j : Int32} (hj : ¬ j < 0) (hv : vs[j.toNatClampNeg]? = some v) {g : JFrame} (hg : g.method = m) {rest : List Value} (hs : g.stack = .int j :: .ref a :: rest) (hd : decode c.code g.pc = .ok (.iaload, 1)) :
    ∀ target, Steps p.tables e below (T.setTop { g with pc := g.pc + 1, stack := v :: rest }) target → Steps p.tables e below (T.setTop g) target := by
  obtain ⟨c', A', r⟩ := A
  exact fun t k => X.iaload hx (by rw [eT]; exact A'.1) (State.isArrayOf_alike hZ.alike A'.2.1) A'.2.2 (own_in r hj (own_lt hv)) (own_at (a := a) r hv) hg hs hd t k
theorem own_ldJ (X : Stand p l e R s m args below meth c T locs cells slots) (hx : p.tables.exec = Jvm.exec) (hZ : Z.Warmed39 s.vm) (eT : T.heap = h) {a : Addr} {vs : List Value} {v : Value} (A : Arl Z h a .long vs) {j : Int32} (hj : ¬ j < 0) (hv : vs[j.toNatClampNeg]? = some v) {g : JFrame} (hg : g.method = m) {rest : List Value} (hs : g.stack = .int j :: .ref a :: rest) (hd : decode c.code g.pc = .ok (.laload, 1)) :
    ∀ target, Steps p.tables e below (T.setTop { g with pc := g.pc + 1, stack := v :: rest }) target → Steps p.tables e below (T.setTop g) target := by
  obtain ⟨c', A', r⟩ := A
  exact fun t k => X.laload hx (by rw [eT]; exact A'.1) (State.isArrayOf_alike hZ.alike A'.2.1) A'.2.2 (own_in r hj (own_lt hv)) (own_at (a := a) r hv) hg hs hd t k
theorem own_len (X : Stand p l e R s m args below meth c T locs cells slots) (hx : p.tables.exec = Jvm.exec) (hZ : Z.Warmed39 s.vm) (eT : T.heap = h) {a : Addr} {ty : FieldType} {vs : List Value} (A : Arl Z h a ty vs) {n : Int32} (hn : vs.length.toInt32 = n) {g : JFrame} (hg : g.method = m) {rest : List Value} (hs : g.stack = .ref a :: rest) (hd : decode c.code g.pc = .ok (.arraylength, 1)) :
    ∀ target, Steps p.tables e below (T.setTop { g with pc := g.pc + 1, stack := .int n :: rest }) target → Steps p.tables e below (T.setTop g) target := by
  obtain ⟨c', A', r⟩ := A
  have q : c'.slots.size.toInt32 = n := by rw [← hn, ← r, Array.length_toList]
  exact fun t k => X.arraylength hx (ty := ty) (by rw [eT]; exact A'.1) (State.isArrayOf_alike hZ.alike A'.2.1) hg hs hd t (q.symm ▸ k)
end Own
theorem own_nar8 (x : Int32) : x.toInt8.toInt32.toInt8.toInt32 = x.toInt8.toInt32 := by simp
theorem own_three (x : Int32) : ((x &&& (2147483647 : Int32)) % (3 : Int32)) = 0 ∨ ((x &&& (2147483647 : Int32)) % (3 : Int32)) = 1 ∨ ((x &&& (2147483647 : Int32)) % (3 : Int32)) = 2 := by
  have h1 := c_mask x 2147483647 31 (by decide) (by decide)
  have h2 := c_irem (x &&& 2147483647) 3 3 (by decide)
  generalize (x &&& (2147483647 : Int32)) % (3 : Int32) = o at *
  have : o.toInt = 0 ∨ o.toInt = 1 ∨ o.toInt = 2 := by omega
  rcases this with h | h | h
  · exact Or.inl (Int32.toInt_inj.mp h)
  · exact Or.inr (Or.inl (Int32.toInt_inj.mp h))
  · exact Or.inr (Or.inr (Int32.toInt_inj.mp h))
theorem own_back (x : Int32) (v : Int32) (hv : (x &&& (65535 : Int32)) = v) : (((((((v).toUInt32 >>> ((8 : Int32) &&& 31).toUInt32).toInt32).toInt8.toInt32 &&& (255 : Int32)) <<< ((8 : Int32) &&& 31)) ||| ((v).toInt8.toInt32 &&& (255 : Int32))) : Int32) = v := by
  have h1 := c_mask x 65535 16 (by decide) (by decide)
  rw [hv] at h1
  have h2 := c_iushr v 8 8 (by decide) (by decide)
  generalize ((v).toUInt32 >>> ((8 : Int32) &&& 31).toUInt32).toInt32 = a at *
  have h3 := c_i2b a
  have h4 := c_i2b v
  generalize a.toInt8.toInt32 = b at *
  generalize v.toInt8.toInt32 = d at *
  have h5 := c_mask b 255 8 (by decide) (by decide)
  have h6 := c_mask d 255 8 (by decide) (by decide)
  generalize b &&& (255 : Int32) = b' at *
  generalize d &&& (255 : Int32) = d' at *
  have h7 := c_ishl b' 8 8 (by decide)
  generalize b' <<< ((8 : Int32) &&& 31) = f at *
  have r1 := rng32 f
  have h8 := c_or f d' 8 (by decide) 256 (by decide) (by omega) (by omega) (by omega)
  have r2 := rng32 (f ||| d')
  apply Int32.toInt_inj.mp
  omega
theorem d1_0 : decode prog_4_method_3_code 0 = .ok (.aload_n 0, 1) := by decide +kernel
theorem d1_1 : decode prog_4_method_3_code 1 = .ok (.iload_n 1, 1) := by decide +kernel
theorem d1_2 : decode prog_4_method_3_code 2 = .ok (.baload, 1) := by decide +kernel
theorem d1_3 : decode prog_4_method_3_code 3 = .ok (.sipush 255, 3) := by decide +kernel
theorem d1_6 : decode prog_4_method_3_code 6 = .ok (.iand, 1) := by decide +kernel
theorem d1_7 : decode prog_4_method_3_code 7 = .ok (.bipush 8, 2) := by decide +kernel
theorem d1_9 : decode prog_4_method_3_code 9 = .ok (.ishl, 1) := by decide +kernel
theorem d1_10 : decode prog_4_method_3_code 10 = .ok (.aload_n 0, 1) := by decide +kernel
theorem d1_11 : decode prog_4_method_3_code 11 = .ok (.iload_n 1, 1) := by decide +kernel
theorem d1_12 : decode prog_4_method_3_code 12 = .ok (.iconst 1, 1) := by decide +kernel
theorem d1_13 : decode prog_4_method_3_code 13 = .ok (.iadd, 1) := by decide +kernel
theorem d1_14 : decode prog_4_method_3_code 14 = .ok (.baload, 1) := by decide +kernel
theorem d1_15 : decode prog_4_method_3_code 15 = .ok (.sipush 255, 3) := by decide +kernel
theorem d1_18 : decode prog_4_method_3_code 18 = .ok (.iand, 1) := by decide +kernel
theorem d1_19 : decode prog_4_method_3_code 19 = .ok (.ior, 1) := by decide +kernel
theorem d1_20 : decode prog_4_method_3_code 20 = .ok (.ireturn, 1) := by decide +kernel
theorem pn0 : plainName "com/example/rigid_keyblock/rigidkeyblock/Bytes" = true := by first | (simp [plainName, overriddenIn]; done) | decide +kernel
theorem ef_rm1 (m : MethodId) (a1 : Addr) (p2 : Int32) : entryFrame m #[(.ref a1), (.int p2)] 2 = mkF m 0 #[.val (.ref a1), .val (.int p2)] [] := by first | (simp [entryFrame, mkF, argsToLocals, Value.category]; done) | rfl
def Q_rm1 (Z : State) (a1 : Addr) (p2 : Int32) (vs : List Value) (w3 : Int32) (w4 : Int32) (h0 : Heap) (n0 : Nat) (v : Option Value) (h : Heap) (L : List Loc) : Prop := v = some (.int (((w3 &&& (255 : Int32)) <<< ((8 : Int32) &&& 31)) ||| (w4 &&& (255 : Int32)))) ∧ Fr n0 L ∧ h = h0
set_option maxRecDepth 65536 in
set_option maxHeartbeats 40000000 in
theorem rm1 (l : Launch) (Z : State) (a0 : Array Value) (hw : ∀ d ∈ tables_1, d.before a0 Z = true) (ws : List Jvm.Cond) (a1 : Addr) (p2 : Int32) (vs : List Value) (w3 : Int32) (w4 : Int32) (h0 : Heap) (n0 : Nat) (Z0 : n0 ≤ h0.size) (A1 : Arl Z h0 a1 .byte vs) (q1 : ¬ p2 < 0) (q2 : vs[p2.toNatClampNeg]? = some (.int w3)) (q3 : ¬ (p2 + (1 : Int32)) < 0) (q4 : vs[(p2 + (1 : Int32)).toNatClampNeg]? = some (.int w4)) :
    MetFree l (⟨"com/example/rigid_keyblock/rigidkeyblock/Bytes", "u16", "([BI)I"⟩ : MethodName) (head1 (Jvm.Cond.code (⟨"com/example/rigid_keyblock/rigidkeyblock/Bytes", "u16", "([BI)I"⟩ : MethodName) prog_4_method_3_code 2 (some .int) :: ws) ({ frames := 0, cells := 0, slots := 0, locals := 0 } : Room)) (fun a U => a = #[(.ref a1), (.int p2)] ∧ Z.Warmed39 U.vm ∧ U.heap = h0) (fun _ _ _ _ _ => True) (fun _ U o U' => ∃ v L, o = .returned v ∧ Q_rm1 Z a1 p2 vs w3 w4 h0 n0 v U'.heap L ∧ FrameEnd U o U' L ({ frames := 0, cells := 0, slots := 0, locals := 0 } : Room).cells ({ frames := 0, cells := 0, slots := 0, locals := 0 } : Room).slots) := by
  refine MetFree.of_bodySF (plainFor_of_name pn0) hisR ?_
  intro p e s m args below meth c s₁ Bd hml0 hP hK
  obtain ⟨rfl, hZ, hh⟩ := hP
  have hx := Bd.exec
  have hby := Bd.bytes
  have hml : c.maxLocals = 2 := hml0
  have hown : s.vm.findClass "com/example/rigid_keyblock/rigidkeyblock/Bytes" = some m.cls := findClass_of_methodNamed Bd.named
  have hnm := (name_of_methodNamed Bd.named Bd.method).1
  have hlk : meth.locks = false := Bd.notSynchronized
  have hret := Bd.returns
  have X0 : Stand p l e ({ frames := 0, cells := 0, slots := 0, locals := 0 } : Room) s m #[(.ref a1), (.int p2)] below meth c s₁ [] 0 0 := Stand.of_body Bd
  have e0 : s₁.heap = h0 := by rw [← hh, Bd.state]; rfl
  have N0 := Fr.nil n0
  have K0 : Keep h0 h0 [] := Keep.refl _ _
  show Goes p e below s (Q_rm1 Z a1 p2 vs w3 w4 h0 n0) ({ frames := 0, cells := 0, slots := 0, locals := 0 } : Room).cells ({ frames := 0, cells := 0, slots := 0, locals := 0 } : Room).slots _
  refine Goes.go (fun t k => castTop (ef_rm1 m a1 p2) k) ?_
  show Goes _ _ _ _ _ _ _ (s₁.setTop (mkF m 0 #[.val (.ref a1), .val (.int p2)] []))
  refine Goes.go (fun _ k => XS.aloadN X0.here hx rfl (hb hby d1_0) rfl rfl k) ?_
  show Goes _ _ _ _ _ _ _ (s₁.setTop (mkF m 1 _ [(.ref a1)]))
  refine Goes.go (fun _ k => XS.iloadN X0.here hx rfl (hb hby d1_1) rfl k) ?_
  show Goes _ _ _ _ _ _ _ (s₁.setTop (mkF m 2 _ [(.int p2), (.ref a1)]))
  refine Goes.go (own_ldB X0 hx hZ e0 A1 (j := p2) (v := (.int w3)) q1 q2 rfl rfl (hb hby d1_2)) ?_
  show Goes _ _ _ _ _ _ _ (s₁.setTop (mkF m 3 _ [(.int w3)]))
  refine Goes.go (fun _ k => XS.sipush X0.here hx rfl (hb hby d1_3) k) ?_
  show Goes _ _ _ _ _ _ _ (s₁.setTop (mkF m 6 _ [(.int (255 : Int32)), (.int w3)]))
  refine Goes.go (fun _ k => XS.iand X0.here hx rfl (hb hby d1_6) rfl k) ?_
  show Goes _ _ _ _ _ _ _ (s₁.setTop (mkF m 7 _ [(.int (w3 &&& (255 : Int32)))]))
  refine Goes.go (fun _ k => XS.bipush X0.here hx rfl (hb hby d1_7) k) ?_
  show Goes _ _ _ _ _ _ _ (s₁.setTop (mkF m 9 _ [(.int (8 : Int32)), (.int (w3 &&& (255 : Int32)))]))
  refine Goes.go (fun _ k => XS.ishl X0.here hx rfl (hb hby d1_9) rfl k) ?_
  show Goes _ _ _ _ _ _ _ (s₁.setTop (mkF m 10 _ [(.int ((w3 &&& (255 : Int32)) <<< ((8 : Int32) &&& 31)))]))
  refine Goes.go (fun _ k => XS.aloadN X0.here hx rfl (hb hby d1_10) rfl rfl k) ?_
  show Goes _ _ _ _ _ _ _ (s₁.setTop (mkF m 11 _ [(.ref a1), (.int ((w3 &&& (255 : Int32)) <<< ((8 : Int32) &&& 31)))]))
  refine Goes.go (fun _ k => XS.iloadN X0.here hx rfl (hb hby d1_11) rfl k) ?_
  show Goes _ _ _ _ _ _ _ (s₁.setTop (mkF m 12 _ [(.int p2), (.ref a1), (.int ((w3 &&& (255 : Int32)) <<< ((8 : Int32) &&& 31)))]))
  refine Goes.go (fun _ k => XS.iconst X0.here hx rfl (hb hby d1_12) k) ?_
  show Goes _ _ _ _ _ _ _ (s₁.setTop (mkF m 13 _ [(.int (1 : Int32)), (.int p2), (.ref a1), (.int ((w3 &&& (255 : Int32)) <<< ((8 : Int32) &&& 31)))]))
  refine Goes.go (fun _ k => XS.iadd X0.here hx rfl (hb hby d1_13) rfl k) ?_
  show Goes _ _ _ _ _ _ _ (s₁.setTop (mkF m 14 _ [(.int (p2 + (1 : Int32))), (.ref a1), (.int ((w3 &&& (255 : Int32)) <<< ((8 : Int32) &&& 31)))]))
  refine Goes.go (own_ldB X0 hx hZ e0 A1 (j := (p2 + (1 : Int32))) (v := (.int w4)) q3 q4 rfl rfl (hb hby d1_14)) ?_
  show Goes _ _ _ _ _ _ _ (s₁.setTop (mkF m 15 _ [(.int w4), (.int ((w3 &&& (255 : Int32)) <<< ((8 : Int32) &&& 31)))]))
  refine Goes.go (fun _ k => XS.sipush X0.here hx rfl (hb hby d1_15) k) ?_
  show Goes _ _ _ _ _ _ _ (s₁.setTop (mkF m 18 _ [(.int (255 : Int32)), (.int w4), (.int ((w3 &&& (255 : Int32)) <<< ((8 : Int32) &&& 31)))]))
  refine Goes.go (fun _ k => XS.iand X0.here hx rfl (hb hby d1_18) rfl k) ?_
  show Goes _ _ _ _ _ _ _ (s₁.setTop (mkF m 19 _ [(.int (w4 &&& (255 : Int32))), (.int ((w3 &&& (255 : Int32)) <<< ((8 : Int32) &&& 31)))]))
  refine Goes.go (fun _ k => XS.ior X0.here hx rfl (hb hby d1_19) rfl k) ?_
  show Goes _ _ _ _ _ _ _ (s₁.setTop (mkF m 20 _ [(.int (((w3 &&& (255 : Int32)) <<< ((8 : Int32) &&& 31)) ||| (w4 &&& (255 : Int32))))]))
  exact Goes.outI X0 hx hlk hret (hb hby d1_20) e0 ⟨rfl, N0, rfl⟩ (by decide) (by decide)
theorem pd0 : parseMethodDescriptor "([BI)I" = some ⟨[(.array .byte), .int], (some .int)⟩ := by decide +kernel
theorem pd1 : parseMethodDescriptor "(IIII)Z" = some ⟨[.int, .int, .int, .int], (some .boolean)⟩ := by decide +kernel
theorem pn1 : plainName "com/example/rigid_keyblock/rigidkeyblock/BytesU16PinLaw" = true := by first | (simp [plainName, overriddenIn]; done) | decide +kernel
theorem ef_rm0 (m : MethodId) (p0 : Int32) (p1 : Int32) (p2 : Int32) (p3 : Int32) : entryFrame m #[(.int p0), (.int p1), (.int p2), (.int p3)] maxLocals = mkF m 0 #[.val (.int p0), .val (.int p1), .val (.int p2), .val (.int p3), .unset, .unset, .unset, .unset] [] := by first | (simp [entryFrame, mkF, argsToLocals, Value.category, maxLocals]; done) | rfl
def Q_rm0 (Z : State) (p0 : Int32) (p1 : Int32) (p2 : Int32) (p3 : Int32) (h0 : Heap) (n0 : Nat) (v : Option Value) (h : Heap) (L : List Loc) : Prop := v = some (.int 1) ∧ Fr n0 L
set_option maxRecDepth 65536 in
set_option maxHeartbeats 40000000 in
theorem rm0 (l : Launch) (Z : State) (a0 : Array Value) (hw : ∀ d ∈ tables_1, d.before a0 Z = true) (ws : List Jvm.Cond) (p0 : Int32) (p1 : Int32) (p2 : Int32) (p3 : Int32) (h0 : Heap) (n0 : Nat) (Z0 : n0 ≤ h0.size)  :
    MetFree l x (head1 (Jvm.Cond.code x code maxLocals ret :: ws) room_1) (fun a U => a = #[(.int p0), (.int p1), (.int p2), (.int p3)] ∧ Z.Warmed39 U.vm ∧ U.heap = h0) (fun _ _ _ _ _ => True) (fun _ U o U' => ∃ v L, o = .returned v ∧ Q_rm0 Z p0 p1 p2 p3 h0 n0 v U'.heap L ∧ FrameEnd U o U' L room_1.cells room_1.slots) := by
  refine MetFree.of_bodySF (plainFor_of_name pn1) hisR ?_
  intro p e s m args below meth c s₁ Bd hml0 hP hK
  obtain ⟨rfl, hZ, hh⟩ := hP
  have hx := Bd.exec
  have hby := Bd.bytes
  have hml : c.maxLocals = 8 := hml0
  have hown : s.vm.findClass "com/example/rigid_keyblock/rigidkeyblock/BytesU16PinLaw" = some m.cls := findClass_of_methodNamed Bd.named
  have hnm := (name_of_methodNamed Bd.named Bd.method).1
  have hlk : meth.locks = false := Bd.notSynchronized
  have hret := Bd.returns
  have X0 : Stand p l e room_1 s m #[(.int p0), (.int p1), (.int p2), (.int p3)] below meth c s₁ [] 0 0 := Stand.of_body Bd
  have e0 : s₁.heap = h0 := by rw [← hh, Bd.state]; rfl
  have N0 := Fr.nil n0
  have K0 : Keep h0 h0 [] := Keep.refl _ _
  show Goes p e below s (Q_rm0 Z p0 p1 p2 p3 h0 n0) room_1.cells room_1.slots _
  refine Goes.go (fun t k => castTop (ef_rm0 m p0 p1 p2 p3) k) ?_
  show Goes _ _ _ _ _ _ _ (s₁.setTop (mkF m 0 #[.val (.int p0), .val (.int p1), .val (.int p2), .val (.int p3), .unset, .unset, .unset, .unset] []))
  refine Goes.go (fun _ k => XS.iloadN X0.here hx rfl (hb hby at_0) rfl k) ?_
  show Goes _ _ _ _ _ _ _ (s₁.setTop (mkF m 1 _ [(.int p0)]))
  refine Goes.go (fun _ k => X0.ldcI hx (v := (65535 : Int32)) hown (mvT hZ (hw _ (List.mem_of_getElem? (i := 0) rfl))) rfl (hb hby at_1) k) ?_
  show Goes _ _ _ _ _ _ _ (s₁.setTop (mkF m 3 _ [(.int (65535 : Int32)), (.int p0)]))
  refine Goes.go (fun _ k => XS.iand X0.here hx rfl (hb hby at_3) rfl k) ?_
  show Goes _ _ _ _ _ _ _ (s₁.setTop (mkF m 4 _ [(.int (p0 &&& (65535 : Int32)))]))
  generalize hv4 : (p0 &&& (65535 : Int32)) = v4
  refine Goes.go (fun _ k => XS.istore X0.here hx rfl (hb hby at_4) rfl (l' := #[.val (.int p0), .val (.int p1), .val (.int p2), .val (.int p3), .val (.int v4), .unset, .unset, .unset]) rfl k) ?_
  show Goes _ _ _ _ _ _ _ (s₁.setTop (mkF m 6 #[.val (.int p0), .val (.int p1), .val (.int p2), .val (.int p3), .val (.int v4), .unset, .unset, .unset] []))
  refine Goes.go (fun _ k => XS.iloadN X0.here hx rfl (hb hby at_6) rfl k) ?_
  show Goes _ _ _ _ _ _ _ (s₁.setTop (mkF m 7 _ [(.int p1)]))
  refine Goes.go (fun _ k => X0.ldcI hx (v := (2147483647 : Int32)) hown (mvT hZ (hw _ (List.mem_of_getElem? (i := 1) rfl))) rfl (hb hby at_7) k) ?_
  show Goes _ _ _ _ _ _ _ (s₁.setTop (mkF m 9 _ [(.int (2147483647 : Int32)), (.int p1)]))
  refine Goes.go (fun _ k => XS.iand X0.here hx rfl (hb hby at_9) rfl k) ?_
  show Goes _ _ _ _ _ _ _ (s₁.setTop (mkF m 10 _ [(.int (p1 &&& (2147483647 : Int32)))]))
  refine Goes.go (fun _ k => XS.iconst X0.here hx rfl (hb hby at_10) k) ?_
  show Goes _ _ _ _ _ _ _ (s₁.setTop (mkF m 11 _ [(.int (3 : Int32)), (.int (p1 &&& (2147483647 : Int32)))]))
  refine Goes.go (fun _ k => iremM X0 hx rfl (hb hby at_11) rfl (by decide) k) ?_
  show Goes _ _ _ _ _ _ _ (s₁.setTop (mkF m 12 _ [(.int ((p1 &&& (2147483647 : Int32)) % (3 : Int32)))]))
  generalize hv12 : ((p1 &&& (2147483647 : Int32)) % (3 : Int32)) = v12
  refine Goes.go (fun _ k => XS.istore X0.here hx rfl (hb hby at_12) rfl (l' := #[.val (.int p0), .val (.int p1), .val (.int p2), .val (.int p3), .val (.int v4), .val (.int v12), .unset, .unset]) rfl k) ?_
  show Goes _ _ _ _ _ _ _ (s₁.setTop (mkF m 14 #[.val (.int p0), .val (.int p1), .val (.int p2), .val (.int p3), .val (.int v4), .val (.int v12), .unset, .unset] []))
  rcases own_three p1 with c3 | c3 | c3 <;> rw [c3] at hv12 <;> subst hv12
  · skip
    show Goes _ _ _ _ _ _ _ (s₁.setTop (mkF m 14 #[.val (.int p0), .val (.int p1), .val (.int p2), .val (.int p3), .val (.int v4), .val (.int (0 : Int32)), .unset, .unset] []))
    refine Goes.go (fun _ k => XS.iconst X0.here hx rfl (hb hby at_14) k) ?_
    show Goes _ _ _ _ _ _ _ (s₁.setTop (mkF m 15 _ [(.int (4 : Int32))]))
    obtain ⟨T1, h1, X1, e1, E1, A1, st1⟩ := own_newP X0 hx hZ (aty := .byte) (hw _ (List.mem_of_getElem? (i := 2) rfl)) e0 (g := (mkF m 15 #[.val (.int p0), .val (.int p1), .val (.int p2), .val (.int p3), .val (.int v4), .val (.int (0 : Int32)), .unset, .unset] [(.int (4 : Int32))])) rfl (hb hby at_15) rfl (n := (4 : Int32)) (by decide) (cap := 4) (by decide) (by decide) (by decide) (by decide)
    obtain ⟨ar15, gar15⟩ : ∃ z, z = h0.size := ⟨_, rfl⟩
    rw [← gar15] at A1 st1
    have Z1 : n0 ≤ h1.size := Nat.le_trans Z0 E1.1
    have ge_ar15 : n0 ≤ ar15 := Nat.le_trans Z0 (Nat.le_of_eq gar15.symm)
    have f : Arl Z h1 ar15 .byte [(.int (0 : Int32)), (.int (0 : Int32)), (.int (0 : Int32)), (.int (0 : Int32))] := A1
    refine Goes.go (st1) ?_
    show Goes _ _ _ _ _ _ _ (T1.setTop (mkF m 17 _ [(.ref ar15)]))
    refine Goes.go (fun _ k => XS.astore X1.here hx rfl (hb hby at_17) rfl rfl (l' := #[.val (.int p0), .val (.int p1), .val (.int p2), .val (.int p3), .val (.int v4), .val (.int (0 : Int32)), .val (.ref ar15), .unset]) rfl k) ?_
    show Goes _ _ _ _ _ _ _ (T1.setTop (mkF m 19 #[.val (.int p0), .val (.int p1), .val (.int p2), .val (.int p3), .val (.int v4), .val (.int (0 : Int32)), .val (.ref ar15), .unset] []))
    refine Goes.go (fun _ k => XS.aload X1.here hx rfl (hb hby at_19) rfl rfl k) ?_
    show Goes _ _ _ _ _ _ _ (T1.setTop (mkF m 21 _ [(.ref ar15)]))
    refine Goes.go (fun _ k => XS.iconst X1.here hx rfl (hb hby at_21) k) ?_
    show Goes _ _ _ _ _ _ _ (T1.setTop (mkF m 22 _ [(.int (0 : Int32)), (.ref ar15)]))
    refine Goes.go (fun _ k => XS.iloadN X1.here hx rfl (hb hby at_22) rfl k) ?_
    show Goes _ _ _ _ _ _ _ (T1.setTop (mkF m 23 _ [(.int p2), (.int (0 : Int32)), (.ref ar15)]))
    refine Goes.go (fun _ k => XS.i2b X1.here hx rfl (hb hby at_23) rfl k) ?_
    show Goes _ _ _ _ _ _ _ (T1.setTop (mkF m 24 _ [(.int (p2).toInt8.toInt32), (.int (0 : Int32)), (.ref ar15)]))
    obtain ⟨T2, h2, X2, e2, W2, A2, st2⟩ := own_stB X1 hx hZ e1 f (j := (0 : Int32)) (x := (p2).toInt8.toInt32) (by decide) (show (0 : Nat) < 4 by decide) (g := (mkF m 24 #[.val (.int p0), .val (.int p1), .val (.int p2), .val (.int p3), .val (.int v4), .val (.int (0 : Int32)), .val (.ref ar15), .unset] [(.int (p2).toInt8.toInt32), (.int (0 : Int32)), (.ref ar15)])) rfl rfl (hb hby at_24)
    rw [own_nar8] at A2
    have N2 := Fr.snoc X2 N0 ge_ar15
    have Z2 : n0 ≤ h2.size := by rw [W2.size]; exact Z1
    have f_1 : Arl Z h2 ar15 .byte [(.int (p2).toInt8.toInt32), (.int (0 : Int32)), (.int (0 : Int32)), (.int (0 : Int32))] := A2
    refine Goes.go (st2) ?_
    show Goes _ _ _ _ _ _ _ (T2.setTop (mkF m 25 _ []))
    refine Goes.go (fun _ k => XS.aload X2.here hx rfl (hb hby at_25) rfl rfl k) ?_
    show Goes _ _ _ _ _ _ _ (T2.setTop (mkF m 27 _ [(.ref ar15)]))
    refine Goes.go (fun _ k => XS.iconst X2.here hx rfl (hb hby at_27) k) ?_
    show Goes _ _ _ _ _ _ _ (T2.setTop (mkF m 28 _ [(.int (1 : Int32)), (.ref ar15)]))
    refine Goes.go (fun _ k => XS.iloadN X2.here hx rfl (hb hby at_28) rfl k) ?_
    show Goes _ _ _ _ _ _ _ (T2.setTop (mkF m 29 _ [(.int p2), (.int (1 : Int32)), (.ref ar15)]))
    refine Goes.go (fun _ k => XS.bipush X2.here hx rfl (hb hby at_29) k) ?_
    show Goes _ _ _ _ _ _ _ (T2.setTop (mkF m 31 _ [(.int (8 : Int32)), (.int p2), (.int (1 : Int32)), (.ref ar15)]))
    refine Goes.go (fun _ k => XS.ishr X2.here hx rfl (hb hby at_31) rfl k) ?_
    show Goes _ _ _ _ _ _ _ (T2.setTop (mkF m 32 _ [(.int (p2 >>> ((8 : Int32) &&& 31))), (.int (1 : Int32)), (.ref ar15)]))
    refine Goes.go (fun _ k => XS.i2b X2.here hx rfl (hb hby at_32) rfl k) ?_
    show Goes _ _ _ _ _ _ _ (T2.setTop (mkF m 33 _ [(.int ((p2 >>> ((8 : Int32) &&& 31))).toInt8.toInt32), (.int (1 : Int32)), (.ref ar15)]))
    obtain ⟨T3, h3, X3, e3, W3, A3, st3⟩ := own_stB X2 hx hZ e2 f_1 (j := (1 : Int32)) (x := ((p2 >>> ((8 : Int32) &&& 31))).toInt8.toInt32) (by decide) (show (1 : Nat) < 4 by decide) (g := (mkF m 33 #[.val (.int p0), .val (.int p1), .val (.int p2), .val (.int p3), .val (.int v4), .val (.int (0 : Int32)), .val (.ref ar15), .unset] [(.int ((p2 >>> ((8 : Int32) &&& 31))).toInt8.toInt32), (.int (1 : Int32)), (.ref ar15)])) rfl rfl (hb hby at_33)
    rw [own_nar8] at A3
    have N3 := Fr.snoc X3 N2 ge_ar15
    have Z3 : n0 ≤ h3.size := by rw [W3.size]; exact Z2
    have f_2 : Arl Z h3 ar15 .byte [(.int (p2).toInt8.toInt32), (.int ((p2 >>> ((8 : Int32) &&& 31))).toInt8.toInt32), (.int (0 : Int32)), (.int (0 : Int32))] := A3
    refine Goes.go (st3) ?_
    show Goes _ _ _ _ _ _ _ (T3.setTop (mkF m 34 _ []))
    refine Goes.go (fun _ k => XS.aload X3.here hx rfl (hb hby at_34) rfl rfl k) ?_
    show Goes _ _ _ _ _ _ _ (T3.setTop (mkF m 36 _ [(.ref ar15)]))
    refine Goes.go (fun _ k => XS.iconst X3.here hx rfl (hb hby at_36) k) ?_
    show Goes _ _ _ _ _ _ _ (T3.setTop (mkF m 37 _ [(.int (2 : Int32)), (.ref ar15)]))
    refine Goes.go (fun _ k => XS.iloadN X3.here hx rfl (hb hby at_37) rfl k) ?_
    show Goes _ _ _ _ _ _ _ (T3.setTop (mkF m 38 _ [(.int p3), (.int (2 : Int32)), (.ref ar15)]))
    refine Goes.go (fun _ k => XS.i2b X3.here hx rfl (hb hby at_38) rfl k) ?_
    show Goes _ _ _ _ _ _ _ (T3.setTop (mkF m 39 _ [(.int (p3).toInt8.toInt32), (.int (2 : Int32)), (.ref ar15)]))
    obtain ⟨T4, h4, X4, e4, W4, A4, st4⟩ := own_stB X3 hx hZ e3 f_2 (j := (2 : Int32)) (x := (p3).toInt8.toInt32) (by decide) (show (2 : Nat) < 4 by decide) (g := (mkF m 39 #[.val (.int p0), .val (.int p1), .val (.int p2), .val (.int p3), .val (.int v4), .val (.int (0 : Int32)), .val (.ref ar15), .unset] [(.int (p3).toInt8.toInt32), (.int (2 : Int32)), (.ref ar15)])) rfl rfl (hb hby at_39)
    rw [own_nar8] at A4
    have N4 := Fr.snoc X4 N3 ge_ar15
    have Z4 : n0 ≤ h4.size := by rw [W4.size]; exact Z3
    have f_3 : Arl Z h4 ar15 .byte [(.int (p2).toInt8.toInt32), (.int ((p2 >>> ((8 : Int32) &&& 31))).toInt8.toInt32), (.int (p3).toInt8.toInt32), (.int (0 : Int32))] := A4
    refine Goes.go (st4) ?_
    show Goes _ _ _ _ _ _ _ (T4.setTop (mkF m 40 _ []))
    refine Goes.go (fun _ k => XS.aload X4.here hx rfl (hb hby at_40) rfl rfl k) ?_
    show Goes _ _ _ _ _ _ _ (T4.setTop (mkF m 42 _ [(.ref ar15)]))
    refine Goes.go (fun _ k => XS.iconst X4.here hx rfl (hb hby at_42) k) ?_
    show Goes _ _ _ _ _ _ _ (T4.setTop (mkF m 43 _ [(.int (3 : Int32)), (.ref ar15)]))
    refine Goes.go (fun _ k => XS.iloadN X4.here hx rfl (hb hby at_43) rfl k) ?_
    show Goes _ _ _ _ _ _ _ (T4.setTop (mkF m 44 _ [(.int p3), (.int (3 : Int32)), (.ref ar15)]))
    refine Goes.go (fun _ k => XS.bipush X4.here hx rfl (hb hby at_44) k) ?_
    show Goes _ _ _ _ _ _ _ (T4.setTop (mkF m 46 _ [(.int (8 : Int32)), (.int p3), (.int (3 : Int32)), (.ref ar15)]))
    refine Goes.go (fun _ k => XS.ishr X4.here hx rfl (hb hby at_46) rfl k) ?_
    show Goes _ _ _ _ _ _ _ (T4.setTop (mkF m 47 _ [(.int (p3 >>> ((8 : Int32) &&& 31))), (.int (3 : Int32)), (.ref ar15)]))
    refine Goes.go (fun _ k => XS.i2b X4.here hx rfl (hb hby at_47) rfl k) ?_
    show Goes _ _ _ _ _ _ _ (T4.setTop (mkF m 48 _ [(.int ((p3 >>> ((8 : Int32) &&& 31))).toInt8.toInt32), (.int (3 : Int32)), (.ref ar15)]))
    obtain ⟨T5, h5, X5, e5, W5, A5, st5⟩ := own_stB X4 hx hZ e4 f_3 (j := (3 : Int32)) (x := ((p3 >>> ((8 : Int32) &&& 31))).toInt8.toInt32) (by decide) (show (3 : Nat) < 4 by decide) (g := (mkF m 48 #[.val (.int p0), .val (.int p1), .val (.int p2), .val (.int p3), .val (.int v4), .val (.int (0 : Int32)), .val (.ref ar15), .unset] [(.int ((p3 >>> ((8 : Int32) &&& 31))).toInt8.toInt32), (.int (3 : Int32)), (.ref ar15)])) rfl rfl (hb hby at_48)
    rw [own_nar8] at A5
    have N5 := Fr.snoc X5 N4 ge_ar15
    have Z5 : n0 ≤ h5.size := by rw [W5.size]; exact Z4
    have f_4 : Arl Z h5 ar15 .byte [(.int (p2).toInt8.toInt32), (.int ((p2 >>> ((8 : Int32) &&& 31))).toInt8.toInt32), (.int (p3).toInt8.toInt32), (.int ((p3 >>> ((8 : Int32) &&& 31))).toInt8.toInt32)] := A5
    refine Goes.go (st5) ?_
    show Goes _ _ _ _ _ _ _ (T5.setTop (mkF m 49 _ []))
    refine Goes.go (fun _ k => XS.aload X5.here hx rfl (hb hby at_49) rfl rfl k) ?_
    show Goes _ _ _ _ _ _ _ (T5.setTop (mkF m 51 _ [(.ref ar15)]))
    refine Goes.go (fun _ k => XS.iload X5.here hx rfl (hb hby at_51) rfl k) ?_
    show Goes _ _ _ _ _ _ _ (T5.setTop (mkF m 53 _ [(.int (0 : Int32)), (.ref ar15)]))
    refine Goes.go (fun _ k => XS.iload X5.here hx rfl (hb hby at_53) rfl k) ?_
    show Goes _ _ _ _ _ _ _ (T5.setTop (mkF m 55 _ [(.int v4), (.int (0 : Int32)), (.ref ar15)]))
    refine Goes.go (fun _ k => XS.bipush X5.here hx rfl (hb hby at_55) k) ?_
    show Goes _ _ _ _ _ _ _ (T5.setTop (mkF m 57 _ [(.int (8 : Int32)), (.int v4), (.int (0 : Int32)), (.ref ar15)]))
    refine Goes.go (fun _ k => XS.iushr X5.here hx rfl (hb hby at_57) rfl k) ?_
    show Goes _ _ _ _ _ _ _ (T5.setTop (mkF m 58 _ [(.int ((v4).toUInt32 >>> ((8 : Int32) &&& 31).toUInt32).toInt32), (.int (0 : Int32)), (.ref ar15)]))
    refine Goes.go (fun _ k => XS.i2b X5.here hx rfl (hb hby at_58) rfl k) ?_
    show Goes _ _ _ _ _ _ _ (T5.setTop (mkF m 59 _ [(.int (((v4).toUInt32 >>> ((8 : Int32) &&& 31).toUInt32).toInt32).toInt8.toInt32), (.int (0 : Int32)), (.ref ar15)]))
    obtain ⟨T6, h6, X6, e6, W6, A6, st6⟩ := own_stB X5 hx hZ e5 f_4 (j := (0 : Int32)) (x := (((v4).toUInt32 >>> ((8 : Int32) &&& 31).toUInt32).toInt32).toInt8.toInt32) (by decide) (show (0 : Nat) < 4 by decide) (g := (mkF m 59 #[.val (.int p0), .val (.int p1), .val (.int p2), .val (.int p3), .val (.int v4), .val (.int (0 : Int32)), .val (.ref ar15), .unset] [(.int (((v4).toUInt32 >>> ((8 : Int32) &&& 31).toUInt32).toInt32).toInt8.toInt32), (.int (0 : Int32)), (.ref ar15)])) rfl rfl (hb hby at_59)
    rw [own_nar8] at A6
    have N6 := Fr.snoc X6 N5 ge_ar15
    have Z6 : n0 ≤ h6.size := by rw [W6.size]; exact Z5
    have f_5 : Arl Z h6 ar15 .byte [(.int (((v4).toUInt32 >>> ((8 : Int32) &&& 31).toUInt32).toInt32).toInt8.toInt32), (.int ((p2 >>> ((8 : Int32) &&& 31))).toInt8.toInt32), (.int (p3).toInt8.toInt32), (.int ((p3 >>> ((8 : Int32) &&& 31))).toInt8.toInt32)] := A6
    refine Goes.go (st6) ?_
    show Goes _ _ _ _ _ _ _ (T6.setTop (mkF m 60 _ []))
    refine Goes.go (fun _ k => XS.aload X6.here hx rfl (hb hby at_60) rfl rfl k) ?_
    show Goes _ _ _ _ _ _ _ (T6.setTop (mkF m 62 _ [(.ref ar15)]))
    refine Goes.go (fun _ k => XS.iload X6.here hx rfl (hb hby at_62) rfl k) ?_
    show Goes _ _ _ _ _ _ _ (T6.setTop (mkF m 64 _ [(.int (0 : Int32)), (.ref ar15)]))
    refine Goes.go (fun _ k => XS.iconst X6.here hx rfl (hb hby at_64) k) ?_
    show Goes _ _ _ _ _ _ _ (T6.setTop (mkF m 65 _ [(.int (1 : Int32)), (.int (0 : Int32)), (.ref ar15)]))
    refine Goes.go (fun _ k => XS.iadd X6.here hx rfl (hb hby at_65) rfl k) ?_
    show Goes _ _ _ _ _ _ _ (T6.setTop (mkF m 66 _ [(.int (1 : Int32)), (.ref ar15)]))
    refine Goes.go (fun _ k => XS.iload X6.here hx rfl (hb hby at_66) rfl k) ?_
    show Goes _ _ _ _ _ _ _ (T6.setTop (mkF m 68 _ [(.int v4), (.int (1 : Int32)), (.ref ar15)]))
    refine Goes.go (fun _ k => XS.i2b X6.here hx rfl (hb hby at_68) rfl k) ?_
    show Goes _ _ _ _ _ _ _ (T6.setTop (mkF m 69 _ [(.int (v4).toInt8.toInt32), (.int (1 : Int32)), (.ref ar15)]))
    obtain ⟨T7, h7, X7, e7, W7, A7, st7⟩ := own_stB X6 hx hZ e6 f_5 (j := (1 : Int32)) (x := (v4).toInt8.toInt32) (by decide) (show (1 : Nat) < 4 by decide) (g := (mkF m 69 #[.val (.int p0), .val (.int p1), .val (.int p2), .val (.int p3), .val (.int v4), .val (.int (0 : Int32)), .val (.ref ar15), .unset] [(.int (v4).toInt8.toInt32), (.int (1 : Int32)), (.ref ar15)])) rfl rfl (hb hby at_69)
    rw [own_nar8] at A7
    have N7 := Fr.snoc X7 N6 ge_ar15
    have Z7 : n0 ≤ h7.size := by rw [W7.size]; exact Z6
    have f_6 : Arl Z h7 ar15 .byte [(.int (((v4).toUInt32 >>> ((8 : Int32) &&& 31).toUInt32).toInt32).toInt8.toInt32), (.int (v4).toInt8.toInt32), (.int (p3).toInt8.toInt32), (.int ((p3 >>> ((8 : Int32) &&& 31))).toInt8.toInt32)] := A7
    refine Goes.go (st7) ?_
    show Goes _ _ _ _ _ _ _ (T7.setTop (mkF m 70 _ []))
    refine Goes.go (fun _ k => XS.aload X7.here hx rfl (hb hby at_70) rfl rfl k) ?_
    show Goes _ _ _ _ _ _ _ (T7.setTop (mkF m 72 _ [(.ref ar15)]))
    refine Goes.go (fun _ k => XS.iload X7.here hx rfl (hb hby at_72) rfl k) ?_
    show Goes _ _ _ _ _ _ _ (T7.setTop (mkF m 74 _ [(.int (0 : Int32)), (.ref ar15)]))
    obtain ⟨_, _, ⟨T8, L8, k8, n8⟩, -, X8, ⟨Lc8, hQ8, l8, y8, z8⟩, st8⟩ := Jvm.LawKit.callS X7 hx (y := (⟨"com/example/rigid_keyblock/rigidkeyblock/Bytes", "u16", "([BI)I"⟩ : MethodName)) hown (mvT hZ (hw _ (List.mem_of_getElem? (i := 3) rfl))) (mvT hZ (hw _ (List.mem_of_getElem? (i := 4) rfl))) (mvT hZ (hw _ (List.mem_of_getElem? (i := 5) rfl))) (mvT hZ (hw _ (List.mem_of_getElem? (i := 6) rfl))) (by decide) (backOf (W := 0) (rm1 l Z a0 hw [] ar15 (0 : Int32) _ (((v4).toUInt32 >>> ((8 : Int32) &&& 31).toUInt32).toInt32).toInt8.toInt32 (v4).toInt8.toInt32 h7 n0 Z7 f_6 (by decide) rfl (by decide) rfl) hZ (hw _ (List.mem_of_getElem? (i := 6) rfl)) (hw _ (List.mem_of_getElem? (i := 5) rfl)) (by decide) (by decide)) (g := (mkF m 74 #[.val (.int p0), .val (.int p1), .val (.int p2), .val (.int p3), .val (.int v4), .val (.int (0 : Int32)), .val (.ref ar15), .unset] [(.int (0 : Int32)), (.ref ar15)])) rfl (by rw [hml]; rfl) (argsL := [(.ref ar15), (.int (0 : Int32))]) (rest := []) (lenOf pd0 rfl) rfl (by show 2 * 0 + _ ≤ _; exact Nat.le_of_eq rfl) (hb hby at_74) (fun _ _ => ⟨rfl, e7, (by decide : 1 + 0 ≤ _), (by decide : 4 + 0 ≤ _)⟩)
    dsimp only [Pt.U, Pt.locs, Pt.cells, Pt.slots] at X8 l8 y8 z8 st8 hQ8
    subst l8 y8 z8
    obtain ⟨rfl, Nq8, hh8⟩ := hQ8
    have N8 := Fr.app N7 Nq8
    refine Goes.go (st8) ?_
    show Goes _ _ _ _ _ _ _ (T8.setTop (mkF m 77 _ [(.int ((((((v4).toUInt32 >>> ((8 : Int32) &&& 31).toUInt32).toInt32).toInt8.toInt32 &&& (255 : Int32)) <<< ((8 : Int32) &&& 31)) ||| ((v4).toInt8.toInt32 &&& (255 : Int32))))]))
    generalize hv77 : ((((((v4).toUInt32 >>> ((8 : Int32) &&& 31).toUInt32).toInt32).toInt8.toInt32 &&& (255 : Int32)) <<< ((8 : Int32) &&& 31)) ||| ((v4).toInt8.toInt32 &&& (255 : Int32))) = v77
    refine Goes.go (fun _ k => XS.istore X8.here hx rfl (hb hby at_77) rfl (l' := #[.val (.int p0), .val (.int p1), .val (.int p2), .val (.int p3), .val (.int v4), .val (.int (0 : Int32)), .val (.ref ar15), .val (.int v77)]) rfl k) ?_
    show Goes _ _ _ _ _ _ _ (T8.setTop (mkF m 79 #[.val (.int p0), .val (.int p1), .val (.int p2), .val (.int p3), .val (.int v4), .val (.int (0 : Int32)), .val (.ref ar15), .val (.int v77)] []))
    refine Goes.go (fun _ k => XS.iload X8.here hx rfl (hb hby at_79) rfl k) ?_
    show Goes _ _ _ _ _ _ _ (T8.setTop (mkF m 81 _ [(.int v77)]))
    refine Goes.go (fun _ k => XS.iload X8.here hx rfl (hb hby at_81) rfl k) ?_
    show Goes _ _ _ _ _ _ _ (T8.setTop (mkF m 83 _ [(.int v4), (.int v77)]))
    refine Goes.go (fun _ k => XS.icmpNo X8.here hx rfl (hb hby at_83) rfl (XT.ii_ne_f (hv77.symm.trans (own_back p0 _ hv4))) k) ?_
    show Goes _ _ _ _ _ _ _ (T8.setTop (mkF m 86 _ []))
    refine Goes.go (fun _ k => XS.iconst X8.here hx rfl (hb hby at_86) k) ?_
    show Goes _ _ _ _ _ _ _ (T8.setTop (mkF m 87 _ [(.int (1 : Int32))]))
    refine Goes.go (fun _ k => XS.goto X8.here hx rfl (pc0 := 87) (pc' := 91) rfl (hb hby at_87) (by decide) (by decide) k) ?_
    show Goes _ _ _ _ _ _ _ (T8.setTop (mkF m 91 _ [(.int (1 : Int32))]))
    exact Goes.outZ X8 hx hlk hret rfl (hb hby at_91) hh8 ⟨rfl, N8⟩ (by decide) (by decide)
  · skip
    show Goes _ _ _ _ _ _ _ (s₁.setTop (mkF m 14 #[.val (.int p0), .val (.int p1), .val (.int p2), .val (.int p3), .val (.int v4), .val (.int (1 : Int32)), .unset, .unset] []))
    refine Goes.go (fun _ k => XS.iconst X0.here hx rfl (hb hby at_14) k) ?_
    show Goes _ _ _ _ _ _ _ (s₁.setTop (mkF m 15 _ [(.int (4 : Int32))]))
    obtain ⟨T1, h1, X1, e1, E1, A1, st1⟩ := own_newP X0 hx hZ (aty := .byte) (hw _ (List.mem_of_getElem? (i := 2) rfl)) e0 (g := (mkF m 15 #[.val (.int p0), .val (.int p1), .val (.int p2), .val (.int p3), .val (.int v4), .val (.int (1 : Int32)), .unset, .unset] [(.int (4 : Int32))])) rfl (hb hby at_15) rfl (n := (4 : Int32)) (by decide) (cap := 4) (by decide) (by decide) (by decide) (by decide)
    obtain ⟨ar15, gar15⟩ : ∃ z, z = h0.size := ⟨_, rfl⟩
    rw [← gar15] at A1 st1
    have Z1 : n0 ≤ h1.size := Nat.le_trans Z0 E1.1
    have ge_ar15 : n0 ≤ ar15 := Nat.le_trans Z0 (Nat.le_of_eq gar15.symm)
    have f : Arl Z h1 ar15 .byte [(.int (0 : Int32)), (.int (0 : Int32)), (.int (0 : Int32)), (.int (0 : Int32))] := A1
    refine Goes.go (st1) ?_
    show Goes _ _ _ _ _ _ _ (T1.setTop (mkF m 17 _ [(.ref ar15)]))
    refine Goes.go (fun _ k => XS.astore X1.here hx rfl (hb hby at_17) rfl rfl (l' := #[.val (.int p0), .val (.int p1), .val (.int p2), .val (.int p3), .val (.int v4), .val (.int (1 : Int32)), .val (.ref ar15), .unset]) rfl k) ?_
    show Goes _ _ _ _ _ _ _ (T1.setTop (mkF m 19 #[.val (.int p0), .val (.int p1), .val (.int p2), .val (.int p3), .val (.int v4), .val (.int (1 : Int32)), .val (.ref ar15), .unset] []))
    refine Goes.go (fun _ k => XS.aload X1.here hx rfl (hb hby at_19) rfl rfl k) ?_
    show Goes _ _ _ _ _ _ _ (T1.setTop (mkF m 21 _ [(.ref ar15)]))
    refine Goes.go (fun _ k => XS.iconst X1.here hx rfl (hb hby at_21) k) ?_
    show Goes _ _ _ _ _ _ _ (T1.setTop (mkF m 22 _ [(.int (0 : Int32)), (.ref ar15)]))
    refine Goes.go (fun _ k => XS.iloadN X1.here hx rfl (hb hby at_22) rfl k) ?_
    show Goes _ _ _ _ _ _ _ (T1.setTop (mkF m 23 _ [(.int p2), (.int (0 : Int32)), (.ref ar15)]))
    refine Goes.go (fun _ k => XS.i2b X1.here hx rfl (hb hby at_23) rfl k) ?_
    show Goes _ _ _ _ _ _ _ (T1.setTop (mkF m 24 _ [(.int (p2).toInt8.toInt32), (.int (0 : Int32)), (.ref ar15)]))
    obtain ⟨T2, h2, X2, e2, W2, A2, st2⟩ := own_stB X1 hx hZ e1 f (j := (0 : Int32)) (x := (p2).toInt8.toInt32) (by decide) (show (0 : Nat) < 4 by decide) (g := (mkF m 24 #[.val (.int p0), .val (.int p1), .val (.int p2), .val (.int p3), .val (.int v4), .val (.int (1 : Int32)), .val (.ref ar15), .unset] [(.int (p2).toInt8.toInt32), (.int (0 : Int32)), (.ref ar15)])) rfl rfl (hb hby at_24)
    rw [own_nar8] at A2
    have N2 := Fr.snoc X2 N0 ge_ar15
    have Z2 : n0 ≤ h2.size := by rw [W2.size]; exact Z1
    have f_1 : Arl Z h2 ar15 .byte [(.int (p2).toInt8.toInt32), (.int (0 : Int32)), (.int (0 : Int32)), (.int (0 : Int32))] := A2
    refine Goes.go (st2) ?_
    show Goes _ _ _ _ _ _ _ (T2.setTop (mkF m 25 _ []))
    refine Goes.go (fun _ k => XS.aload X2.here hx rfl (hb hby at_25) rfl rfl k) ?_
    show Goes _ _ _ _ _ _ _ (T2.setTop (mkF m 27 _ [(.ref ar15)]))
    refine Goes.go (fun _ k => XS.iconst X2.here hx rfl (hb hby at_27) k) ?_
    show Goes _ _ _ _ _ _ _ (T2.setTop (mkF m 28 _ [(.int (1 : Int32)), (.ref ar15)]))
    refine Goes.go (fun _ k => XS.iloadN X2.here hx rfl (hb hby at_28) rfl k) ?_
    show Goes _ _ _ _ _ _ _ (T2.setTop (mkF m 29 _ [(.int p2), (.int (1 : Int32)), (.ref ar15)]))
    refine Goes.go (fun _ k => XS.bipush X2.here hx rfl (hb hby at_29) k) ?_
    show Goes _ _ _ _ _ _ _ (T2.setTop (mkF m 31 _ [(.int (8 : Int32)), (.int p2), (.int (1 : Int32)), (.ref ar15)]))
    refine Goes.go (fun _ k => XS.ishr X2.here hx rfl (hb hby at_31) rfl k) ?_
    show Goes _ _ _ _ _ _ _ (T2.setTop (mkF m 32 _ [(.int (p2 >>> ((8 : Int32) &&& 31))), (.int (1 : Int32)), (.ref ar15)]))
    refine Goes.go (fun _ k => XS.i2b X2.here hx rfl (hb hby at_32) rfl k) ?_
    show Goes _ _ _ _ _ _ _ (T2.setTop (mkF m 33 _ [(.int ((p2 >>> ((8 : Int32) &&& 31))).toInt8.toInt32), (.int (1 : Int32)), (.ref ar15)]))
    obtain ⟨T3, h3, X3, e3, W3, A3, st3⟩ := own_stB X2 hx hZ e2 f_1 (j := (1 : Int32)) (x := ((p2 >>> ((8 : Int32) &&& 31))).toInt8.toInt32) (by decide) (show (1 : Nat) < 4 by decide) (g := (mkF m 33 #[.val (.int p0), .val (.int p1), .val (.int p2), .val (.int p3), .val (.int v4), .val (.int (1 : Int32)), .val (.ref ar15), .unset] [(.int ((p2 >>> ((8 : Int32) &&& 31))).toInt8.toInt32), (.int (1 : Int32)), (.ref ar15)])) rfl rfl (hb hby at_33)
    rw [own_nar8] at A3
    have N3 := Fr.snoc X3 N2 ge_ar15
    have Z3 : n0 ≤ h3.size := by rw [W3.size]; exact Z2
    have f_2 : Arl Z h3 ar15 .byte [(.int (p2).toInt8.toInt32), (.int ((p2 >>> ((8 : Int32) &&& 31))).toInt8.toInt32), (.int (0 : Int32)), (.int (0 : Int32))] := A3
    refine Goes.go (st3) ?_
    show Goes _ _ _ _ _ _ _ (T3.setTop (mkF m 34 _ []))
    refine Goes.go (fun _ k => XS.aload X3.here hx rfl (hb hby at_34) rfl rfl k) ?_
    show Goes _ _ _ _ _ _ _ (T3.setTop (mkF m 36 _ [(.ref ar15)]))
    refine Goes.go (fun _ k => XS.iconst X3.here hx rfl (hb hby at_36) k) ?_
    show Goes _ _ _ _ _ _ _ (T3.setTop (mkF m 37 _ [(.int (2 : Int32)), (.ref ar15)]))
    refine Goes.go (fun _ k => XS.iloadN X3.here hx rfl (hb hby at_37) rfl k) ?_
    show Goes _ _ _ _ _ _ _ (T3.setTop (mkF m 38 _ [(.int p3), (.int (2 : Int32)), (.ref ar15)]))
    refine Goes.go (fun _ k => XS.i2b X3.here hx rfl (hb hby at_38) rfl k) ?_
    show Goes _ _ _ _ _ _ _ (T3.setTop (mkF m 39 _ [(.int (p3).toInt8.toInt32), (.int (2 : Int32)), (.ref ar15)]))
    obtain ⟨T4, h4, X4, e4, W4, A4, st4⟩ := own_stB X3 hx hZ e3 f_2 (j := (2 : Int32)) (x := (p3).toInt8.toInt32) (by decide) (show (2 : Nat) < 4 by decide) (g := (mkF m 39 #[.val (.int p0), .val (.int p1), .val (.int p2), .val (.int p3), .val (.int v4), .val (.int (1 : Int32)), .val (.ref ar15), .unset] [(.int (p3).toInt8.toInt32), (.int (2 : Int32)), (.ref ar15)])) rfl rfl (hb hby at_39)
    rw [own_nar8] at A4
    have N4 := Fr.snoc X4 N3 ge_ar15
    have Z4 : n0 ≤ h4.size := by rw [W4.size]; exact Z3
    have f_3 : Arl Z h4 ar15 .byte [(.int (p2).toInt8.toInt32), (.int ((p2 >>> ((8 : Int32) &&& 31))).toInt8.toInt32), (.int (p3).toInt8.toInt32), (.int (0 : Int32))] := A4
    refine Goes.go (st4) ?_
    show Goes _ _ _ _ _ _ _ (T4.setTop (mkF m 40 _ []))
    refine Goes.go (fun _ k => XS.aload X4.here hx rfl (hb hby at_40) rfl rfl k) ?_
    show Goes _ _ _ _ _ _ _ (T4.setTop (mkF m 42 _ [(.ref ar15)]))
    refine Goes.go (fun _ k => XS.iconst X4.here hx rfl (hb hby at_42) k) ?_
    show Goes _ _ _ _ _ _ _ (T4.setTop (mkF m 43 _ [(.int (3 : Int32)), (.ref ar15)]))
    refine Goes.go (fun _ k => XS.iloadN X4.here hx rfl (hb hby at_43) rfl k) ?_
    show Goes _ _ _ _ _ _ _ (T4.setTop (mkF m 44 _ [(.int p3), (.int (3 : Int32)), (.ref ar15)]))
    refine Goes.go (fun _ k => XS.bipush X4.here hx rfl (hb hby at_44) k) ?_
    show Goes _ _ _ _ _ _ _ (T4.setTop (mkF m 46 _ [(.int (8 : Int32)), (.int p3), (.int (3 : Int32)), (.ref ar15)]))
    refine Goes.go (fun _ k => XS.ishr X4.here hx rfl (hb hby at_46) rfl k) ?_
    show Goes _ _ _ _ _ _ _ (T4.setTop (mkF m 47 _ [(.int (p3 >>> ((8 : Int32) &&& 31))), (.int (3 : Int32)), (.ref ar15)]))
    refine Goes.go (fun _ k => XS.i2b X4.here hx rfl (hb hby at_47) rfl k) ?_
    show Goes _ _ _ _ _ _ _ (T4.setTop (mkF m 48 _ [(.int ((p3 >>> ((8 : Int32) &&& 31))).toInt8.toInt32), (.int (3 : Int32)), (.ref ar15)]))
    obtain ⟨T5, h5, X5, e5, W5, A5, st5⟩ := own_stB X4 hx hZ e4 f_3 (j := (3 : Int32)) (x := ((p3 >>> ((8 : Int32) &&& 31))).toInt8.toInt32) (by decide) (show (3 : Nat) < 4 by decide) (g := (mkF m 48 #[.val (.int p0), .val (.int p1), .val (.int p2), .val (.int p3), .val (.int v4), .val (.int (1 : Int32)), .val (.ref ar15), .unset] [(.int ((p3 >>> ((8 : Int32) &&& 31))).toInt8.toInt32), (.int (3 : Int32)), (.ref ar15)])) rfl rfl (hb hby at_48)
    rw [own_nar8] at A5
    have N5 := Fr.snoc X5 N4 ge_ar15
    have Z5 : n0 ≤ h5.size := by rw [W5.size]; exact Z4
    have f_4 : Arl Z h5 ar15 .byte [(.int (p2).toInt8.toInt32), (.int ((p2 >>> ((8 : Int32) &&& 31))).toInt8.toInt32), (.int (p3).toInt8.toInt32), (.int ((p3 >>> ((8 : Int32) &&& 31))).toInt8.toInt32)] := A5
    refine Goes.go (st5) ?_
    show Goes _ _ _ _ _ _ _ (T5.setTop (mkF m 49 _ []))
    refine Goes.go (fun _ k => XS.aload X5.here hx rfl (hb hby at_49) rfl rfl k) ?_
    show Goes _ _ _ _ _ _ _ (T5.setTop (mkF m 51 _ [(.ref ar15)]))
    refine Goes.go (fun _ k => XS.iload X5.here hx rfl (hb hby at_51) rfl k) ?_
    show Goes _ _ _ _ _ _ _ (T5.setTop (mkF m 53 _ [(.int (1 : Int32)), (.ref ar15)]))
    refine Goes.go (fun _ k => XS.iload X5.here hx rfl (hb hby at_53) rfl k) ?_
    show Goes _ _ _ _ _ _ _ (T5.setTop (mkF m 55 _ [(.int v4), (.int (1 : Int32)), (.ref ar15)]))
    refine Goes.go (fun _ k => XS.bipush X5.here hx rfl (hb hby at_55) k) ?_
    show Goes _ _ _ _ _ _ _ (T5.setTop (mkF m 57 _ [(.int (8 : Int32)), (.int v4), (.int (1 : Int32)), (.ref ar15)]))
    refine Goes.go (fun _ k => XS.iushr X5.here hx rfl (hb hby at_57) rfl k) ?_
    show Goes _ _ _ _ _ _ _ (T5.setTop (mkF m 58 _ [(.int ((v4).toUInt32 >>> ((8 : Int32) &&& 31).toUInt32).toInt32), (.int (1 : Int32)), (.ref ar15)]))
    refine Goes.go (fun _ k => XS.i2b X5.here hx rfl (hb hby at_58) rfl k) ?_
    show Goes _ _ _ _ _ _ _ (T5.setTop (mkF m 59 _ [(.int (((v4).toUInt32 >>> ((8 : Int32) &&& 31).toUInt32).toInt32).toInt8.toInt32), (.int (1 : Int32)), (.ref ar15)]))
    obtain ⟨T6, h6, X6, e6, W6, A6, st6⟩ := own_stB X5 hx hZ e5 f_4 (j := (1 : Int32)) (x := (((v4).toUInt32 >>> ((8 : Int32) &&& 31).toUInt32).toInt32).toInt8.toInt32) (by decide) (show (1 : Nat) < 4 by decide) (g := (mkF m 59 #[.val (.int p0), .val (.int p1), .val (.int p2), .val (.int p3), .val (.int v4), .val (.int (1 : Int32)), .val (.ref ar15), .unset] [(.int (((v4).toUInt32 >>> ((8 : Int32) &&& 31).toUInt32).toInt32).toInt8.toInt32), (.int (1 : Int32)), (.ref ar15)])) rfl rfl (hb hby at_59)
    rw [own_nar8] at A6
    have N6 := Fr.snoc X6 N5 ge_ar15
    have Z6 : n0 ≤ h6.size := by rw [W6.size]; exact Z5
    have f_5 : Arl Z h6 ar15 .byte [(.int (p2).toInt8.toInt32), (.int (((v4).toUInt32 >>> ((8 : Int32) &&& 31).toUInt32).toInt32).toInt8.toInt32), (.int (p3).toInt8.toInt32), (.int ((p3 >>> ((8 : Int32) &&& 31))).toInt8.toInt32)] := A6
    refine Goes.go (st6) ?_
    show Goes _ _ _ _ _ _ _ (T6.setTop (mkF m 60 _ []))
    refine Goes.go (fun _ k => XS.aload X6.here hx rfl (hb hby at_60) rfl rfl k) ?_
    show Goes _ _ _ _ _ _ _ (T6.setTop (mkF m 62 _ [(.ref ar15)]))
    refine Goes.go (fun _ k => XS.iload X6.here hx rfl (hb hby at_62) rfl k) ?_
    show Goes _ _ _ _ _ _ _ (T6.setTop (mkF m 64 _ [(.int (1 : Int32)), (.ref ar15)]))
    refine Goes.go (fun _ k => XS.iconst X6.here hx rfl (hb hby at_64) k) ?_
    show Goes _ _ _ _ _ _ _ (T6.setTop (mkF m 65 _ [(.int (1 : Int32)), (.int (1 : Int32)), (.ref ar15)]))
    refine Goes.go (fun _ k => XS.iadd X6.here hx rfl (hb hby at_65) rfl k) ?_
    show Goes _ _ _ _ _ _ _ (T6.setTop (mkF m 66 _ [(.int (2 : Int32)), (.ref ar15)]))
    refine Goes.go (fun _ k => XS.iload X6.here hx rfl (hb hby at_66) rfl k) ?_
    show Goes _ _ _ _ _ _ _ (T6.setTop (mkF m 68 _ [(.int v4), (.int (2 : Int32)), (.ref ar15)]))
    refine Goes.go (fun _ k => XS.i2b X6.here hx rfl (hb hby at_68) rfl k) ?_
    show Goes _ _ _ _ _ _ _ (T6.setTop (mkF m 69 _ [(.int (v4).toInt8.toInt32), (.int (2 : Int32)), (.ref ar15)]))
    obtain ⟨T7, h7, X7, e7, W7, A7, st7⟩ := own_stB X6 hx hZ e6 f_5 (j := (2 : Int32)) (x := (v4).toInt8.toInt32) (by decide) (show (2 : Nat) < 4 by decide) (g := (mkF m 69 #[.val (.int p0), .val (.int p1), .val (.int p2), .val (.int p3), .val (.int v4), .val (.int (1 : Int32)), .val (.ref ar15), .unset] [(.int (v4).toInt8.toInt32), (.int (2 : Int32)), (.ref ar15)])) rfl rfl (hb hby at_69)
    rw [own_nar8] at A7
    have N7 := Fr.snoc X7 N6 ge_ar15
    have Z7 : n0 ≤ h7.size := by rw [W7.size]; exact Z6
    have f_6 : Arl Z h7 ar15 .byte [(.int (p2).toInt8.toInt32), (.int (((v4).toUInt32 >>> ((8 : Int32) &&& 31).toUInt32).toInt32).toInt8.toInt32), (.int (v4).toInt8.toInt32), (.int ((p3 >>> ((8 : Int32) &&& 31))).toInt8.toInt32)] := A7
    refine Goes.go (st7) ?_
    show Goes _ _ _ _ _ _ _ (T7.setTop (mkF m 70 _ []))
    refine Goes.go (fun _ k => XS.aload X7.here hx rfl (hb hby at_70) rfl rfl k) ?_
    show Goes _ _ _ _ _ _ _ (T7.setTop (mkF m 72 _ [(.ref ar15)]))
    refine Goes.go (fun _ k => XS.iload X7.here hx rfl (hb hby at_72) rfl k) ?_
    show Goes _ _ _ _ _ _ _ (T7.setTop (mkF m 74 _ [(.int (1 : Int32)), (.ref ar15)]))
    obtain ⟨_, _, ⟨T8, L8, k8, n8⟩, -, X8, ⟨Lc8, hQ8, l8, y8, z8⟩, st8⟩ := Jvm.LawKit.callS X7 hx (y := (⟨"com/example/rigid_keyblock/rigidkeyblock/Bytes", "u16", "([BI)I"⟩ : MethodName)) hown (mvT hZ (hw _ (List.mem_of_getElem? (i := 3) rfl))) (mvT hZ (hw _ (List.mem_of_getElem? (i := 4) rfl))) (mvT hZ (hw _ (List.mem_of_getElem? (i := 5) rfl))) (mvT hZ (hw _ (List.mem_of_getElem? (i := 6) rfl))) (by decide) (backOf (W := 0) (rm1 l Z a0 hw [] ar15 (1 : Int32) _ (((v4).toUInt32 >>> ((8 : Int32) &&& 31).toUInt32).toInt32).toInt8.toInt32 (v4).toInt8.toInt32 h7 n0 Z7 f_6 (by decide) rfl (by decide) rfl) hZ (hw _ (List.mem_of_getElem? (i := 6) rfl)) (hw _ (List.mem_of_getElem? (i := 5) rfl)) (by decide) (by decide)) (g := (mkF m 74 #[.val (.int p0), .val (.int p1), .val (.int p2), .val (.int p3), .val (.int v4), .val (.int (1 : Int32)), .val (.ref ar15), .unset] [(.int (1 : Int32)), (.ref ar15)])) rfl (by rw [hml]; rfl) (argsL := [(.ref ar15), (.int (1 : Int32))]) (rest := []) (lenOf pd0 rfl) rfl (by show 2 * 0 + _ ≤ _; exact Nat.le_of_eq rfl) (hb hby at_74) (fun _ _ => ⟨rfl, e7, (by decide : 1 + 0 ≤ _), (by decide : 4 + 0 ≤ _)⟩)
    dsimp only [Pt.U, Pt.locs, Pt.cells, Pt.slots] at X8 l8 y8 z8 st8 hQ8
    subst l8 y8 z8
    obtain ⟨rfl, Nq8, hh8⟩ := hQ8
    have N8 := Fr.app N7 Nq8
    refine Goes.go (st8) ?_
    show Goes _ _ _ _ _ _ _ (T8.setTop (mkF m 77 _ [(.int ((((((v4).toUInt32 >>> ((8 : Int32) &&& 31).toUInt32).toInt32).toInt8.toInt32 &&& (255 : Int32)) <<< ((8 : Int32) &&& 31)) ||| ((v4).toInt8.toInt32 &&& (255 : Int32))))]))
    generalize hv77 : ((((((v4).toUInt32 >>> ((8 : Int32) &&& 31).toUInt32).toInt32).toInt8.toInt32 &&& (255 : Int32)) <<< ((8 : Int32) &&& 31)) ||| ((v4).toInt8.toInt32 &&& (255 : Int32))) = v77
    refine Goes.go (fun _ k => XS.istore X8.here hx rfl (hb hby at_77) rfl (l' := #[.val (.int p0), .val (.int p1), .val (.int p2), .val (.int p3), .val (.int v4), .val (.int (1 : Int32)), .val (.ref ar15), .val (.int v77)]) rfl k) ?_
    show Goes _ _ _ _ _ _ _ (T8.setTop (mkF m 79 #[.val (.int p0), .val (.int p1), .val (.int p2), .val (.int p3), .val (.int v4), .val (.int (1 : Int32)), .val (.ref ar15), .val (.int v77)] []))
    refine Goes.go (fun _ k => XS.iload X8.here hx rfl (hb hby at_79) rfl k) ?_
    show Goes _ _ _ _ _ _ _ (T8.setTop (mkF m 81 _ [(.int v77)]))
    refine Goes.go (fun _ k => XS.iload X8.here hx rfl (hb hby at_81) rfl k) ?_
    show Goes _ _ _ _ _ _ _ (T8.setTop (mkF m 83 _ [(.int v4), (.int v77)]))
    refine Goes.go (fun _ k => XS.icmpNo X8.here hx rfl (hb hby at_83) rfl (XT.ii_ne_f (hv77.symm.trans (own_back p0 _ hv4))) k) ?_
    show Goes _ _ _ _ _ _ _ (T8.setTop (mkF m 86 _ []))
    refine Goes.go (fun _ k => XS.iconst X8.here hx rfl (hb hby at_86) k) ?_
    show Goes _ _ _ _ _ _ _ (T8.setTop (mkF m 87 _ [(.int (1 : Int32))]))
    refine Goes.go (fun _ k => XS.goto X8.here hx rfl (pc0 := 87) (pc' := 91) rfl (hb hby at_87) (by decide) (by decide) k) ?_
    show Goes _ _ _ _ _ _ _ (T8.setTop (mkF m 91 _ [(.int (1 : Int32))]))
    exact Goes.outZ X8 hx hlk hret rfl (hb hby at_91) hh8 ⟨rfl, N8⟩ (by decide) (by decide)
  · skip
    show Goes _ _ _ _ _ _ _ (s₁.setTop (mkF m 14 #[.val (.int p0), .val (.int p1), .val (.int p2), .val (.int p3), .val (.int v4), .val (.int (2 : Int32)), .unset, .unset] []))
    refine Goes.go (fun _ k => XS.iconst X0.here hx rfl (hb hby at_14) k) ?_
    show Goes _ _ _ _ _ _ _ (s₁.setTop (mkF m 15 _ [(.int (4 : Int32))]))
    obtain ⟨T1, h1, X1, e1, E1, A1, st1⟩ := own_newP X0 hx hZ (aty := .byte) (hw _ (List.mem_of_getElem? (i := 2) rfl)) e0 (g := (mkF m 15 #[.val (.int p0), .val (.int p1), .val (.int p2), .val (.int p3), .val (.int v4), .val (.int (2 : Int32)), .unset, .unset] [(.int (4 : Int32))])) rfl (hb hby at_15) rfl (n := (4 : Int32)) (by decide) (cap := 4) (by decide) (by decide) (by decide) (by decide)
    obtain ⟨ar15, gar15⟩ : ∃ z, z = h0.size := ⟨_, rfl⟩
    rw [← gar15] at A1 st1
    have Z1 : n0 ≤ h1.size := Nat.le_trans Z0 E1.1
    have ge_ar15 : n0 ≤ ar15 := Nat.le_trans Z0 (Nat.le_of_eq gar15.symm)
    have f : Arl Z h1 ar15 .byte [(.int (0 : Int32)), (.int (0 : Int32)), (.int (0 : Int32)), (.int (0 : Int32))] := A1
    refine Goes.go (st1) ?_
    show Goes _ _ _ _ _ _ _ (T1.setTop (mkF m 17 _ [(.ref ar15)]))
    refine Goes.go (fun _ k => XS.astore X1.here hx rfl (hb hby at_17) rfl rfl (l' := #[.val (.int p0), .val (.int p1), .val (.int p2), .val (.int p3), .val (.int v4), .val (.int (2 : Int32)), .val (.ref ar15), .unset]) rfl k) ?_
    show Goes _ _ _ _ _ _ _ (T1.setTop (mkF m 19 #[.val (.int p0), .val (.int p1), .val (.int p2), .val (.int p3), .val (.int v4), .val (.int (2 : Int32)), .val (.ref ar15), .unset] []))
    refine Goes.go (fun _ k => XS.aload X1.here hx rfl (hb hby at_19) rfl rfl k) ?_
    show Goes _ _ _ _ _ _ _ (T1.setTop (mkF m 21 _ [(.ref ar15)]))
    refine Goes.go (fun _ k => XS.iconst X1.here hx rfl (hb hby at_21) k) ?_
    show Goes _ _ _ _ _ _ _ (T1.setTop (mkF m 22 _ [(.int (0 : Int32)), (.ref ar15)]))
    refine Goes.go (fun _ k => XS.iloadN X1.here hx rfl (hb hby at_22) rfl k) ?_
    show Goes _ _ _ _ _ _ _ (T1.setTop (mkF m 23 _ [(.int p2), (.int (0 : Int32)), (.ref ar15)]))
    refine Goes.go (fun _ k => XS.i2b X1.here hx rfl (hb hby at_23) rfl k) ?_
    show Goes _ _ _ _ _ _ _ (T1.setTop (mkF m 24 _ [(.int (p2).toInt8.toInt32), (.int (0 : Int32)), (.ref ar15)]))
    obtain ⟨T2, h2, X2, e2, W2, A2, st2⟩ := own_stB X1 hx hZ e1 f (j := (0 : Int32)) (x := (p2).toInt8.toInt32) (by decide) (show (0 : Nat) < 4 by decide) (g := (mkF m 24 #[.val (.int p0), .val (.int p1), .val (.int p2), .val (.int p3), .val (.int v4), .val (.int (2 : Int32)), .val (.ref ar15), .unset] [(.int (p2).toInt8.toInt32), (.int (0 : Int32)), (.ref ar15)])) rfl rfl (hb hby at_24)
    rw [own_nar8] at A2
    have N2 := Fr.snoc X2 N0 ge_ar15
    have Z2 : n0 ≤ h2.size := by rw [W2.size]; exact Z1
    have f_1 : Arl Z h2 ar15 .byte [(.int (p2).toInt8.toInt32), (.int (0 : Int32)), (.int (0 : Int32)), (.int (0 : Int32))] := A2
    refine Goes.go (st2) ?_
    show Goes _ _ _ _ _ _ _ (T2.setTop (mkF m 25 _ []))
    refine Goes.go (fun _ k => XS.aload X2.here hx rfl (hb hby at_25) rfl rfl k) ?_
    show Goes _ _ _ _ _ _ _ (T2.setTop (mkF m 27 _ [(.ref ar15)]))
    refine Goes.go (fun _ k => XS.iconst X2.here hx rfl (hb hby at_27) k) ?_
    show Goes _ _ _ _ _ _ _ (T2.setTop (mkF m 28 _ [(.int (1 : Int32)), (.ref ar15)]))
    refine Goes.go (fun _ k => XS.iloadN X2.here hx rfl (hb hby at_28) rfl k) ?_
    show Goes _ _ _ _ _ _ _ (T2.setTop (mkF m 29 _ [(.int p2), (.int (1 : Int32)), (.ref ar15)]))
    refine Goes.go (fun _ k => XS.bipush X2.here hx rfl (hb hby at_29) k) ?_
    show Goes _ _ _ _ _ _ _ (T2.setTop (mkF m 31 _ [(.int (8 : Int32)), (.int p2), (.int (1 : Int32)), (.ref ar15)]))
    refine Goes.go (fun _ k => XS.ishr X2.here hx rfl (hb hby at_31) rfl k) ?_
    show Goes _ _ _ _ _ _ _ (T2.setTop (mkF m 32 _ [(.int (p2 >>> ((8 : Int32) &&& 31))), (.int (1 : Int32)), (.ref ar15)]))
    refine Goes.go (fun _ k => XS.i2b X2.here hx rfl (hb hby at_32) rfl k) ?_
    show Goes _ _ _ _ _ _ _ (T2.setTop (mkF m 33 _ [(.int ((p2 >>> ((8 : Int32) &&& 31))).toInt8.toInt32), (.int (1 : Int32)), (.ref ar15)]))
    obtain ⟨T3, h3, X3, e3, W3, A3, st3⟩ := own_stB X2 hx hZ e2 f_1 (j := (1 : Int32)) (x := ((p2 >>> ((8 : Int32) &&& 31))).toInt8.toInt32) (by decide) (show (1 : Nat) < 4 by decide) (g := (mkF m 33 #[.val (.int p0), .val (.int p1), .val (.int p2), .val (.int p3), .val (.int v4), .val (.int (2 : Int32)), .val (.ref ar15), .unset] [(.int ((p2 >>> ((8 : Int32) &&& 31))).toInt8.toInt32), (.int (1 : Int32)), (.ref ar15)])) rfl rfl (hb hby at_33)
    rw [own_nar8] at A3
    have N3 := Fr.snoc X3 N2 ge_ar15
    have Z3 : n0 ≤ h3.size := by rw [W3.size]; exact Z2
    have f_2 : Arl Z h3 ar15 .byte [(.int (p2).toInt8.toInt32), (.int ((p2 >>> ((8 : Int32) &&& 31))).toInt8.toInt32), (.int (0 : Int32)), (.int (0 : Int32))] := A3
    refine Goes.go (st3) ?_
    show Goes _ _ _ _ _ _ _ (T3.setTop (mkF m 34 _ []))
    refine Goes.go (fun _ k => XS.aload X3.here hx rfl (hb hby at_34) rfl rfl k) ?_
    show Goes _ _ _ _ _ _ _ (T3.setTop (mkF m 36 _ [(.ref ar15)]))
    refine Goes.go (fun _ k => XS.iconst X3.here hx rfl (hb hby at_36) k) ?_
    show Goes _ _ _ _ _ _ _ (T3.setTop (mkF m 37 _ [(.int (2 : Int32)), (.ref ar15)]))
    refine Goes.go (fun _ k => XS.iloadN X3.here hx rfl (hb hby at_37) rfl k) ?_
    show Goes _ _ _ _ _ _ _ (T3.setTop (mkF m 38 _ [(.int p3), (.int (2 : Int32)), (.ref ar15)]))
    refine Goes.go (fun _ k => XS.i2b X3.here hx rfl (hb hby at_38) rfl k) ?_
    show Goes _ _ _ _ _ _ _ (T3.setTop (mkF m 39 _ [(.int (p3).toInt8.toInt32), (.int (2 : Int32)), (.ref ar15)]))
    obtain ⟨T4, h4, X4, e4, W4, A4, st4⟩ := own_stB X3 hx hZ e3 f_2 (j := (2 : Int32)) (x := (p3).toInt8.toInt32) (by decide) (show (2 : Nat) < 4 by decide) (g := (mkF m 39 #[.val (.int p0), .val (.int p1), .val (.int p2), .val (.int p3), .val (.int v4), .val (.int (2 : Int32)), .val (.ref ar15), .unset] [(.int (p3).toInt8.toInt32), (.int (2 : Int32)), (.ref ar15)])) rfl rfl (hb hby at_39)
    rw [own_nar8] at A4
    have N4 := Fr.snoc X4 N3 ge_ar15
    have Z4 : n0 ≤ h4.size := by rw [W4.size]; exact Z3
    have f_3 : Arl Z h4 ar15 .byte [(.int (p2).toInt8.toInt32), (.int ((p2 >>> ((8 : Int32) &&& 31))).toInt8.toInt32), (.int (p3).toInt8.toInt32), (.int (0 : Int32))] := A4
    refine Goes.go (st4) ?_
    show Goes _ _ _ _ _ _ _ (T4.setTop (mkF m 40 _ []))
    refine Goes.go (fun _ k => XS.aload X4.here hx rfl (hb hby at_40) rfl rfl k) ?_
    show Goes _ _ _ _ _ _ _ (T4.setTop (mkF m 42 _ [(.ref ar15)]))
    refine Goes.go (fun _ k => XS.iconst X4.here hx rfl (hb hby at_42) k) ?_
    show Goes _ _ _ _ _ _ _ (T4.setTop (mkF m 43 _ [(.int (3 : Int32)), (.ref ar15)]))
    refine Goes.go (fun _ k => XS.iloadN X4.here hx rfl (hb hby at_43) rfl k) ?_
    show Goes _ _ _ _ _ _ _ (T4.setTop (mkF m 44 _ [(.int p3), (.int (3 : Int32)), (.ref ar15)]))
    refine Goes.go (fun _ k => XS.bipush X4.here hx rfl (hb hby at_44) k) ?_
    show Goes _ _ _ _ _ _ _ (T4.setTop (mkF m 46 _ [(.int (8 : Int32)), (.int p3), (.int (3 : Int32)), (.ref ar15)]))
    refine Goes.go (fun _ k => XS.ishr X4.here hx rfl (hb hby at_46) rfl k) ?_
    show Goes _ _ _ _ _ _ _ (T4.setTop (mkF m 47 _ [(.int (p3 >>> ((8 : Int32) &&& 31))), (.int (3 : Int32)), (.ref ar15)]))
    refine Goes.go (fun _ k => XS.i2b X4.here hx rfl (hb hby at_47) rfl k) ?_
    show Goes _ _ _ _ _ _ _ (T4.setTop (mkF m 48 _ [(.int ((p3 >>> ((8 : Int32) &&& 31))).toInt8.toInt32), (.int (3 : Int32)), (.ref ar15)]))
    obtain ⟨T5, h5, X5, e5, W5, A5, st5⟩ := own_stB X4 hx hZ e4 f_3 (j := (3 : Int32)) (x := ((p3 >>> ((8 : Int32) &&& 31))).toInt8.toInt32) (by decide) (show (3 : Nat) < 4 by decide) (g := (mkF m 48 #[.val (.int p0), .val (.int p1), .val (.int p2), .val (.int p3), .val (.int v4), .val (.int (2 : Int32)), .val (.ref ar15), .unset] [(.int ((p3 >>> ((8 : Int32) &&& 31))).toInt8.toInt32), (.int (3 : Int32)), (.ref ar15)])) rfl rfl (hb hby at_48)
    rw [own_nar8] at A5
    have N5 := Fr.snoc X5 N4 ge_ar15
    have Z5 : n0 ≤ h5.size := by rw [W5.size]; exact Z4
    have f_4 : Arl Z h5 ar15 .byte [(.int (p2).toInt8.toInt32), (.int ((p2 >>> ((8 : Int32) &&& 31))).toInt8.toInt32), (.int (p3).toInt8.toInt32), (.int ((p3 >>> ((8 : Int32) &&& 31))).toInt8.toInt32)] := A5
    refine Goes.go (st5) ?_
    show Goes _ _ _ _ _ _ _ (T5.setTop (mkF m 49 _ []))
    refine Goes.go (fun _ k => XS.aload X5.here hx rfl (hb hby at_49) rfl rfl k) ?_
    show Goes _ _ _ _ _ _ _ (T5.setTop (mkF m 51 _ [(.ref ar15)]))
    refine Goes.go (fun _ k => XS.iload X5.here hx rfl (hb hby at_51) rfl k) ?_
    show Goes _ _ _ _ _ _ _ (T5.setTop (mkF m 53 _ [(.int (2 : Int32)), (.ref ar15)]))
    refine Goes.go (fun _ k => XS.iload X5.here hx rfl (hb hby at_53) rfl k) ?_
    show Goes _ _ _ _ _ _ _ (T5.setTop (mkF m 55 _ [(.int v4), (.int (2 : Int32)), (.ref ar15)]))
    refine Goes.go (fun _ k => XS.bipush X5.here hx rfl (hb hby at_55) k) ?_
    show Goes _ _ _ _ _ _ _ (T5.setTop (mkF m 57 _ [(.int (8 : Int32)), (.int v4), (.int (2 : Int32)), (.ref ar15)]))
    refine Goes.go (fun _ k => XS.iushr X5.here hx rfl (hb hby at_57) rfl k) ?_
    show Goes _ _ _ _ _ _ _ (T5.setTop (mkF m 58 _ [(.int ((v4).toUInt32 >>> ((8 : Int32) &&& 31).toUInt32).toInt32), (.int (2 : Int32)), (.ref ar15)]))
    refine Goes.go (fun _ k => XS.i2b X5.here hx rfl (hb hby at_58) rfl k) ?_
    show Goes _ _ _ _ _ _ _ (T5.setTop (mkF m 59 _ [(.int (((v4).toUInt32 >>> ((8 : Int32) &&& 31).toUInt32).toInt32).toInt8.toInt32), (.int (2 : Int32)), (.ref ar15)]))
    obtain ⟨T6, h6, X6, e6, W6, A6, st6⟩ := own_stB X5 hx hZ e5 f_4 (j := (2 : Int32)) (x := (((v4).toUInt32 >>> ((8 : Int32) &&& 31).toUInt32).toInt32).toInt8.toInt32) (by decide) (show (2 : Nat) < 4 by decide) (g := (mkF m 59 #[.val (.int p0), .val (.int p1), .val (.int p2), .val (.int p3), .val (.int v4), .val (.int (2 : Int32)), .val (.ref ar15), .unset] [(.int (((v4).toUInt32 >>> ((8 : Int32) &&& 31).toUInt32).toInt32).toInt8.toInt32), (.int (2 : Int32)), (.ref ar15)])) rfl rfl (hb hby at_59)
    rw [own_nar8] at A6
    have N6 := Fr.snoc X6 N5 ge_ar15
    have Z6 : n0 ≤ h6.size := by rw [W6.size]; exact Z5
    have f_5 : Arl Z h6 ar15 .byte [(.int (p2).toInt8.toInt32), (.int ((p2 >>> ((8 : Int32) &&& 31))).toInt8.toInt32), (.int (((v4).toUInt32 >>> ((8 : Int32) &&& 31).toUInt32).toInt32).toInt8.toInt32), (.int ((p3 >>> ((8 : Int32) &&& 31))).toInt8.toInt32)] := A6
    refine Goes.go (st6) ?_
    show Goes _ _ _ _ _ _ _ (T6.setTop (mkF m 60 _ []))
    refine Goes.go (fun _ k => XS.aload X6.here hx rfl (hb hby at_60) rfl rfl k) ?_
    show Goes _ _ _ _ _ _ _ (T6.setTop (mkF m 62 _ [(.ref ar15)]))
    refine Goes.go (fun _ k => XS.iload X6.here hx rfl (hb hby at_62) rfl k) ?_
    show Goes _ _ _ _ _ _ _ (T6.setTop (mkF m 64 _ [(.int (2 : Int32)), (.ref ar15)]))
    refine Goes.go (fun _ k => XS.iconst X6.here hx rfl (hb hby at_64) k) ?_
    show Goes _ _ _ _ _ _ _ (T6.setTop (mkF m 65 _ [(.int (1 : Int32)), (.int (2 : Int32)), (.ref ar15)]))
    refine Goes.go (fun _ k => XS.iadd X6.here hx rfl (hb hby at_65) rfl k) ?_
    show Goes _ _ _ _ _ _ _ (T6.setTop (mkF m 66 _ [(.int (3 : Int32)), (.ref ar15)]))
    refine Goes.go (fun _ k => XS.iload X6.here hx rfl (hb hby at_66) rfl k) ?_
    show Goes _ _ _ _ _ _ _ (T6.setTop (mkF m 68 _ [(.int v4), (.int (3 : Int32)), (.ref ar15)]))
    refine Goes.go (fun _ k => XS.i2b X6.here hx rfl (hb hby at_68) rfl k) ?_
    show Goes _ _ _ _ _ _ _ (T6.setTop (mkF m 69 _ [(.int (v4).toInt8.toInt32), (.int (3 : Int32)), (.ref ar15)]))
    obtain ⟨T7, h7, X7, e7, W7, A7, st7⟩ := own_stB X6 hx hZ e6 f_5 (j := (3 : Int32)) (x := (v4).toInt8.toInt32) (by decide) (show (3 : Nat) < 4 by decide) (g := (mkF m 69 #[.val (.int p0), .val (.int p1), .val (.int p2), .val (.int p3), .val (.int v4), .val (.int (2 : Int32)), .val (.ref ar15), .unset] [(.int (v4).toInt8.toInt32), (.int (3 : Int32)), (.ref ar15)])) rfl rfl (hb hby at_69)
    rw [own_nar8] at A7
    have N7 := Fr.snoc X7 N6 ge_ar15
    have Z7 : n0 ≤ h7.size := by rw [W7.size]; exact Z6
    have f_6 : Arl Z h7 ar15 .byte [(.int (p2).toInt8.toInt32), (.int ((p2 >>> ((8 : Int32) &&& 31))).toInt8.toInt32), (.int (((v4).toUInt32 >>> ((8 : Int32) &&& 31).toUInt32).toInt32).toInt8.toInt32), (.int (v4).toInt8.toInt32)] := A7
    refine Goes.go (st7) ?_
    show Goes _ _ _ _ _ _ _ (T7.setTop (mkF m 70 _ []))
    refine Goes.go (fun _ k => XS.aload X7.here hx rfl (hb hby at_70) rfl rfl k) ?_
    show Goes _ _ _ _ _ _ _ (T7.setTop (mkF m 72 _ [(.ref ar15)]))
    refine Goes.go (fun _ k => XS.iload X7.here hx rfl (hb hby at_72) rfl k) ?_
    show Goes _ _ _ _ _ _ _ (T7.setTop (mkF m 74 _ [(.int (2 : Int32)), (.ref ar15)]))
    obtain ⟨_, _, ⟨T8, L8, k8, n8⟩, -, X8, ⟨Lc8, hQ8, l8, y8, z8⟩, st8⟩ := Jvm.LawKit.callS X7 hx (y := (⟨"com/example/rigid_keyblock/rigidkeyblock/Bytes", "u16", "([BI)I"⟩ : MethodName)) hown (mvT hZ (hw _ (List.mem_of_getElem? (i := 3) rfl))) (mvT hZ (hw _ (List.mem_of_getElem? (i := 4) rfl))) (mvT hZ (hw _ (List.mem_of_getElem? (i := 5) rfl))) (mvT hZ (hw _ (List.mem_of_getElem? (i := 6) rfl))) (by decide) (backOf (W := 0) (rm1 l Z a0 hw [] ar15 (2 : Int32) _ (((v4).toUInt32 >>> ((8 : Int32) &&& 31).toUInt32).toInt32).toInt8.toInt32 (v4).toInt8.toInt32 h7 n0 Z7 f_6 (by decide) rfl (by decide) rfl) hZ (hw _ (List.mem_of_getElem? (i := 6) rfl)) (hw _ (List.mem_of_getElem? (i := 5) rfl)) (by decide) (by decide)) (g := (mkF m 74 #[.val (.int p0), .val (.int p1), .val (.int p2), .val (.int p3), .val (.int v4), .val (.int (2 : Int32)), .val (.ref ar15), .unset] [(.int (2 : Int32)), (.ref ar15)])) rfl (by rw [hml]; rfl) (argsL := [(.ref ar15), (.int (2 : Int32))]) (rest := []) (lenOf pd0 rfl) rfl (by show 2 * 0 + _ ≤ _; exact Nat.le_of_eq rfl) (hb hby at_74) (fun _ _ => ⟨rfl, e7, (by decide : 1 + 0 ≤ _), (by decide : 4 + 0 ≤ _)⟩)
    dsimp only [Pt.U, Pt.locs, Pt.cells, Pt.slots] at X8 l8 y8 z8 st8 hQ8
    subst l8 y8 z8
    obtain ⟨rfl, Nq8, hh8⟩ := hQ8
    have N8 := Fr.app N7 Nq8
    refine Goes.go (st8) ?_
    show Goes _ _ _ _ _ _ _ (T8.setTop (mkF m 77 _ [(.int ((((((v4).toUInt32 >>> ((8 : Int32) &&& 31).toUInt32).toInt32).toInt8.toInt32 &&& (255 : Int32)) <<< ((8 : Int32) &&& 31)) ||| ((v4).toInt8.toInt32 &&& (255 : Int32))))]))
    generalize hv77 : ((((((v4).toUInt32 >>> ((8 : Int32) &&& 31).toUInt32).toInt32).toInt8.toInt32 &&& (255 : Int32)) <<< ((8 : Int32) &&& 31)) ||| ((v4).toInt8.toInt32 &&& (255 : Int32))) = v77
    refine Goes.go (fun _ k => XS.istore X8.here hx rfl (hb hby at_77) rfl (l' := #[.val (.int p0), .val (.int p1), .val (.int p2), .val (.int p3), .val (.int v4), .val (.int (2 : Int32)), .val (.ref ar15), .val (.int v77)]) rfl k) ?_
    show Goes _ _ _ _ _ _ _ (T8.setTop (mkF m 79 #[.val (.int p0), .val (.int p1), .val (.int p2), .val (.int p3), .val (.int v4), .val (.int (2 : Int32)), .val (.ref ar15), .val (.int v77)] []))
    refine Goes.go (fun _ k => XS.iload X8.here hx rfl (hb hby at_79) rfl k) ?_
    show Goes _ _ _ _ _ _ _ (T8.setTop (mkF m 81 _ [(.int v77)]))
    refine Goes.go (fun _ k => XS.iload X8.here hx rfl (hb hby at_81) rfl k) ?_
    show Goes _ _ _ _ _ _ _ (T8.setTop (mkF m 83 _ [(.int v4), (.int v77)]))
    refine Goes.go (fun _ k => XS.icmpNo X8.here hx rfl (hb hby at_83) rfl (XT.ii_ne_f (hv77.symm.trans (own_back p0 _ hv4))) k) ?_
    show Goes _ _ _ _ _ _ _ (T8.setTop (mkF m 86 _ []))
    refine Goes.go (fun _ k => XS.iconst X8.here hx rfl (hb hby at_86) k) ?_
    show Goes _ _ _ _ _ _ _ (T8.setTop (mkF m 87 _ [(.int (1 : Int32))]))
    refine Goes.go (fun _ k => XS.goto X8.here hx rfl (pc0 := 87) (pc' := 91) rfl (hb hby at_87) (by decide) (by decide) k) ?_
    show Goes _ _ _ _ _ _ _ (T8.setTop (mkF m 91 _ [(.int (1 : Int32))]))
    exact Goes.outZ X8 hx hlk hret rfl (hb hby at_91) hh8 ⟨rfl, N8⟩ (by decide) (by decide)
set_option maxRecDepth 65536 in
set_option maxHeartbeats 40000000 in
theorem comes_1 {Post : Tables → Env → Array Value → State → Outcome → State → Prop} (hpost : ∀ tb e args s v u, (limb_1_1.after args s (.returned v) u = true ∧ limb_1_2.after args s (.returned v) u = true ∧ True) → FrameEnd s (.returned v) u (Jvm.fieldLocs frame_1_writes args s ++ Jvm.arrayLocs frame_1_arrays args s ++ Jvm.staticLocs frame_1_statics s) 16 128 → Post tb e args s (.returned v) u) :
    ArmFor flags0 classFile x code maxLocals ret World_1 tables_1 room_1 Calls_1 rest_1 Pre_1 Post := by
  intro l hfl _ _ p e ha hc hk s m args below hf hA hF happ hP
  obtain ⟨hcalls, hrest, hpre⟩ := hP
  obtain ⟨-, -, -, hnamed, -, -, -, hat⟩ := (Spec.applies_iff hf).mp happ
  obtain ⟨hg, hn⟩ := and_e (Cond.before_iff.mp (show (Jvm.Cond.and given_1 narrow_1).before args s = true from hpre))
  obtain ⟨gc, gr0⟩ := and_e hg
  obtain ⟨g0, gr1⟩ := and_e gr0
  obtain ⟨g1, gr2⟩ := and_e gr1
  obtain ⟨g2, gr3⟩ := and_e gr2
  obtain ⟨w0, w1, w2, w3, rfl⟩ : ∃ w0 w1 w2 w3 : Value, args = #[w0, w1, w2, w3] := by
    have hs : args.size = 4 := by simpa [Cond.value, given_1] using gc
    obtain ⟨L⟩ := args
    match L, hs with
    | [w0, w1, w2, w3], _ => exact ⟨w0, w1, w2, w3, rfl⟩
  have hw := fun d (hd : d ∈ tables_1) => atoms_spec (ws := Jvm.Cond.code x code maxLocals ret :: tables_1) hat d (List.mem_cons_of_mem _ hd)
  obtain ⟨i0, ei0⟩ := is_v g0
  obtain rfl : w0 = (.int i0) := Option.some.inj ei0
  obtain ⟨i1, ei1⟩ := is_v g1
  obtain rfl : w1 = (.int i1) := Option.some.inj ei1
  obtain ⟨i2, ei2⟩ := is_v g2
  obtain rfl : w2 = (.int i2) := Option.some.inj ei2
  obtain ⟨i3, ei3⟩ := is_v gr3
  obtain rfl : w3 = (.int i3) := Option.some.inj ei3
  obtain ⟨n, o, h1, h2, h3, _, L, rfl, ⟨rfl, N⟩, hq⟩ := rm0 l s _ hw tables_1 i0 i1 i2 i3 s.heap s.heap.size (Nat.le_refl _)  p e ha hc hk s m _ below hf ((Spec.applies_iff_loose hf).mp happ).1 ⟨rfl, State.Warmed39.refl s, rfl⟩ trivial
  refine ⟨n, _, h1, h2, h3, hpost _ _ _ _ _ _ ⟨Cond.after_iff.mpr rfl, Cond.after_iff.mpr (eq_i res_at (Term.int_eval (1)) rfl), trivial⟩ ⟨hq.1, hq.2.1, (hq.2.2.sift fun y hy => Or.inr (N y hy)).mono (by decide) (by decide)⟩⟩
theorem main_1_1 : Claimed_1_1 := comes_1 fun _ _ _ _ _ _ h hF => ⟨h.1, hF⟩
theorem main_1_2 : Claimed_1_2 := comes_1 fun _ _ _ _ _ _ h hF => ⟨h.2.1, hF⟩
end Jvm.Pilot.@@N@@
namespace Jvm.Pilot.@@N@@
open Jvm Jvm.ClassFile Sem Op Lib Jvm.Free Jvm.Stand Jvm.Pilot.@@N@@.Jvm.D
/-! MADE BY PROGRAM (witnessworld.py) out of the Statement's table words and the real class files: 9 classes; the members and pool entries that the words name. The judged class is class 1, her method 1. -/
namespace start1
open Jvm.ClassFile
def u (s : String) : CpInfo := .utf8 (stringToUtf16 s)
/-- a pool by its gaps: so many unusable entries, then the entry; so many at the end -/
def gap : Nat → List CpInfo → List CpInfo
  | 0, r => r
  | n + 1, r => .unusable :: gap n r
def poolList (es : List (Nat × CpInfo)) (last : Nat) : List CpInfo := es.foldr (fun e r => gap e.1 (e.2 :: r)) (gap last [])
def pool (es : List (Nat × CpInfo)) (last : Nat) : Array CpInfo := ⟨poolList es last⟩
def fileOf (pool : Array CpInfo) (this : Nat) (attrs : Array Attribute := #[]) (ms : Array MethodInfo := #[]) (fl : Nat := 33) (sup : Nat := 0) (ifs : Array Nat := #[]) (fds : Array FieldInfo := #[]) : ClassFile where
  minorVersion := 0
  majorVersion := 65
  constantPool := pool
  accessFlags := fl
  thisClass := this
  superClass := sup
  interfaces := ifs
  fields := fds
  methods := ms
  attributes := attrs
def plain (name : String) (sup : Option ClassId) : Class where
  name := name
  kind := .ordinary
  loader := none
  accessFlags := 33
  super := sup
  interfaces := #[]
  cf := none
  fields := #[]
  methods := #[]
  instanceTypes := #[]
  staticTypes := #[]
  resolved := #[]
  callSites := []
  init := .initialized
  statics := none
  mirror := none

def pool0 : Array CpInfo := pool [(5, u "<init>"), (0, u "()V"), (1, .class_ 10), (1, u "java/lang/Object")] 113

def k0m0 : Method := { name := "<init>", desc := "()V", sig := { parameters := [], returnType := none }, accessFlags := 1, code := none }
/-- java/lang/Object -/
def k0 : Class := { plain "java/lang/Object" none with
  accessFlags := 33
  interfaces := #[]
  cf := some (fileOf pool0 8 #[] #[{ accessFlags := 1, nameIndex := 5, descriptorIndex := 6, attributes := #[] }] 33 0 #[] #[])
  fields := #[]
  methods := #[k0m0]
  instanceTypes := #[]
  staticTypes := #[]
  resolved := Array.replicate 124 none
  statics := none }

def pool1 : Array CpInfo := pool [(2, .class_ 4), (1, u "java/lang/Object"), (0, u "<init>"), (0, u "()V"), (0, .integer 65535), (0, .integer 2147483647), (0, .methodref 10 11), (0, .class_ 12), (0, .nameAndType 13 14), (0, u "com/example/rigid_keyblock/rigidkeyblock/Bytes"), (0, u "u16"), (0, u "([BI)I"), (0, .class_ 16), (0, u "com/example/rigid_keyblock/rigidkeyblock/BytesU16PinLaw"), (2, u "law"), (0, u "(IIII)Z")] 5

def k1m0 : Method := { name := "<init>", desc := "()V", sig := { parameters := [], returnType := none }, accessFlags := 2, code := none }
def k1c1 : Code := { maxStack := 4, maxLocals := 8, code := code, exceptionTable := #[], attributes := #[] }
def k1m1 : Method := { name := "law", desc := "(IIII)Z", sig := { parameters := [.int, .int, .int, .int], returnType := some .boolean }, accessFlags := 9, code := some k1c1 }
/-- com/example/rigid_keyblock/rigidkeyblock/BytesU16PinLaw -/
def k1 : Class := { plain "com/example/rigid_keyblock/rigidkeyblock/BytesU16PinLaw" (some 0) with
  accessFlags := 49
  interfaces := #[]
  cf := some (fileOf pool1 15 #[] #[{ accessFlags := 2, nameIndex := 5, descriptorIndex := 6, attributes := #[] }, { accessFlags := 9, nameIndex := 19, descriptorIndex := 20, attributes := #[] }] 49 2 #[] #[])
  fields := #[]
  methods := #[k1m0, k1m1]
  instanceTypes := #[]
  staticTypes := #[]
  resolved := Array.replicate 26 none
  statics := none }

def pool2 : Array CpInfo := pool [(2, .class_ 4), (1, u "java/lang/Object"), (0, u "<init>"), (0, u "()V"), (14, .class_ 22), (0, u "com/example/rigid_keyblock/rigidkeyblock/Bytes"), (4, u "u16"), (0, u "([BI)I")] 2

def k2m0 : Method := { name := "<init>", desc := "()V", sig := { parameters := [], returnType := none }, accessFlags := 2, code := none }
def k2c1 : Code := { maxStack := 4, maxLocals := 2, code := prog_4_method_3_code, exceptionTable := #[], attributes := #[] }
def k2m1 : Method := { name := "u16", desc := "([BI)I", sig := { parameters := [(.array .byte), .int], returnType := some .int }, accessFlags := 8, code := some k2c1 }
/-- com/example/rigid_keyblock/rigidkeyblock/Bytes -/
def k2 : Class := { plain "com/example/rigid_keyblock/rigidkeyblock/Bytes" (some 0) with
  accessFlags := 32
  interfaces := #[]
  cf := some (fileOf pool2 21 #[] #[{ accessFlags := 2, nameIndex := 5, descriptorIndex := 6, attributes := #[] }, { accessFlags := 8, nameIndex := 27, descriptorIndex := 28, attributes := #[] }] 32 2 #[] #[])
  fields := #[]
  methods := #[k2m0, k2m1]
  instanceTypes := #[]
  staticTypes := #[]
  resolved := Array.replicate 31 none
  statics := none }

def pool3 : Array CpInfo := pool [(1, u "java/lang/Cloneable"), (0, .class_ 1), (0, u "java/lang/Object"), (0, .class_ 3)] 3

/-- java/lang/Cloneable -/
def k3 : Class := { plain "java/lang/Cloneable" (some 0) with
  accessFlags := 1537
  interfaces := #[]
  cf := some (fileOf pool3 2 #[] #[] 1537 4 #[] #[])
  fields := #[]
  methods := #[]
  instanceTypes := #[]
  staticTypes := #[]
  resolved := Array.replicate 8 none
  statics := none }

def pool4 : Array CpInfo := pool [(1, u "java/io/Serializable"), (0, .class_ 1), (0, u "java/lang/Object"), (0, .class_ 3)] 3

/-- java/io/Serializable -/
def k4 : Class := { plain "java/io/Serializable" (some 0) with
  accessFlags := 1537
  interfaces := #[]
  cf := some (fileOf pool4 2 #[] #[] 1537 4 #[] #[])
  fields := #[]
  methods := #[]
  instanceTypes := #[]
  staticTypes := #[]
  resolved := Array.replicate 8 none
  statics := none }

/-- the primitive byte -/
def k5 : Class := { plain "byte" none with kind := .primitive 'B', accessFlags := 0x411 }
/-- [B -/
def k6 : Class := { plain "[B" (some 0) with kind := .array 5 .byte, interfaces := #[3, 4], accessFlags := 1041 }

/-- the primitive int -/
def k7 : Class := { plain "int" none with kind := .primitive 'I', accessFlags := 0x411 }
/-- [I -/
def k8 : Class := { plain "[I" (some 0) with kind := .array 7 .int, interfaces := #[3, 4], accessFlags := 1041 }

def heap : Heap := #[]
def classes : Array Class := #[k0, k1, k2, k3, k4, k5, k6, k7, k8]
def interned : List (Array UInt16 × Addr) := []
def slotsUsed : Nat := 0
def theMethod : MethodId := ⟨1, 1⟩
def args0 : Array Value := #[.int 5, .int 7, .int 300, .int 9]
def aboutOver (below : List Frame) : State where
  vm := { classes := classes, interned := interned.toArray }
  heap := heap
  slotsUsed := slotsUsed
  threads := #[{ frames := .invoking theMethod args0 :: below }]
def below0 : List Frame := [.native { method := ⟨0, 0⟩, args := #[] }]
def about1 : State := aboutOver below0
def p0 : Program := .bare "" "" ""
def e0 : Env := launch0.env 0 0 0
theorem w_frames : about1.frames = Frame.invoking theMethod args0 :: below0 := rfl
set_option maxRecDepth 65536 in
theorem w_args : argsFit about1.vm theMethod args0 = true := by decide +kernel
set_option maxRecDepth 65536 in
theorem w_heap : heapFits about1 = true := by decide +kernel
set_option maxRecDepth 65536 in
theorem w_runnable : about1.curStatus? = some .runnable := by decide +kernel
set_option maxRecDepth 65536 in
theorem w_alone : about1.alone = true := by decide +kernel
set_option maxRecDepth 65536 in
theorem w_named : about1.methodNamed? x = some theMethod := by decide +kernel
set_option maxRecDepth 65536 in
theorem w_hears : about1.hears theMethod below0 = true := by decide +kernel
set_option maxRecDepth 65536 in
theorem w_ripe : about1.ripe theMethod args0 below0 = true := by decide +kernel
theorem w_running : about1.status = .running := rfl
set_option maxRecDepth 65536 in
theorem w_room : about1.hasRoom e0.platform room_1 = true :=
  launch0.hasRoom_least _ room_1 (by decide +kernel) (by decide +kernel) (by decide +kernel) (by decide +kernel) (by decide +kernel) (by decide +kernel)
theorem allAtoms_all (ts : List Jvm.Cond) (a : Array Jvm.Value) (st : Jvm.State) : (allAtoms ts).before a st = ts.all (fun c => c.before a st) := by
  induction ts with
  | nil => rfl
  | cons c t ih =>
    show (Jvm.Cond.and c (allAtoms t)).before a st = _
    rw [Jvm.Cond.before_and, ih, List.all_cons]
def words1 : List Jvm.Cond := Jvm.Cond.code x code maxLocals ret :: tables_1
/-- a 'code' word, met by the world's own term for the bytes: nothing is compared byte by byte -/
theorem code_word {y : MethodName} {bytes : ByteArray} {mx : Nat} {rt : Option FieldType} {a : Array Value} {s : State} {m : MethodId} {meth : Method} {c : Code} (h1 : s.methodNamed? y = some m) (h2 : s.vm.method? m = some meth) (h3 : meth.code = some c) (h4 : c.code = bytes)
    (h5 : (c.maxLocals == mx && c.exceptionTable.isEmpty && decide (c.maxStack ≤ mostOperands) && decide (meth.sig.returnType = rt) && !meth.locks && decide (parseMethodDescriptor y.desc = some meth.sig)) = true) : (Jvm.Cond.code y bytes mx rt).before a s = true := by
  simp only [Bool.and_eq_true, beq_iff_eq, Bool.not_eq_true', decide_eq_true_eq] at h5
  obtain ⟨⟨⟨⟨⟨g1, g2⟩, g3⟩, g4⟩, g5⟩, g6⟩ := h5
  simp [Cond.before, Cond.holds, Cond.value, h1, h2, h3, h4, g1, g2, g3, g4, g5, g6]
def isCode : Jvm.Cond → Bool
  | .code _ _ _ _ => true
  | _ => false
theorem all_split {L : List Jvm.Cond} {P : Jvm.Cond → Bool} (h1 : L.all (fun c => isCode c || P c) = true) (h2 : ∀ c ∈ L.filter isCode, P c = true) : L.all P = true := by
  refine List.all_eq_true.mpr fun c hc => ?_
  have h := List.all_eq_true.mp h1 c hc
  rcases Bool.eq_false_or_eq_true (isCode c) with hi | hi
  · exact h2 c (List.mem_filter.mpr ⟨hc, hi⟩)
  · simpa [hi] using h
set_option maxRecDepth 65536 in
theorem w_c0 : (Jvm.Cond.code x code maxLocals ret).before args0 about1 = true := code_word (m := ⟨1, 1⟩) (meth := k1m1) (c := k1c1) (by decide +kernel) rfl rfl rfl (by decide +kernel)
set_option maxRecDepth 65536 in
theorem w_c1 : (Jvm.Cond.code ({ cls := "com/example/rigid_keyblock/rigidkeyblock/Bytes", name := "u16", desc := "([BI)I" } : Jvm.MethodName) prog_4_method_3_code (2 : Nat) (Option.some Jvm.ClassFile.FieldType.int)).before args0 about1 = true := code_word (m := ⟨2, 1⟩) (meth := k2m1) (c := k2c1) (by decide +kernel) rfl rfl rfl (by decide +kernel)
def codes1 : List Jvm.Cond := [Jvm.Cond.code x code maxLocals ret, Jvm.Cond.code ({ cls := "com/example/rigid_keyblock/rigidkeyblock/Bytes", name := "u16", desc := "([BI)I" } : Jvm.MethodName) prog_4_method_3_code (2 : Nat) (Option.some Jvm.ClassFile.FieldType.int)]
set_option maxRecDepth 65536 in
theorem codes_eq : words1.filter isCode = codes1 := rfl
theorem w_codes : ∀ c ∈ words1.filter isCode, c.before args0 about1 = true := by
  rw [codes_eq]
  intro c hc
  simp only [codes1, List.mem_cons, List.not_mem_nil, or_false] at hc
  rcases hc with rfl | rfl
  · exact w_c0
  · exact w_c1
set_option maxRecDepth 65536 in
theorem w_t1 : words1.all (fun c => isCode c || c.before args0 about1) = true := by decide +kernel
theorem w_tables : (allAtoms (Jvm.Cond.code x code maxLocals ret :: tables_1)).before args0 about1 = true := by
  rw [allAtoms_all]
  show words1.all (fun c => c.before args0 about1) = true
  refine all_split ?_ w_codes
  rw [w_t1]
set_option maxRecDepth 65536 in
theorem w_case : (Jvm.Cond.and given_1 narrow_1).before args0 about1 = true := by decide +kernel
theorem w_applies : (headSpec (Jvm.Cond.code x code maxLocals ret :: tables_1) room_1).applies x e0.platform about1 = true :=
  (Spec.applies_iff w_frames).mpr ⟨w_running, w_runnable, w_alone, w_named, w_hears, w_ripe, w_room, w_tables⟩
theorem atStart : AtStart classFile x code maxLocals ret World_1 tables_1 room_1 Calls_1 rest_1 Pre_1 launch0 p0 e0 about1 theMethod args0 below0 :=
  ⟨lists_1, trivial, launch0.admits_env _ _ _, launch0.least_env, fairChoices_fair.cas, fairChoices_fair.clock, w_frames, w_args, w_heap, w_applies, trivial, trivial, w_case⟩
end start1
theorem witness_1 : WitnessClaimed_1 := ⟨start1.p0, start1.e0, start1.about1, start1.theMethod, start1.args0, start1.below0, start1.atStart⟩
end Jvm.Pilot.@@N@@
