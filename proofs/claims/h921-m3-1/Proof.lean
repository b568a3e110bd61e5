import JvmDerived
import JvmDerived.Pilot.@@N@@Statement
import JvmDerived.Pilot.@@N@@Code
set_option linter.unusedVariables false
set_option linter.unusedSimpArgs false
namespace Jvm.Pilot.@@N@@
open Jvm Jvm.ClassFile Sem Op Lib Jvm.Free Jvm.Stand Jvm.LawKit Jvm.RoadKit Bundle Jvm.Pilot.@@N@@.Jvm.D
section Own
variable {p : Program} {l : Launch} {e : Env} {R : Room} {s : State} {m : MethodId} {args : Array Value} {below : List Frame} {meth : Method} {c : Code} {T : State} {locs : List Loc} {cells slots : Nat} {Z : State} {a0 : Array Value} {h h' : Heap} {Q : Option Value → Heap → List Loc → Prop} {k n : Nat}
/-- from U the walk comes to a return of which Q holds -/
def Goes (p : Program) (e : Env) (below : List Frame) (s : State) (Q : Option Value → Heap → List Loc → Prop) (k n : Nat) (U : State) : Prop :=
  ∃ s₂ o, Steps p.tables e below U s₂ ∧ s₂.status = .running ∧ Ended s₂ below o ∧ ∃ v L, o = .returned v ∧ Q v s₂.heap L ∧ FrameEnd s o s₂ L k n
theorem Goes.go {U U' : State} (h : ∀ t, Steps p.tables e below U' t → Steps p.tables e below U t) (r : Goes p e below s Q k n U') : Goes p e below s Q k n U := by
  obtain ⟨s₂, o, h1, r⟩ := r
  exact ⟨s₂, o, h _ h1, r⟩
theorem Goes.outI (X : Stand p l e R s m args below meth c T locs cells slots) (hx : p.tables.exec = Jvm.exec) (hlk : meth.locks = false) (hret : meth.sig.returnType = some .int) {pc : Nat} {Ls : Array Slot} {z : Int32} (hd : decode c.code pc = .ok (.ireturn, 1)) (eT : T.heap = h) (hq : Q (some (.int z)) h locs) (hk : cells ≤ k) (hn : slots ≤ n) :
    Goes p e below s Q k n (T.setTop (mkF m pc Ls [.int z])) := by
  obtain ⟨fs, hr, hrun, hended, hW, hsame⟩ := X.leave (v := some (.int z)) (fun h => by rw [hret] at h; cases h) hlk
  refine ⟨_, _, X.ireturnOut hx hret rfl (Or.inl rfl) hd hr, hrun, hended, _, _, rfl, ?_, ⟨_, rfl⟩, hW, hsame.mono hk hn⟩
  show Q _ T.heap _
  rw [eT]; exact hq
theorem Goes.outZ (X : Stand p l e R s m args below meth c T locs cells slots) (hx : p.tables.exec = Jvm.exec) (hlk : meth.locks = false) (hret : meth.sig.returnType = some .boolean) {pc : Nat} {Ls : Array Slot} {z : Int32} (hz : narrow .boolean (.int z) = .int z) (hd : decode c.code pc = .ok (.ireturn, 1)) (eT : T.heap = h) (hq : Q (some (.int z)) h locs) (hk : cells ≤ k) (hn : slots ≤ n) :
    Goes p e below s Q k n (T.setTop (mkF m pc Ls [.int z])) := by
  obtain ⟨fs, hr, hrun, hended, hW, hsame⟩ := X.leave (v := some (.int z)) (fun h => by rw [hret] at h; cases h) hlk
  refine ⟨_, _, X.ireturnOut hx hret hz (Or.inr (Or.inl rfl)) hd hr, hrun, hended, _, _, rfl, ?_, ⟨_, rfl⟩, hW, hsame.mono hk hn⟩
  show Q _ T.heap _
  rw [eT]; exact hq
theorem Goes.outJ (X : Stand p l e R s m args below meth c T locs cells slots) (hx : p.tables.exec = Jvm.exec) (hlk : meth.locks = false) (hret : meth.sig.returnType = some .long) {pc : Nat} {Ls : Array Slot} {z : Int64} (hd : decode c.code pc = .ok (.lreturn, 1)) (eT : T.heap = h) (hq : Q (some (.long z)) h locs) (hk : cells ≤ k) (hn : slots ≤ n) :
    Goes p e below s Q k n (T.setTop (mkF m pc Ls [.long z])) := by
  obtain ⟨fs, hr, hrun, hended, hW, hsame⟩ := X.leave (v := some (.long z)) (fun h => by rw [hret] at h; cases h) hlk
  refine ⟨_, _, X.lreturnOut hx hret hd hr, hrun, hended, _, _, rfl, ?_, ⟨_, rfl⟩, hW, hsame.mono hk hn⟩
  show Q _ T.heap _
  rw [eT]; exact hq
theorem Goes.outA (X : Stand p l e R s m args below meth c T locs cells slots) (hx : p.tables.exec = Jvm.exec) (hlk : meth.locks = false) {t : FieldType} (hret : meth.sig.returnType = some t) (ht : t.isReference = true) {pc : Nat} {Ls : Array Slot} {w : Value} (hw : w.isRef = true) (hd : decode c.code pc = .ok (.areturn, 1)) (eT : T.heap = h) (hq : Q (some w) h locs) (hk : cells ≤ k) (hn : slots ≤ n) :
    Goes p e below s Q k n (T.setTop (mkF m pc Ls [w])) := by
  obtain ⟨fs, hr, hrun, hended, hW, hsame⟩ := X.leave (v := some w) (fun h => by rw [hret] at h; cases h) hlk
  refine ⟨_, _, X.areturnOut hx hw hret ht hd hr, hrun, hended, _, _, rfl, ?_, ⟨_, rfl⟩, hW, hsame.mono hk hn⟩
  show Q _ T.heap _
  rw [eT]; exact hq
theorem Goes.outV (X : Stand p l e R s m args below meth c T locs cells slots) (hx : p.tables.exec = Jvm.exec) (hlk : meth.locks = false) (hret : meth.sig.returnType = none) {pc : Nat} {Ls : Array Slot} (hd : decode c.code pc = .ok (.return_, 1)) (eT : T.heap = h) (hq : Q none h locs) (hk : cells ≤ k) (hn : slots ≤ n) :
    Goes p e below s Q k n (T.setTop (mkF m pc Ls [])) := by
  obtain ⟨fs, hr, hrun, hended, hW, hsame⟩ := X.leave (v := none) (fun _ => rfl) hlk
  refine ⟨_, _, X.returnOut hx hret hd hr, hrun, hended, _, _, rfl, ?_, ⟨_, rfl⟩, hW, hsame.mono hk hn⟩
  show Q _ T.heap _
  rw [eT]; exact hq
/-- an array, by the list of what it holds -/
def Arl (Z : State) (h : Heap) (a : Addr) (ty : FieldType) (vs : List Value) : Prop := ∃ c : Cell, Arr Z h a c ty ∧ c.slots.toList = vs
section Arls
variable {a b : Addr} {ty : FieldType} {vs : List Value} {v : Value} {sl : Nat} {ws : List Addr} {j : Int32}
theorem Arl.lt (F : Arl Z h a ty vs) : a < h.size := by obtain ⟨c, A, -⟩ := F; exact A.lt
theorem Arl.ext (F : Arl Z h a ty vs) (E : Ext h h') : Arl Z h' a ty vs := by obtain ⟨c, A, r⟩ := F; exact ⟨c, A.ext E, r⟩
theorem Arl.other (F : Arl Z h b ty vs) (W : Wr h h' a sl v) (q : b ≠ a) : Arl Z h' b ty vs := by obtain ⟨c, A, r⟩ := F; exact ⟨c, A.other W q, r⟩
theorem Arl.keep (F : Arl Z h a ty vs) (K : Keep h h' ws) (q : a ∉ ws) : Arl Z h' a ty vs := by obtain ⟨c, A, r⟩ := F; exact ⟨c, ⟨K.2.1 a c A.1 q, A.2⟩, r⟩
theorem Arl.set (F : Arl Z h a ty vs) (W : Wr h h' a sl v) : Arl Z h' a ty (vs.set sl v) := by
  obtain ⟨c, A, r⟩ := F
  refine ⟨_, A.same W, ?_⟩
  subst r
  simp [Cell.setSlot]
theorem Arl.eq {vs' : List Value} (F : Arl Z h a ty vs) (e : vs = vs') : Arl Z h a ty vs' := e ▸ F
theorem own_in {c : Cell} (r : c.slots.toList = vs) (h0 : ¬ j < 0) (h1 : j.toNatClampNeg < vs.length) : ¬ (j < 0 ∨ c.slots.size ≤ j.toNatClampNeg) := by
  subst r
  intro q
  rcases q with q | q
  · exact h0 q
  · rw [Array.length_toList] at h1; omega
theorem own_lt (hv : vs[sl]? = some v) : sl < vs.length := (List.getElem?_eq_some_iff.mp hv).1
end Arls
theorem own_ati {xs : List Int32} {j : Nat} {w : Int32} (h : xs[j]? = some w) : (xs.map Value.int)[j]? = some (.int w) := by
  rw [List.getElem?_map, h]; rfl
theorem own_lni {xs : List Int32} {j k : Nat} (hl : xs.length = k) (h : j < k) : j < (xs.map Value.int).length := by
  rw [List.length_map, hl]; exact h
theorem own_sti {a : Addr} {xs : List Int32} {j : Nat} {w : Int32} (A : Arl Z h a .int ((xs.map Value.int).set j (.int w))) : Arl Z h a .int ((xs.set j w).map Value.int) := A.eq List.map_set.symm
theorem own_selP {C : String} {y y' : MethodName} (hs : (Cond.selects C y' y').before args s = true) (hcls : y'.cls = y.cls) (hpriv : s.PrivateAt y) (hinst : (Cond.instanceMethod y).before args s = true) (hy : y.cls ≠ "java/lang/invoke/MethodHandle" ∧ y.cls ≠ "java/lang/invoke/VarHandle") : (Cond.selects y.cls y y).before args s = true := by
  obtain ⟨c2, r2, m2, -, -, q3, -, kP, hkP, hkPi⟩ := Cond.selects_spec hs
  have hc : s.vm.findClass y.cls = some m2.cls := hcls ▸ findClass_of_methodNamed q3
  exact selects_self_of_private hc hkP hkPi hpriv hinst hy
theorem own_neA {a b : Addr} {C : String} {k : Nat} {ty : FieldType} {vs : List Value} (F : Exa Z h a C) (wi : (Cond.instantiable C k).before a0 Z = true) (G : Arl Z h b ty vs) : a ≠ b := by
  obtain ⟨c', A', -⟩ := G
  exact ne_arr F wi A'
theorem own_newP (X : Stand p l e R s m args below meth c T locs cells slots) (hx : p.tables.exec = Jvm.exec) (hZ : Z.Warmed39 s.vm) {aty : ArrayType} (w : (Cond.arrayClass (newarray.typeOf aty)).before a0 Z = true) (eT : T.heap = h) {g : JFrame} (hg : g.method = m) (hd : decode c.code g.pc = .ok (.newarray aty, 2)) {n : Int32} {rest : List Value} (hs : g.stack = .int n :: rest)
    (hn : ¬ n < 0) {cap : Nat} (hcap : n.toNatClampNeg ≤ cap) (hb : cap * 8 ≤ 536870912) (hc : cells + 1 ≤ R.cells) (hl : slots + cap ≤ R.slots) :
    ∃ T' h', Stand p l e R s m args below meth c T' locs (cells + 1) (slots + cap) ∧ T'.heap = h' ∧ Ext h h' ∧ Arl Z h' h.size (newarray.typeOf aty) (List.replicate n.toNatClampNeg (defaultValue (newarray.typeOf aty))) ∧
      ∀ target, Steps p.tables e below (T'.setTop { g with pc := g.pc + 2, stack := .ref h.size :: rest }) target → Steps p.tables e below (T.setTop g) target := by
  obtain ⟨T', h', cA, X', e', E', A', st⟩ := newP X hx hZ w eT hg hd hs hn hcap hb hc hl
  exact ⟨T', h', X', e', E', ⟨_, A', by simp [newA]⟩, st⟩
theorem own_stB (X : Stand p l e R s m args below meth c T locs cells slots) (hx : p.tables.exec = Jvm.exec) (hZ : Z.Warmed39 s.vm) (eT : T.heap = h) {a : Addr} {vs : List Value} (A : Arl Z h a .byte vs) {j x : Int32} (hj : ¬ j < 0) (hj' : j.toNatClampNeg < vs.length) {g : JFrame} (hg : g.method = m) {rest : List Value} (hs : g.stack = .int x :: .int j :: .ref a :: rest) (hd : decode c.code g.pc = .ok (.bastore, 1)) :
    ∃ T' h', Stand p l e R s m args below meth c T' (locs ++ [⟨a, j.toNatClampNeg⟩]) cells slots ∧ T'.heap = h' ∧ Wr h h' a j.toNatClampNeg (.int x.toInt8.toInt32) ∧ Arl Z h' a .byte (vs.set j.toNatClampNeg (.int x.toInt8.toInt32)) ∧ ∀ target, Steps p.tables e below (T'.setTop { g with pc := g.pc + 1, stack := rest }) target → Steps p.tables e below (T.setTop g) target := by
  obtain ⟨c', A', r⟩ := A
  obtain ⟨T', h', X', e', W, st⟩ := stB X hx hZ eT A' (own_in r hj hj') hg hs hd
  exact ⟨T', h', X', e', W, Arl.set ⟨c', A', r⟩ W, st⟩
theorem own_stI (X : Stand p l e R s m args below meth c T locs cells slots) (hx : p.tables.exec = Jvm.exec) (hZ : Z.Warmed39 s.vm) (eT : T.heap = h) {a : Addr} {vs : List Value} (A : Arl Z h a .int vs) {j x : Int32} (hj : ¬ j < 0) (hj' : j.toNatClampNeg < vs.length) {g : JFrame} (hg : g.method = m) {rest : List Value} (hs : g.stack = .int x :: .int j :: .ref a :: rest) (hd : decode c.code g.pc = .ok (.iastore, 1)) :
    ∃ T' h', Stand p l e R s m args below meth c T' (locs ++ [⟨a, j.toNatClampNeg⟩]) cells slots ∧ T'.heap = h' ∧ Wr h h' a j.toNatClampNeg (.int x) ∧ Arl Z h' a .int (vs.set j.toNatClampNeg (.int x)) ∧ ∀ target, Steps p.tables e below (T'.setTop { g with pc := g.pc + 1, stack := rest }) target → Steps p.tables e below (T.setTop g) target := by
  obtain ⟨c', A', r⟩ := A
  obtain ⟨T', h', X', e', W, st⟩ := stI X hx hZ eT A' (own_in r hj hj') hg hs hd
  exact ⟨T', h', X', e', W, Arl.set ⟨c', A', r⟩ W, st⟩
theorem own_stJ (X : Stand p l e R s m args below meth c T locs cells slots) (hx : p.tables.exec = Jvm.exec) (hZ : Z.Warmed39 s.vm) (eT : T.heap = h) {a : Addr} {vs : List Value} (A : Arl Z h a .long vs) {j : Int32} {x : Int64} (hj : ¬ j < 0) (hj' : j.toNatClampNeg < vs.length) {g : JFrame} (hg : g.method = m) {rest : List Value} (hs : g.stack = .long x :: .int j :: .ref a :: rest) (hd : decode c.code g.pc = .ok (.lastore, 1)) :
    ∃ T' h', Stand p l e R s m args below meth c T' (locs ++ [⟨a, j.toNatClampNeg⟩]) cells slots ∧ T'.heap = h' ∧ Wr h h' a j.toNatClampNeg (.long x) ∧ Arl Z h' a .long (vs.set j.toNatClampNeg (.long x)) ∧ ∀ target, Steps p.tables e below (T'.setTop { g with pc := g.pc + 1, stack := rest }) target → Steps p.tables e below (T.setTop g) target := by
  obtain ⟨c', A', r⟩ := A
  obtain ⟨T', h', X', e', W, st⟩ := stJ X hx hZ eT A' (own_in r hj hj') hg hs hd
  exact ⟨T', h', X', e', W, Arl.set ⟨c', A', r⟩ W, st⟩
theorem own_at {a : Addr} {c' : Cell} {vs : List Value} {v : Value} {j : Int32} (r : c'.slots.toList = vs) (hv : vs[j.toNatClampNeg]? = some v) : c'.slots[j.toNatClampNeg]? = some v := by
  subst r; simpa using hv
theorem own_ldB (X : Stand p l e R s m args below meth c T locs cells slots) (hx : p.tables.exec = Jvm.exec) (hZ : Z.Warmed39 s.vm) (eT : T.heap = h) {a : Addr} {vs : List Value} {v : Value} (A : Arl Z h a .byte vs) {j : Int32} (hj : ¬ j < 0) (hv : vs[j.toNatClampNeg]? = some v) {g : JFrame} (hg : g.method = m) {rest : List Value} (hs : g.stack = .int j :: .ref a :: rest) (hd : decode c.code g.pc = .ok (.baload, 1)) :
    ∀ target, Steps p.tables e below (T.setTop { g with pc := g.pc + 1, stack := v :: rest }) target → Steps p.tables e below (T.setTop g) target := by
  obtain ⟨c', A', r⟩ := A
  exact fun t k => X.baloadBytes hx (by rw [eT]; exact A'.1) (State.isArrayOf_alike hZ.alike A'.2.1) A'.2.2 (own_in r hj (own_lt hv)) (own_at (a := a) r hv) hg hs hd t k
theorem own_ldI (X : Stand p l e R s m args below meth c T locs cells slots) (hx : p.tables.exec = Jvm.exec) (hZ : Z.Warmed39 s.vm) (eT : T.heap = h) {a : Addr} {vs : List Value} {v : Value} (A : Arl Z h a .int vs) {j : Int32} (hj : ¬ j < 0) (hv : vs[j.toNatClampNeg]? = some v) {g : JFrame} (hg : g.method = m) {rest : List Value} (hs : g.stack = .int j :: .ref a :: rest) (hd : decode c.code g.pc = .ok (.iaload, 1)) :
    ∀ target, Steps p.tables e below (T.setTop { g with pc := g.pc + 1, stack := v :: rest }) target → Steps p.tables e below (T.setTop g) target := by
  obtain ⟨c', A', r⟩ := A
  exact fun t k => X.iaload hx (by rw [eT]; exact A'.1) (State.isArrayOf_alike hZ.alike A'.2.1) A'.2.2 (own_in r hj (own_lt hv)) (own_at (a := a) r hv) hg hs hd t k
theorem own_ldJ (X : Stand p l e R s m args below meth c T locs cells slots) (hx : p.tables.exec = Jvm.exec) (hZ : Z.Warmed39 s.vm) (eT : T.heap = h) {a : Addr} {vs : List Value} {v : Value} (A : Arl Z h a .long vs) {j : Int32} (hj : ¬ j < 0) (hv : vs[j.toNatClampNeg]? = some v) {g : JFrame} (hg : g.method = m) {rest : List Value} (hs : g.stack = .int j :: .ref a :: rest) (hd : decode c.code g.pc = .ok (.laload, 1)) :
    ∀ target, Steps p.tables e below (T.setTop { g with pc := g.pc + 1, stack := v :: rest }) target → Steps p.tables e below (T.setTop g) target := by
  obtain ⟨c', A', r⟩ := A
  exact fun t k => X.laload hx (by rw [eT]; exact A'.1) (State.isArrayOf_alike hZ.alike A'.2.1) A'.2.2 (own_in r hj (own_lt hv)) (own_at (a := a) r hv) hg hs hd t k
theorem own_len (X : Stand p l e R s m args below meth c T locs cells slots) (hx : p.tables.exec = Jvm.exec) (hZ : Z.Warmed39 s.vm) (eT : T.heap = h) {a : Addr} {ty : FieldType} {vs : List Value} (A : Arl Z h a ty vs) {n : Int32} (hn : vs.length.toInt32 = n) {g : JFrame} (hg : g.method = m) {rest : List Value} (hs : g.stack = .ref a :: rest) (hd : decode c.code g.pc = .ok (.arraylength, 1)) :
    ∀ target, Steps p.tables e below (T.setTop { g with pc := g.pc + 1, stack := .int n :: rest }) target → Steps p.tables e below (T.setTop g) target := by
  obtain ⟨c', A', r⟩ := A
  have q : c'.slots.size.toInt32 = n := by rw [← hn, ← r, Array.length_toList]
  exact fun t k => X.arraylength hx (ty := ty) (by rw [eT]; exact A'.1) (State.isArrayOf_alike hZ.alike A'.2.1) hg hs hd t (q.symm ▸ k)
end Own
theorem own_nar8 (x : Int32) : x.toInt8.toInt32.toInt8.toInt32 = x.toInt8.toInt32 := by simp
theorem own_b : ∀ b : BitVec 8, ((Int8.ofBitVec b).toInt32 &&& (128 : Int32) = 0) ↔ ¬ (Int8.ofBitVec b).toInt32 < 0 := by decide +kernel
theorem own_c (x : Int8) : (x.toInt32 &&& (128 : Int32) = 0) ↔ ¬ x.toInt32 < 0 := own_b x.toBitVec
def muF (w : Int32) : Int32 := if w &&& (128 : Int32) = 0 then 0 else 1
theorem muF_neg {x : Int32} (h : x.toInt8.toInt32 < 0) : muF x.toInt8.toInt32 = 1 := by
  unfold muF
  rw [if_neg fun q => (own_c x.toInt8).mp q h]
theorem muF_pos {x : Int32} (h : ¬ x.toInt8.toInt32 < 0) : muF x.toInt8.toInt32 = 0 := by
  unfold muF
  rw [if_pos ((own_c x.toInt8).mpr h)]
theorem pd0 : parseMethodDescriptor "([B)V" = some ⟨[(.array .byte)], none⟩ := by decide +kernel
theorem pd1 : parseMethodDescriptor "()V" = some ⟨[], none⟩ := by decide +kernel
theorem pd2 : parseMethodDescriptor "()Z" = some ⟨[], (some .boolean)⟩ := by decide +kernel
theorem pd3 : parseMethodDescriptor "(IIIJ)Z" = some ⟨[.int, .int, .int, .long], (some .boolean)⟩ := by decide +kernel
theorem d1_0 : decode prog_82_method_1_code 0 = .ok (.aload_n 0, 1) := by decide +kernel
theorem d1_1 : decode prog_82_method_1_code 1 = .ok (.invokespecial 1, 3) := by decide +kernel
theorem d1_4 : decode prog_82_method_1_code 4 = .ok (.aload_n 0, 1) := by decide +kernel
theorem d1_5 : decode prog_82_method_1_code 5 = .ok (.aload_n 1, 1) := by decide +kernel
theorem d1_6 : decode prog_82_method_1_code 6 = .ok (.putfield 7, 3) := by decide +kernel
theorem d1_9 : decode prog_82_method_1_code 9 = .ok (.return_, 1) := by decide +kernel
theorem pn0 : plainName "com/example/rigid_keyblock/rigidkeyblock/StorageAccessCondition" = true := by first | (simp [plainName, overriddenIn]; done) | decide +kernel
theorem ef_rm1 (m : MethodId) (a : Addr) (p0 : Addr) : entryFrame m #[(.ref a), (.ref p0)] 2 = mkF m 0 #[.val (.ref a), .val (.ref p0)] [] := by first | (simp [entryFrame, mkF, argsToLocals, Value.category]; done) | rfl
def Q_rm1 (Z : State) (a : Addr) (p0 : Addr) (h0 : Heap) (n0 : Nat) (v : Option Value) (h : Heap) (L : List Loc) : Prop := v = none ∧ Fr n0 L ∧ Keep h0 h [a] ∧ Exa Z h a "com/example/rigid_keyblock/rigidkeyblock/StorageAccessCondition" ∧ Fld Z h a "com/example/rigid_keyblock/rigidkeyblock/StorageAccessCondition" "bytes" "[B" (.ref p0)
set_option maxRecDepth 65536 in
set_option maxHeartbeats 40000000 in
theorem rm1 (l : Launch) (Z : State) (a0 : Array Value) (hw : ∀ d ∈ tables_1, d.before a0 Z = true) (ws : List Jvm.Cond) (a : Addr) (p0 : Addr) (h0 : Heap) (n0 : Nat) (Z0 : n0 ≤ h0.size) (E0 : Exa Z h0 a "com/example/rigid_keyblock/rigidkeyblock/StorageAccessCondition") (F_bytes : Fld Z h0 a "com/example/rigid_keyblock/rigidkeyblock/StorageAccessCondition" "bytes" "[B" .null) (ga : n0 ≤ a) :
    MetFree l (⟨"com/example/rigid_keyblock/rigidkeyblock/StorageAccessCondition", "<init>", "([B)V"⟩ : MethodName) (head1 (Jvm.Cond.code (⟨"com/example/rigid_keyblock/rigidkeyblock/StorageAccessCondition", "<init>", "([B)V"⟩ : MethodName) prog_82_method_1_code 2 none :: ws) ({ frames := 1, cells := 0, slots := 0, locals := 12 } : Room)) (fun aa U => aa = #[(.ref a), (.ref p0)] ∧ Z.Warmed39 U.vm ∧ U.heap = h0) (fun _ _ _ _ _ => True) (fun _ U o U' => ∃ v L, o = .returned v ∧ Q_rm1 Z a p0 h0 n0 v U'.heap L ∧ FrameEnd U o U' L ({ frames := 1, cells := 0, slots := 0, locals := 12 } : Room).cells ({ frames := 1, cells := 0, slots := 0, locals := 12 } : Room).slots) := by
  refine MetFree.of_bodySF (plainFor_of_name pn0) hisR ?_
  intro p e s m args below meth c s₁ Bd hml0 hP hK
  obtain ⟨rfl, hZ, hh⟩ := hP
  have hx := Bd.exec
  have hby := Bd.bytes
  have hml : c.maxLocals = 2 := hml0
  have hown : s.vm.findClass "com/example/rigid_keyblock/rigidkeyblock/StorageAccessCondition" = some m.cls := findClass_of_methodNamed Bd.named
  have hnm := (name_of_methodNamed Bd.named Bd.method).1
  have hlk : meth.locks = false := Bd.notSynchronized
  have hret := Bd.returns
  have X0 : Stand p l e ({ frames := 1, cells := 0, slots := 0, locals := 12 } : Room) s m #[(.ref a), (.ref p0)] below meth c s₁ [] 0 0 := Stand.of_body Bd
  have e0 : s₁.heap = h0 := by rw [← hh, Bd.state]; rfl
  have N0 := Fr.nil n0
  have K0 : Keep h0 h0 [a] := Keep.refl _ _
  show Goes p e below s (Q_rm1 Z a p0 h0 n0) ({ frames := 1, cells := 0, slots := 0, locals := 12 } : Room).cells ({ frames := 1, cells := 0, slots := 0, locals := 12 } : Room).slots _
  refine Goes.go (fun t k => castTop (ef_rm1 m a p0) k) ?_
  show Goes _ _ _ _ _ _ _ (s₁.setTop (mkF m 0 #[.val (.ref a), .val (.ref p0)] []))
  refine Goes.go (fun _ k => XS.aloadN X0.here hx rfl (hb hby d1_0) rfl rfl k) ?_
  show Goes _ _ _ _ _ _ _ (s₁.setTop (mkF m 1 _ [(.ref a)]))
  obtain ⟨T1, X1, e1, st1⟩ := initO X0 hx hZ hown (hw _ (List.mem_of_getElem? (i := 7) rfl)) (hw _ (List.mem_of_getElem? (i := 8) rfl)) (hw _ (List.mem_of_getElem? (i := 9) rfl)) e0 (g := (mkF m 1 #[.val (.ref a), .val (.ref p0)] [(.ref a)])) rfl (by rw [hml]; rfl) rfl (hb hby d1_1) (by decide) (W := 0) (by show 2 * 0 + _ ≤ _; exact Nat.le_of_eq rfl) (by decide)
  refine Goes.go (st1) ?_
  show Goes _ _ _ _ _ _ _ (T1.setTop (mkF m 4 _ []))
  refine Goes.go (fun _ k => XS.aloadN X1.here hx rfl (hb hby d1_4) rfl rfl k) ?_
  show Goes _ _ _ _ _ _ _ (T1.setTop (mkF m 5 _ [(.ref a)]))
  refine Goes.go (fun _ k => XS.aloadN X1.here hx rfl (hb hby d1_5) rfl rfl k) ?_
  show Goes _ _ _ _ _ _ _ (T1.setTop (mkF m 6 _ [(.ref p0), (.ref a)]))
  obtain ⟨T2, h2, X2, e2, W2, st2⟩ := putF X1 hx hZ hown (host := "") (Or.inl (hw _ (List.mem_of_getElem? (i := 10) rfl))) Via.refl e1 F_bytes E0 (Or.inr ⟨(hw _ (List.mem_of_getElem? (i := 11) rfl)), rfl, hnm⟩) (hw _ (List.mem_of_getElem? (i := 2) rfl)) (ty := (.array .byte)) (by decide) rfl rfl (g := (mkF m 6 #[.val (.ref a), .val (.ref p0)] [(.ref p0), (.ref a)])) rfl rfl (hb hby d1_6)
  have N2 := Fr.snoc X2 N0 ga
  have f := Exa.wr W2 E0
  have f_1 := Fld.same W2 F_bytes
  have Z2 : n0 ≤ h2.size := by rw [W2.size]; exact Z0
  have K2 := K0.wr W2 (Or.inl (List.mem_of_getElem? (i := 0) rfl))
  refine Goes.go (st2) ?_
  show Goes _ _ _ _ _ _ _ (T2.setTop (mkF m 9 _ []))
  exact Goes.outV X2 hx hlk hret (hb hby d1_9) e2 ⟨rfl, N2, K2, f, f_1⟩ (by decide) (by decide)
theorem d3_0 : decode prog_82_method_4_code 0 = .ok (.aload_n 0, 1) := by decide +kernel
theorem d3_1 : decode prog_82_method_4_code 1 = .ok (.getfield 7, 3) := by decide +kernel
theorem d3_4 : decode prog_82_method_4_code 4 = .ok (.iconst 1, 1) := by decide +kernel
theorem d3_5 : decode prog_82_method_4_code 5 = .ok (.baload, 1) := by decide +kernel
theorem d3_6 : decode prog_82_method_4_code 6 = .ok (.sipush 128, 3) := by decide +kernel
theorem d3_9 : decode prog_82_method_4_code 9 = .ok (.iand, 1) := by decide +kernel
theorem d3_10 : decode prog_82_method_4_code 10 = .ok (.ifCond .eq 7, 3) := by decide +kernel
theorem d3_13 : decode prog_82_method_4_code 13 = .ok (.iconst 1, 1) := by decide +kernel
theorem d3_14 : decode prog_82_method_4_code 14 = .ok (.goto 4, 3) := by decide +kernel
theorem d3_17 : decode prog_82_method_4_code 17 = .ok (.iconst 0, 1) := by decide +kernel
theorem d3_18 : decode prog_82_method_4_code 18 = .ok (.ireturn, 1) := by decide +kernel
theorem ef_rm2 (m : MethodId) (a : Addr) : entryFrame m #[(.ref a)] 1 = mkF m 0 #[.val (.ref a)] [] := by first | (simp [entryFrame, mkF, argsToLocals, Value.category]; done) | rfl
def Q_rm2 (Z : State) (a : Addr) (bb : Addr) (vs : List Value) (w : Int32) (h0 : Heap) (n0 : Nat) (v : Option Value) (h : Heap) (L : List Loc) : Prop := v = some (.int (muF w)) ∧ Fr n0 L ∧ h = h0
set_option maxRecDepth 65536 in
set_option maxHeartbeats 40000000 in
theorem rm2 (l : Launch) (Z : State) (a0 : Array Value) (hw : ∀ d ∈ tables_1, d.before a0 Z = true) (ws : List Jvm.Cond) (a : Addr) (bb : Addr) (vs : List Value) (w : Int32) (h0 : Heap) (n0 : Nat) (Z0 : n0 ≤ h0.size) (F0 : Fld Z h0 a "com/example/rigid_keyblock/rigidkeyblock/StorageAccessCondition" "bytes" "[B" (.ref bb)) (A0 : Arl Z h0 bb .byte vs) (q : vs[(1 : Int32).toNatClampNeg]? = some (.int w)) :
    MetFree l (⟨"com/example/rigid_keyblock/rigidkeyblock/StorageAccessCondition", "moveUtProhibited", "()Z"⟩ : MethodName) (head1 (Jvm.Cond.code (⟨"com/example/rigid_keyblock/rigidkeyblock/StorageAccessCondition", "moveUtProhibited", "()Z"⟩ : MethodName) prog_82_method_4_code 1 (some .boolean) :: ws) ({ frames := 0, cells := 0, slots := 0, locals := 0 } : Room)) (fun aa U => aa = #[(.ref a)] ∧ Z.Warmed39 U.vm ∧ U.heap = h0) (fun _ _ _ _ _ => True) (fun _ U o U' => ∃ v L, o = .returned v ∧ Q_rm2 Z a bb vs w h0 n0 v U'.heap L ∧ FrameEnd U o U' L ({ frames := 0, cells := 0, slots := 0, locals := 0 } : Room).cells ({ frames := 0, cells := 0, slots := 0, locals := 0 } : Room).slots) := by
  refine MetFree.of_bodySF (plainFor_of_name pn0) hisR ?_
  intro p e s m args below meth c s₁ Bd hml0 hP hK
  obtain ⟨rfl, hZ, hh⟩ := hP
  have hx := Bd.exec
  have hby := Bd.bytes
  have hml : c.maxLocals = 1 := hml0
  have hown : s.vm.findClass "com/example/rigid_keyblock/rigidkeyblock/StorageAccessCondition" = some m.cls := findClass_of_methodNamed Bd.named
  have hnm := (name_of_methodNamed Bd.named Bd.method).1
  have hlk : meth.locks = false := Bd.notSynchronized
  have hret := Bd.returns
  have X0 : Stand p l e ({ frames := 0, cells := 0, slots := 0, locals := 0 } : Room) s m #[(.ref a)] below meth c s₁ [] 0 0 := Stand.of_body Bd
  have e0 : s₁.heap = h0 := by rw [← hh, Bd.state]; rfl
  have N0 := Fr.nil n0
  have K0 : Keep h0 h0 [] := Keep.refl _ _
  show Goes p e below s (Q_rm2 Z a bb vs w h0 n0) ({ frames := 0, cells := 0, slots := 0, locals := 0 } : Room).cells ({ frames := 0, cells := 0, slots := 0, locals := 0 } : Room).slots _
  refine Goes.go (fun t k => castTop (ef_rm2 m a) k) ?_
  show Goes _ _ _ _ _ _ _ (s₁.setTop (mkF m 0 #[.val (.ref a)] []))
  refine Goes.go (fun _ k => XS.aloadN X0.here hx rfl (hb hby d3_0) rfl rfl k) ?_
  show Goes _ _ _ _ _ _ _ (s₁.setTop (mkF m 1 _ [(.ref a)]))
  obtain ⟨T1, X1, e1, st1⟩ := getF X0 hx hZ hown (host := "") (Or.inl (hw _ (List.mem_of_getElem? (i := 10) rfl))) Via.refl e0 F0 (g := (mkF m 1 #[.val (.ref a)] [(.ref a)])) rfl rfl (hb hby d3_1)
  refine Goes.go (st1) ?_
  show Goes _ _ _ _ _ _ _ (T1.setTop (mkF m 4 _ [(.ref bb)]))
  refine Goes.go (fun _ k => XS.iconst X1.here hx rfl (hb hby d3_4) k) ?_
  show Goes _ _ _ _ _ _ _ (T1.setTop (mkF m 5 _ [(.int (1 : Int32)), (.ref bb)]))
  refine Goes.go (own_ldB X1 hx hZ e1 A0 (j := (1 : Int32)) (v := (.int w)) (by decide) q rfl rfl (hb hby d3_5)) ?_
  show Goes _ _ _ _ _ _ _ (T1.setTop (mkF m 6 _ [(.int w)]))
  refine Goes.go (fun _ k => XS.sipush X1.here hx rfl (hb hby d3_6) k) ?_
  show Goes _ _ _ _ _ _ _ (T1.setTop (mkF m 9 _ [(.int (128 : Int32)), (.int w)]))
  refine Goes.go (fun _ k => XS.iand X1.here hx rfl (hb hby d3_9) rfl k) ?_
  show Goes _ _ _ _ _ _ _ (T1.setTop (mkF m 10 _ [(.int (w &&& (128 : Int32)))]))
  by_cases c10 : (w &&& (128 : Int32)) = 0
  · skip
    refine Goes.go (fun _ k => XS.ifYes X1.here hx rfl (pc0 := 10) (pc' := 17) rfl (hb hby d3_10) rfl (XT.i0_eq_t c10) (by decide) (by decide) k) ?_
    show Goes _ _ _ _ _ _ _ (T1.setTop (mkF m 17 _ []))
    refine Goes.go (fun _ k => XS.iconst X1.here hx rfl (hb hby d3_17) k) ?_
    show Goes _ _ _ _ _ _ _ (T1.setTop (mkF m 18 _ [(.int (0 : Int32))]))
    exact Goes.outZ X1 hx hlk hret rfl (hb hby d3_18) e1 ⟨by unfold muF; rw [if_pos c10], N0, rfl⟩ (by decide) (by decide)
  · skip
    refine Goes.go (fun _ k => XS.ifNo X1.here hx rfl (hb hby d3_10) rfl (XT.i0_eq_f c10) k) ?_
    show Goes _ _ _ _ _ _ _ (T1.setTop (mkF m 13 _ []))
    refine Goes.go (fun _ k => XS.iconst X1.here hx rfl (hb hby d3_13) k) ?_
    show Goes _ _ _ _ _ _ _ (T1.setTop (mkF m 14 _ [(.int (1 : Int32))]))
    refine Goes.go (fun _ k => XS.goto X1.here hx rfl (pc0 := 14) (pc' := 18) rfl (hb hby d3_14) (by decide) (by decide) k) ?_
    show Goes _ _ _ _ _ _ _ (T1.setTop (mkF m 18 _ [(.int (1 : Int32))]))
    exact Goes.outZ X1 hx hlk hret rfl (hb hby d3_18) e1 ⟨by unfold muF; rw [if_neg c10], N0, rfl⟩ (by decide) (by decide)
theorem pn1 : plainName "com/example/rigid_keyblock/rigidkeyblock/StorageAccessConditionMoveUtProhibitedPinLaw" = true := by first | (simp [plainName, overriddenIn]; done) | decide +kernel
theorem ef_rm0 (m : MethodId) (p0 : Int32) (p1 : Int32) (p2 : Int32) (p3 : Int64) : entryFrame m #[(.int p0), (.int p1), (.int p2), (.long p3)] maxLocals = mkF m 0 #[.val (.int p0), .val (.int p1), .val (.int p2), .val (.long p3), .second, .unset, .unset, .unset, .unset, .unset] [] := by first | (simp [entryFrame, mkF, argsToLocals, Value.category, maxLocals]; done) | rfl
def Q_rm0 (Z : State) (p0 : Int32) (p1 : Int32) (p2 : Int32) (p3 : Int64) (h0 : Heap) (n0 : Nat) (v : Option Value) (h : Heap) (L : List Loc) : Prop := v = some (.int 1) ∧ Fr n0 L
set_option maxRecDepth 65536 in
set_option maxHeartbeats 40000000 in
theorem rm0 (l : Launch) (Z : State) (a0 : Array Value) (hw : ∀ d ∈ tables_1, d.before a0 Z = true) (ws : List Jvm.Cond) (p0 : Int32) (p1 : Int32) (p2 : Int32) (p3 : Int64) (h0 : Heap) (n0 : Nat) (Z0 : n0 ≤ h0.size)  :
    MetFree l x (head1 (Jvm.Cond.code x code maxLocals ret :: ws) room_1) (fun aa U => aa = #[(.int p0), (.int p1), (.int p2), (.long p3)] ∧ Z.Warmed39 U.vm ∧ U.heap = h0) (fun _ _ _ _ _ => True) (fun _ U o U' => ∃ v L, o = .returned v ∧ Q_rm0 Z p0 p1 p2 p3 h0 n0 v U'.heap L ∧ FrameEnd U o U' L room_1.cells room_1.slots) := by
  refine MetFree.of_bodySF (plainFor_of_name pn1) hisR ?_
  intro p e s m args below meth c s₁ Bd hml0 hP hK
  obtain ⟨rfl, hZ, hh⟩ := hP
  have hx := Bd.exec
  have hby := Bd.bytes
  have hml : c.maxLocals = 10 := hml0
  have hown : s.vm.findClass "com/example/rigid_keyblock/rigidkeyblock/StorageAccessConditionMoveUtProhibitedPinLaw" = some m.cls := findClass_of_methodNamed Bd.named
  have hnm := (name_of_methodNamed Bd.named Bd.method).1
  have hlk : meth.locks = false := Bd.notSynchronized
  have hret := Bd.returns
  have X0 : Stand p l e room_1 s m #[(.int p0), (.int p1), (.int p2), (.long p3)] below meth c s₁ [] 0 0 := Stand.of_body Bd
  have e0 : s₁.heap = h0 := by rw [← hh, Bd.state]; rfl
  have N0 := Fr.nil n0
  have K0 : Keep h0 h0 [] := Keep.refl _ _
  show Goes p e below s (Q_rm0 Z p0 p1 p2 p3 h0 n0) room_1.cells room_1.slots _
  refine Goes.go (fun t k => castTop (ef_rm0 m p0 p1 p2 p3) k) ?_
  show Goes _ _ _ _ _ _ _ (s₁.setTop (mkF m 0 #[.val (.int p0), .val (.int p1), .val (.int p2), .val (.long p3), .second, .unset, .unset, .unset, .unset, .unset] []))
  refine Goes.go (fun _ k => XS.bipush X0.here hx rfl (hb hby at_0) k) ?_
  show Goes _ _ _ _ _ _ _ (s₁.setTop (mkF m 2 _ [(.int (16 : Int32))]))
  obtain ⟨T1, h1, X1, e1, E1, A1, st1⟩ := own_newP X0 hx hZ (aty := .byte) (hw _ (List.mem_of_getElem? (i := 0) rfl)) e0 (g := (mkF m 2 #[.val (.int p0), .val (.int p1), .val (.int p2), .val (.long p3), .second, .unset, .unset, .unset, .unset, .unset] [(.int (16 : Int32))])) rfl (hb hby at_2) rfl (n := (16 : Int32)) (by decide) (cap := 16) (by decide) (by decide) (by decide) (by decide)
  obtain ⟨ar2, gar2⟩ : ∃ z, z = h0.size := ⟨_, rfl⟩
  rw [← gar2] at A1 st1
  have Z1 : n0 ≤ h1.size := Nat.le_trans Z0 E1.1
  have ge_ar2 : n0 ≤ ar2 := Nat.le_trans Z0 (Nat.le_of_eq gar2.symm)
  have f : Arl Z h1 ar2 .byte [(.int (0 : Int32)), (.int (0 : Int32)), (.int (0 : Int32)), (.int (0 : Int32)), (.int (0 : Int32)), (.int (0 : Int32)), (.int (0 : Int32)), (.int (0 : Int32)), (.int (0 : Int32)), (.int (0 : Int32)), (.int (0 : Int32)), (.int (0 : Int32)), (.int (0 : Int32)), (.int (0 : Int32)), (.int (0 : Int32)), (.int (0 : Int32))] := A1
  refine Goes.go (st1) ?_
  show Goes _ _ _ _ _ _ _ (T1.setTop (mkF m 4 _ [(.ref ar2)]))
  refine Goes.go (fun _ k => XS.astore X1.here hx rfl (hb hby at_4) rfl rfl (l' := #[.val (.int p0), .val (.int p1), .val (.int p2), .val (.long p3), .second, .val (.ref ar2), .unset, .unset, .unset, .unset]) rfl k) ?_
  show Goes _ _ _ _ _ _ _ (T1.setTop (mkF m 6 #[.val (.int p0), .val (.int p1), .val (.int p2), .val (.long p3), .second, .val (.ref ar2), .unset, .unset, .unset, .unset] []))
  refine Goes.go (fun _ k => XS.aload X1.here hx rfl (hb hby at_6) rfl rfl k) ?_
  show Goes _ _ _ _ _ _ _ (T1.setTop (mkF m 8 _ [(.ref ar2)]))
  refine Goes.go (fun _ k => XS.iconst X1.here hx rfl (hb hby at_8) k) ?_
  show Goes _ _ _ _ _ _ _ (T1.setTop (mkF m 9 _ [(.int (0 : Int32)), (.ref ar2)]))
  refine Goes.go (fun _ k => XS.iloadN X1.here hx rfl (hb hby at_9) rfl k) ?_
  show Goes _ _ _ _ _ _ _ (T1.setTop (mkF m 10 _ [(.int p0), (.int (0 : Int32)), (.ref ar2)]))
  refine Goes.go (fun _ k => XS.i2b X1.here hx rfl (hb hby at_10) rfl k) ?_
  show Goes _ _ _ _ _ _ _ (T1.setTop (mkF m 11 _ [(.int (p0).toInt8.toInt32), (.int (0 : Int32)), (.ref ar2)]))
  obtain ⟨T2, h2, X2, e2, W2, A2, st2⟩ := own_stB X1 hx hZ e1 f (j := (0 : Int32)) (x := (p0).toInt8.toInt32) (by decide) (show (0 : Nat) < 16 by decide) (g := (mkF m 11 #[.val (.int p0), .val (.int p1), .val (.int p2), .val (.long p3), .second, .val (.ref ar2), .unset, .unset, .unset, .unset] [(.int (p0).toInt8.toInt32), (.int (0 : Int32)), (.ref ar2)])) rfl rfl (hb hby at_11)
  rw [own_nar8] at A2
  have N2 := Fr.snoc X2 N0 ge_ar2
  have Z2 : n0 ≤ h2.size := by rw [W2.size]; exact Z1
  have f_1 : Arl Z h2 ar2 .byte [(.int (p0).toInt8.toInt32), (.int (0 : Int32)), (.int (0 : Int32)), (.int (0 : Int32)), (.int (0 : Int32)), (.int (0 : Int32)), (.int (0 : Int32)), (.int (0 : Int32)), (.int (0 : Int32)), (.int (0 : Int32)), (.int (0 : Int32)), (.int (0 : Int32)), (.int (0 : Int32)), (.int (0 : Int32)), (.int (0 : Int32)), (.int (0 : Int32))] := A2
  refine Goes.go (st2) ?_
  show Goes _ _ _ _ _ _ _ (T2.setTop (mkF m 12 _ []))
  refine Goes.go (fun _ k => XS.aload X2.here hx rfl (hb hby at_12) rfl rfl k) ?_
  show Goes _ _ _ _ _ _ _ (T2.setTop (mkF m 14 _ [(.ref ar2)]))
  refine Goes.go (fun _ k => XS.iconst X2.here hx rfl (hb hby at_14) k) ?_
  show Goes _ _ _ _ _ _ _ (T2.setTop (mkF m 15 _ [(.int (1 : Int32)), (.ref ar2)]))
  refine Goes.go (fun _ k => XS.iloadN X2.here hx rfl (hb hby at_15) rfl k) ?_
  show Goes _ _ _ _ _ _ _ (T2.setTop (mkF m 16 _ [(.int p1), (.int (1 : Int32)), (.ref ar2)]))
  refine Goes.go (fun _ k => XS.i2b X2.here hx rfl (hb hby at_16) rfl k) ?_
  show Goes _ _ _ _ _ _ _ (T2.setTop (mkF m 17 _ [(.int (p1).toInt8.toInt32), (.int (1 : Int32)), (.ref ar2)]))
  obtain ⟨T3, h3, X3, e3, W3, A3, st3⟩ := own_stB X2 hx hZ e2 f_1 (j := (1 : Int32)) (x := (p1).toInt8.toInt32) (by decide) (show (1 : Nat) < 16 by decide) (g := (mkF m 17 #[.val (.int p0), .val (.int p1), .val (.int p2), .val (.long p3), .second, .val (.ref ar2), .unset, .unset, .unset, .unset] [(.int (p1).toInt8.toInt32), (.int (1 : Int32)), (.ref ar2)])) rfl rfl (hb hby at_17)
  rw [own_nar8] at A3
  have N3 := Fr.snoc X3 N2 ge_ar2
  have Z3 : n0 ≤ h3.size := by rw [W3.size]; exact Z2
  have f_2 : Arl Z h3 ar2 .byte [(.int (p0).toInt8.toInt32), (.int (p1).toInt8.toInt32), (.int (0 : Int32)), (.int (0 : Int32)), (.int (0 : Int32)), (.int (0 : Int32)), (.int (0 : Int32)), (.int (0 : Int32)), (.int (0 : Int32)), (.int (0 : Int32)), (.int (0 : Int32)), (.int (0 : Int32)), (.int (0 : Int32)), (.int (0 : Int32)), (.int (0 : Int32)), (.int (0 : Int32))] := A3
  refine Goes.go (st3) ?_
  show Goes _ _ _ _ _ _ _ (T3.setTop (mkF m 18 _ []))
  refine Goes.go (fun _ k => XS.aload X3.here hx rfl (hb hby at_18) rfl rfl k) ?_
  show Goes _ _ _ _ _ _ _ (T3.setTop (mkF m 20 _ [(.ref ar2)]))
  refine Goes.go (fun _ k => XS.iconst X3.here hx rfl (hb hby at_20) k) ?_
  show Goes _ _ _ _ _ _ _ (T3.setTop (mkF m 21 _ [(.int (2 : Int32)), (.ref ar2)]))
  refine Goes.go (fun _ k => XS.iloadN X3.here hx rfl (hb hby at_21) rfl k) ?_
  show Goes _ _ _ _ _ _ _ (T3.setTop (mkF m 22 _ [(.int p2), (.int (2 : Int32)), (.ref ar2)]))
  refine Goes.go (fun _ k => XS.i2b X3.here hx rfl (hb hby at_22) rfl k) ?_
  show Goes _ _ _ _ _ _ _ (T3.setTop (mkF m 23 _ [(.int (p2).toInt8.toInt32), (.int (2 : Int32)), (.ref ar2)]))
  obtain ⟨T4, h4, X4, e4, W4, A4, st4⟩ := own_stB X3 hx hZ e3 f_2 (j := (2 : Int32)) (x := (p2).toInt8.toInt32) (by decide) (show (2 : Nat) < 16 by decide) (g := (mkF m 23 #[.val (.int p0), .val (.int p1), .val (.int p2), .val (.long p3), .second, .val (.ref ar2), .unset, .unset, .unset, .unset] [(.int (p2).toInt8.toInt32), (.int (2 : Int32)), (.ref ar2)])) rfl rfl (hb hby at_23)
  rw [own_nar8] at A4
  have N4 := Fr.snoc X4 N3 ge_ar2
  have Z4 : n0 ≤ h4.size := by rw [W4.size]; exact Z3
  have f_3 : Arl Z h4 ar2 .byte [(.int (p0).toInt8.toInt32), (.int (p1).toInt8.toInt32), (.int (p2).toInt8.toInt32), (.int (0 : Int32)), (.int (0 : Int32)), (.int (0 : Int32)), (.int (0 : Int32)), (.int (0 : Int32)), (.int (0 : Int32)), (.int (0 : Int32)), (.int (0 : Int32)), (.int (0 : Int32)), (.int (0 : Int32)), (.int (0 : Int32)), (.int (0 : Int32)), (.int (0 : Int32))] := A4
  refine Goes.go (st4) ?_
  show Goes _ _ _ _ _ _ _ (T4.setTop (mkF m 24 _ []))
  refine Goes.go (fun _ k => XS.aload X4.here hx rfl (hb hby at_24) rfl rfl k) ?_
  show Goes _ _ _ _ _ _ _ (T4.setTop (mkF m 26 _ [(.ref ar2)]))
  refine Goes.go (fun _ k => XS.iconst X4.here hx rfl (hb hby at_26) k) ?_
  show Goes _ _ _ _ _ _ _ (T4.setTop (mkF m 27 _ [(.int (3 : Int32)), (.ref ar2)]))
  refine Goes.go (fun _ k => XS.iloadN X4.here hx rfl (hb hby at_27) rfl k) ?_
  show Goes _ _ _ _ _ _ _ (T4.setTop (mkF m 28 _ [(.int p2), (.int (3 : Int32)), (.ref ar2)]))
  refine Goes.go (fun _ k => XS.bipush X4.here hx rfl (hb hby at_28) k) ?_
  show Goes _ _ _ _ _ _ _ (T4.setTop (mkF m 30 _ [(.int (8 : Int32)), (.int p2), (.int (3 : Int32)), (.ref ar2)]))
  refine Goes.go (fun _ k => XS.iushr X4.here hx rfl (hb hby at_30) rfl k) ?_
  show Goes _ _ _ _ _ _ _ (T4.setTop (mkF m 31 _ [(.int ((p2).toUInt32 >>> ((8 : Int32) &&& 31).toUInt32).toInt32), (.int (3 : Int32)), (.ref ar2)]))
  refine Goes.go (fun _ k => XS.i2b X4.here hx rfl (hb hby at_31) rfl k) ?_
  show Goes _ _ _ _ _ _ _ (T4.setTop (mkF m 32 _ [(.int (((p2).toUInt32 >>> ((8 : Int32) &&& 31).toUInt32).toInt32).toInt8.toInt32), (.int (3 : Int32)), (.ref ar2)]))
  obtain ⟨T5, h5, X5, e5, W5, A5, st5⟩ := own_stB X4 hx hZ e4 f_3 (j := (3 : Int32)) (x := (((p2).toUInt32 >>> ((8 : Int32) &&& 31).toUInt32).toInt32).toInt8.toInt32) (by decide) (show (3 : Nat) < 16 by decide) (g := (mkF m 32 #[.val (.int p0), .val (.int p1), .val (.int p2), .val (.long p3), .second, .val (.ref ar2), .unset, .unset, .unset, .unset] [(.int (((p2).toUInt32 >>> ((8 : Int32) &&& 31).toUInt32).toInt32).toInt8.toInt32), (.int (3 : Int32)), (.ref ar2)])) rfl rfl (hb hby at_32)
  rw [own_nar8] at A5
  have N5 := Fr.snoc X5 N4 ge_ar2
  have Z5 : n0 ≤ h5.size := by rw [W5.size]; exact Z4
  have f_4 : Arl Z h5 ar2 .byte [(.int (p0).toInt8.toInt32), (.int (p1).toInt8.toInt32), (.int (p2).toInt8.toInt32), (.int (((p2).toUInt32 >>> ((8 : Int32) &&& 31).toUInt32).toInt32).toInt8.toInt32), (.int (0 : Int32)), (.int (0 : Int32)), (.int (0 : Int32)), (.int (0 : Int32)), (.int (0 : Int32)), (.int (0 : Int32)), (.int (0 : Int32)), (.int (0 : Int32)), (.int (0 : Int32)), (.int (0 : Int32)), (.int (0 : Int32)), (.int (0 : Int32))] := A5
  refine Goes.go (st5) ?_
  show Goes _ _ _ _ _ _ _ (T5.setTop (mkF m 33 _ []))
  refine Goes.go (fun _ k => XS.aload X5.here hx rfl (hb hby at_33) rfl rfl k) ?_
  show Goes _ _ _ _ _ _ _ (T5.setTop (mkF m 35 _ [(.ref ar2)]))
  refine Goes.go (fun _ k => XS.iconst X5.here hx rfl (hb hby at_35) k) ?_
  show Goes _ _ _ _ _ _ _ (T5.setTop (mkF m 36 _ [(.int (4 : Int32)), (.ref ar2)]))
  refine Goes.go (fun _ k => XS.iloadN X5.here hx rfl (hb hby at_36) rfl k) ?_
  show Goes _ _ _ _ _ _ _ (T5.setTop (mkF m 37 _ [(.int p2), (.int (4 : Int32)), (.ref ar2)]))
  refine Goes.go (fun _ k => XS.bipush X5.here hx rfl (hb hby at_37) k) ?_
  show Goes _ _ _ _ _ _ _ (T5.setTop (mkF m 39 _ [(.int (16 : Int32)), (.int p2), (.int (4 : Int32)), (.ref ar2)]))
  refine Goes.go (fun _ k => XS.iushr X5.here hx rfl (hb hby at_39) rfl k) ?_
  show Goes _ _ _ _ _ _ _ (T5.setTop (mkF m 40 _ [(.int ((p2).toUInt32 >>> ((16 : Int32) &&& 31).toUInt32).toInt32), (.int (4 : Int32)), (.ref ar2)]))
  refine Goes.go (fun _ k => XS.i2b X5.here hx rfl (hb hby at_40) rfl k) ?_
  show Goes _ _ _ _ _ _ _ (T5.setTop (mkF m 41 _ [(.int (((p2).toUInt32 >>> ((16 : Int32) &&& 31).toUInt32).toInt32).toInt8.toInt32), (.int (4 : Int32)), (.ref ar2)]))
  obtain ⟨T6, h6, X6, e6, W6, A6, st6⟩ := own_stB X5 hx hZ e5 f_4 (j := (4 : Int32)) (x := (((p2).toUInt32 >>> ((16 : Int32) &&& 31).toUInt32).toInt32).toInt8.toInt32) (by decide) (show (4 : Nat) < 16 by decide) (g := (mkF m 41 #[.val (.int p0), .val (.int p1), .val (.int p2), .val (.long p3), .second, .val (.ref ar2), .unset, .unset, .unset, .unset] [(.int (((p2).toUInt32 >>> ((16 : Int32) &&& 31).toUInt32).toInt32).toInt8.toInt32), (.int (4 : Int32)), (.ref ar2)])) rfl rfl (hb hby at_41)
  rw [own_nar8] at A6
  have N6 := Fr.snoc X6 N5 ge_ar2
  have Z6 : n0 ≤ h6.size := by rw [W6.size]; exact Z5
  have f_5 : Arl Z h6 ar2 .byte [(.int (p0).toInt8.toInt32), (.int (p1).toInt8.toInt32), (.int (p2).toInt8.toInt32), (.int (((p2).toUInt32 >>> ((8 : Int32) &&& 31).toUInt32).toInt32).toInt8.toInt32), (.int (((p2).toUInt32 >>> ((16 : Int32) &&& 31).toUInt32).toInt32).toInt8.toInt32), (.int (0 : Int32)), (.int (0 : Int32)), (.int (0 : Int32)), (.int (0 : Int32)), (.int (0 : Int32)), (.int (0 : Int32)), (.int (0 : Int32)), (.int (0 : Int32)), (.int (0 : Int32)), (.int (0 : Int32)), (.int (0 : Int32))] := A6
  refine Goes.go (st6) ?_
  show Goes _ _ _ _ _ _ _ (T6.setTop (mkF m 42 _ []))
  refine Goes.go (fun _ k => XS.aload X6.here hx rfl (hb hby at_42) rfl rfl k) ?_
  show Goes _ _ _ _ _ _ _ (T6.setTop (mkF m 44 _ [(.ref ar2)]))
  refine Goes.go (fun _ k => XS.iconst X6.here hx rfl (hb hby at_44) k) ?_
  show Goes _ _ _ _ _ _ _ (T6.setTop (mkF m 45 _ [(.int (5 : Int32)), (.ref ar2)]))
  refine Goes.go (fun _ k => XS.iloadN X6.here hx rfl (hb hby at_45) rfl k) ?_
  show Goes _ _ _ _ _ _ _ (T6.setTop (mkF m 46 _ [(.int p2), (.int (5 : Int32)), (.ref ar2)]))
  refine Goes.go (fun _ k => XS.bipush X6.here hx rfl (hb hby at_46) k) ?_
  show Goes _ _ _ _ _ _ _ (T6.setTop (mkF m 48 _ [(.int (24 : Int32)), (.int p2), (.int (5 : Int32)), (.ref ar2)]))
  refine Goes.go (fun _ k => XS.iushr X6.here hx rfl (hb hby at_48) rfl k) ?_
  show Goes _ _ _ _ _ _ _ (T6.setTop (mkF m 49 _ [(.int ((p2).toUInt32 >>> ((24 : Int32) &&& 31).toUInt32).toInt32), (.int (5 : Int32)), (.ref ar2)]))
  refine Goes.go (fun _ k => XS.i2b X6.here hx rfl (hb hby at_49) rfl k) ?_
  show Goes _ _ _ _ _ _ _ (T6.setTop (mkF m 50 _ [(.int (((p2).toUInt32 >>> ((24 : Int32) &&& 31).toUInt32).toInt32).toInt8.toInt32), (.int (5 : Int32)), (.ref ar2)]))
  obtain ⟨T7, h7, X7, e7, W7, A7, st7⟩ := own_stB X6 hx hZ e6 f_5 (j := (5 : Int32)) (x := (((p2).toUInt32 >>> ((24 : Int32) &&& 31).toUInt32).toInt32).toInt8.toInt32) (by decide) (show (5 : Nat) < 16 by decide) (g := (mkF m 50 #[.val (.int p0), .val (.int p1), .val (.int p2), .val (.long p3), .second, .val (.ref ar2), .unset, .unset, .unset, .unset] [(.int (((p2).toUInt32 >>> ((24 : Int32) &&& 31).toUInt32).toInt32).toInt8.toInt32), (.int (5 : Int32)), (.ref ar2)])) rfl rfl (hb hby at_50)
  rw [own_nar8] at A7
  have N7 := Fr.snoc X7 N6 ge_ar2
  have Z7 : n0 ≤ h7.size := by rw [W7.size]; exact Z6
  have f_6 : Arl Z h7 ar2 .byte [(.int (p0).toInt8.toInt32), (.int (p1).toInt8.toInt32), (.int (p2).toInt8.toInt32), (.int (((p2).toUInt32 >>> ((8 : Int32) &&& 31).toUInt32).toInt32).toInt8.toInt32), (.int (((p2).toUInt32 >>> ((16 : Int32) &&& 31).toUInt32).toInt32).toInt8.toInt32), (.int (((p2).toUInt32 >>> ((24 : Int32) &&& 31).toUInt32).toInt32).toInt8.toInt32), (.int (0 : Int32)), (.int (0 : Int32)), (.int (0 : Int32)), (.int (0 : Int32)), (.int (0 : Int32)), (.int (0 : Int32)), (.int (0 : Int32)), (.int (0 : Int32)), (.int (0 : Int32)), (.int (0 : Int32))] := A7
  refine Goes.go (st7) ?_
  show Goes _ _ _ _ _ _ _ (T7.setTop (mkF m 51 _ []))
  refine Goes.go (fun _ k => XS.aload X7.here hx rfl (hb hby at_51) rfl rfl k) ?_
  show Goes _ _ _ _ _ _ _ (T7.setTop (mkF m 53 _ [(.ref ar2)]))
  refine Goes.go (fun _ k => XS.bipush X7.here hx rfl (hb hby at_53) k) ?_
  show Goes _ _ _ _ _ _ _ (T7.setTop (mkF m 55 _ [(.int (8 : Int32)), (.ref ar2)]))
  refine Goes.go (fun _ k => XS.lloadN X7.here hx rfl (hb hby at_55) rfl k) ?_
  show Goes _ _ _ _ _ _ _ (T7.setTop (mkF m 56 _ [(.long p3), (.int (8 : Int32)), (.ref ar2)]))
  refine Goes.go (fun _ k => XS.l2i X7.here hx rfl (hb hby at_56) rfl k) ?_
  show Goes _ _ _ _ _ _ _ (T7.setTop (mkF m 57 _ [(.int (p3).toInt32), (.int (8 : Int32)), (.ref ar2)]))
  refine Goes.go (fun _ k => XS.i2b X7.here hx rfl (hb hby at_57) rfl k) ?_
  show Goes _ _ _ _ _ _ _ (T7.setTop (mkF m 58 _ [(.int ((p3).toInt32).toInt8.toInt32), (.int (8 : Int32)), (.ref ar2)]))
  obtain ⟨T8, h8, X8, e8, W8, A8, st8⟩ := own_stB X7 hx hZ e7 f_6 (j := (8 : Int32)) (x := ((p3).toInt32).toInt8.toInt32) (by decide) (show (8 : Nat) < 16 by decide) (g := (mkF m 58 #[.val (.int p0), .val (.int p1), .val (.int p2), .val (.long p3), .second, .val (.ref ar2), .unset, .unset, .unset, .unset] [(.int ((p3).toInt32).toInt8.toInt32), (.int (8 : Int32)), (.ref ar2)])) rfl rfl (hb hby at_58)
  rw [own_nar8] at A8
  have N8 := Fr.snoc X8 N7 ge_ar2
  have Z8 : n0 ≤ h8.size := by rw [W8.size]; exact Z7
  have f_7 : Arl Z h8 ar2 .byte [(.int (p0).toInt8.toInt32), (.int (p1).toInt8.toInt32), (.int (p2).toInt8.toInt32), (.int (((p2).toUInt32 >>> ((8 : Int32) &&& 31).toUInt32).toInt32).toInt8.toInt32), (.int (((p2).toUInt32 >>> ((16 : Int32) &&& 31).toUInt32).toInt32).toInt8.toInt32), (.int (((p2).toUInt32 >>> ((24 : Int32) &&& 31).toUInt32).toInt32).toInt8.toInt32), (.int (0 : Int32)), (.int (0 : Int32)), (.int ((p3).toInt32).toInt8.toInt32), (.int (0 : Int32)), (.int (0 : Int32)), (.int (0 : Int32)), (.int (0 : Int32)), (.int (0 : Int32)), (.int (0 : Int32)), (.int (0 : Int32))] := A8
  refine Goes.go (st8) ?_
  show Goes _ _ _ _ _ _ _ (T8.setTop (mkF m 59 _ []))
  refine Goes.go (fun _ k => XS.aload X8.here hx rfl (hb hby at_59) rfl rfl k) ?_
  show Goes _ _ _ _ _ _ _ (T8.setTop (mkF m 61 _ [(.ref ar2)]))
  refine Goes.go (fun _ k => XS.bipush X8.here hx rfl (hb hby at_61) k) ?_
  show Goes _ _ _ _ _ _ _ (T8.setTop (mkF m 63 _ [(.int (10 : Int32)), (.ref ar2)]))
  refine Goes.go (fun _ k => XS.lloadN X8.here hx rfl (hb hby at_63) rfl k) ?_
  show Goes _ _ _ _ _ _ _ (T8.setTop (mkF m 64 _ [(.long p3), (.int (10 : Int32)), (.ref ar2)]))
  refine Goes.go (fun _ k => XS.bipush X8.here hx rfl (hb hby at_64) k) ?_
  show Goes _ _ _ _ _ _ _ (T8.setTop (mkF m 66 _ [(.int (16 : Int32)), (.long p3), (.int (10 : Int32)), (.ref ar2)]))
  refine Goes.go (fun _ k => XS.lushr X8.here hx rfl (hb hby at_66) rfl k) ?_
  show Goes _ _ _ _ _ _ _ (T8.setTop (mkF m 67 _ [(.long ((p3).toUInt64 >>> ((16 : Int32) &&& 0x3f).toInt64.toUInt64).toInt64), (.int (10 : Int32)), (.ref ar2)]))
  refine Goes.go (fun _ k => XS.l2i X8.here hx rfl (hb hby at_67) rfl k) ?_
  show Goes _ _ _ _ _ _ _ (T8.setTop (mkF m 68 _ [(.int (((p3).toUInt64 >>> ((16 : Int32) &&& 0x3f).toInt64.toUInt64).toInt64).toInt32), (.int (10 : Int32)), (.ref ar2)]))
  refine Goes.go (fun _ k => XS.i2b X8.here hx rfl (hb hby at_68) rfl k) ?_
  show Goes _ _ _ _ _ _ _ (T8.setTop (mkF m 69 _ [(.int ((((p3).toUInt64 >>> ((16 : Int32) &&& 0x3f).toInt64.toUInt64).toInt64).toInt32).toInt8.toInt32), (.int (10 : Int32)), (.ref ar2)]))
  obtain ⟨T9, h9, X9, e9, W9, A9, st9⟩ := own_stB X8 hx hZ e8 f_7 (j := (10 : Int32)) (x := ((((p3).toUInt64 >>> ((16 : Int32) &&& 0x3f).toInt64.toUInt64).toInt64).toInt32).toInt8.toInt32) (by decide) (show (10 : Nat) < 16 by decide) (g := (mkF m 69 #[.val (.int p0), .val (.int p1), .val (.int p2), .val (.long p3), .second, .val (.ref ar2), .unset, .unset, .unset, .unset] [(.int ((((p3).toUInt64 >>> ((16 : Int32) &&& 0x3f).toInt64.toUInt64).toInt64).toInt32).toInt8.toInt32), (.int (10 : Int32)), (.ref ar2)])) rfl rfl (hb hby at_69)
  rw [own_nar8] at A9
  have N9 := Fr.snoc X9 N8 ge_ar2
  have Z9 : n0 ≤ h9.size := by rw [W9.size]; exact Z8
  have f_8 : Arl Z h9 ar2 .byte [(.int (p0).toInt8.toInt32), (.int (p1).toInt8.toInt32), (.int (p2).toInt8.toInt32), (.int (((p2).toUInt32 >>> ((8 : Int32) &&& 31).toUInt32).toInt32).toInt8.toInt32), (.int (((p2).toUInt32 >>> ((16 : Int32) &&& 31).toUInt32).toInt32).toInt8.toInt32), (.int (((p2).toUInt32 >>> ((24 : Int32) &&& 31).toUInt32).toInt32).toInt8.toInt32), (.int (0 : Int32)), (.int (0 : Int32)), (.int ((p3).toInt32).toInt8.toInt32), (.int (0 : Int32)), (.int ((((p3).toUInt64 >>> ((16 : Int32) &&& 0x3f).toInt64.toUInt64).toInt64).toInt32).toInt8.toInt32), (.int (0 : Int32)), (.int (0 : Int32)), (.int (0 : Int32)), (.int (0 : Int32)), (.int (0 : Int32))] := A9
  refine Goes.go (st9) ?_
  show Goes _ _ _ _ _ _ _ (T9.setTop (mkF m 70 _ []))
  refine Goes.go (fun _ k => XS.aload X9.here hx rfl (hb hby at_70) rfl rfl k) ?_
  show Goes _ _ _ _ _ _ _ (T9.setTop (mkF m 72 _ [(.ref ar2)]))
  refine Goes.go (fun _ k => XS.bipush X9.here hx rfl (hb hby at_72) k) ?_
  show Goes _ _ _ _ _ _ _ (T9.setTop (mkF m 74 _ [(.int (12 : Int32)), (.ref ar2)]))
  refine Goes.go (fun _ k => XS.lloadN X9.here hx rfl (hb hby at_74) rfl k) ?_
  show Goes _ _ _ _ _ _ _ (T9.setTop (mkF m 75 _ [(.long p3), (.int (12 : Int32)), (.ref ar2)]))
  refine Goes.go (fun _ k => XS.bipush X9.here hx rfl (hb hby at_75) k) ?_
  show Goes _ _ _ _ _ _ _ (T9.setTop (mkF m 77 _ [(.int (32 : Int32)), (.long p3), (.int (12 : Int32)), (.ref ar2)]))
  refine Goes.go (fun _ k => XS.lushr X9.here hx rfl (hb hby at_77) rfl k) ?_
  show Goes _ _ _ _ _ _ _ (T9.setTop (mkF m 78 _ [(.long ((p3).toUInt64 >>> ((32 : Int32) &&& 0x3f).toInt64.toUInt64).toInt64), (.int (12 : Int32)), (.ref ar2)]))
  refine Goes.go (fun _ k => XS.l2i X9.here hx rfl (hb hby at_78) rfl k) ?_
  show Goes _ _ _ _ _ _ _ (T9.setTop (mkF m 79 _ [(.int (((p3).toUInt64 >>> ((32 : Int32) &&& 0x3f).toInt64.toUInt64).toInt64).toInt32), (.int (12 : Int32)), (.ref ar2)]))
  refine Goes.go (fun _ k => XS.i2b X9.here hx rfl (hb hby at_79) rfl k) ?_
  show Goes _ _ _ _ _ _ _ (T9.setTop (mkF m 80 _ [(.int ((((p3).toUInt64 >>> ((32 : Int32) &&& 0x3f).toInt64.toUInt64).toInt64).toInt32).toInt8.toInt32), (.int (12 : Int32)), (.ref ar2)]))
  obtain ⟨T10, h10, X10, e10, W10, A10, st10⟩ := own_stB X9 hx hZ e9 f_8 (j := (12 : Int32)) (x := ((((p3).toUInt64 >>> ((32 : Int32) &&& 0x3f).toInt64.toUInt64).toInt64).toInt32).toInt8.toInt32) (by decide) (show (12 : Nat) < 16 by decide) (g := (mkF m 80 #[.val (.int p0), .val (.int p1), .val (.int p2), .val (.long p3), .second, .val (.ref ar2), .unset, .unset, .unset, .unset] [(.int ((((p3).toUInt64 >>> ((32 : Int32) &&& 0x3f).toInt64.toUInt64).toInt64).toInt32).toInt8.toInt32), (.int (12 : Int32)), (.ref ar2)])) rfl rfl (hb hby at_80)
  rw [own_nar8] at A10
  have N10 := Fr.snoc X10 N9 ge_ar2
  have Z10 : n0 ≤ h10.size := by rw [W10.size]; exact Z9
  have f_9 : Arl Z h10 ar2 .byte [(.int (p0).toInt8.toInt32), (.int (p1).toInt8.toInt32), (.int (p2).toInt8.toInt32), (.int (((p2).toUInt32 >>> ((8 : Int32) &&& 31).toUInt32).toInt32).toInt8.toInt32), (.int (((p2).toUInt32 >>> ((16 : Int32) &&& 31).toUInt32).toInt32).toInt8.toInt32), (.int (((p2).toUInt32 >>> ((24 : Int32) &&& 31).toUInt32).toInt32).toInt8.toInt32), (.int (0 : Int32)), (.int (0 : Int32)), (.int ((p3).toInt32).toInt8.toInt32), (.int (0 : Int32)), (.int ((((p3).toUInt64 >>> ((16 : Int32) &&& 0x3f).toInt64.toUInt64).toInt64).toInt32).toInt8.toInt32), (.int (0 : Int32)), (.int ((((p3).toUInt64 >>> ((32 : Int32) &&& 0x3f).toInt64.toUInt64).toInt64).toInt32).toInt8.toInt32), (.int (0 : Int32)), (.int (0 : Int32)), (.int (0 : Int32))] := A10
  refine Goes.go (st10) ?_
  show Goes _ _ _ _ _ _ _ (T10.setTop (mkF m 81 _ []))
  refine Goes.go (fun _ k => XS.aload X10.here hx rfl (hb hby at_81) rfl rfl k) ?_
  show Goes _ _ _ _ _ _ _ (T10.setTop (mkF m 83 _ [(.ref ar2)]))
  refine Goes.go (fun _ k => XS.bipush X10.here hx rfl (hb hby at_83) k) ?_
  show Goes _ _ _ _ _ _ _ (T10.setTop (mkF m 85 _ [(.int (15 : Int32)), (.ref ar2)]))
  refine Goes.go (fun _ k => XS.lloadN X10.here hx rfl (hb hby at_85) rfl k) ?_
  show Goes _ _ _ _ _ _ _ (T10.setTop (mkF m 86 _ [(.long p3), (.int (15 : Int32)), (.ref ar2)]))
  refine Goes.go (fun _ k => XS.bipush X10.here hx rfl (hb hby at_86) k) ?_
  show Goes _ _ _ _ _ _ _ (T10.setTop (mkF m 88 _ [(.int (56 : Int32)), (.long p3), (.int (15 : Int32)), (.ref ar2)]))
  refine Goes.go (fun _ k => XS.lushr X10.here hx rfl (hb hby at_88) rfl k) ?_
  show Goes _ _ _ _ _ _ _ (T10.setTop (mkF m 89 _ [(.long ((p3).toUInt64 >>> ((56 : Int32) &&& 0x3f).toInt64.toUInt64).toInt64), (.int (15 : Int32)), (.ref ar2)]))
  refine Goes.go (fun _ k => XS.l2i X10.here hx rfl (hb hby at_89) rfl k) ?_
  show Goes _ _ _ _ _ _ _ (T10.setTop (mkF m 90 _ [(.int (((p3).toUInt64 >>> ((56 : Int32) &&& 0x3f).toInt64.toUInt64).toInt64).toInt32), (.int (15 : Int32)), (.ref ar2)]))
  refine Goes.go (fun _ k => XS.i2b X10.here hx rfl (hb hby at_90) rfl k) ?_
  show Goes _ _ _ _ _ _ _ (T10.setTop (mkF m 91 _ [(.int ((((p3).toUInt64 >>> ((56 : Int32) &&& 0x3f).toInt64.toUInt64).toInt64).toInt32).toInt8.toInt32), (.int (15 : Int32)), (.ref ar2)]))
  obtain ⟨T11, h11, X11, e11, W11, A11, st11⟩ := own_stB X10 hx hZ e10 f_9 (j := (15 : Int32)) (x := ((((p3).toUInt64 >>> ((56 : Int32) &&& 0x3f).toInt64.toUInt64).toInt64).toInt32).toInt8.toInt32) (by decide) (show (15 : Nat) < 16 by decide) (g := (mkF m 91 #[.val (.int p0), .val (.int p1), .val (.int p2), .val (.long p3), .second, .val (.ref ar2), .unset, .unset, .unset, .unset] [(.int ((((p3).toUInt64 >>> ((56 : Int32) &&& 0x3f).toInt64.toUInt64).toInt64).toInt32).toInt8.toInt32), (.int (15 : Int32)), (.ref ar2)])) rfl rfl (hb hby at_91)
  rw [own_nar8] at A11
  have N11 := Fr.snoc X11 N10 ge_ar2
  have Z11 : n0 ≤ h11.size := by rw [W11.size]; exact Z10
  have f_10 : Arl Z h11 ar2 .byte [(.int (p0).toInt8.toInt32), (.int (p1).toInt8.toInt32), (.int (p2).toInt8.toInt32), (.int (((p2).toUInt32 >>> ((8 : Int32) &&& 31).toUInt32).toInt32).toInt8.toInt32), (.int (((p2).toUInt32 >>> ((16 : Int32) &&& 31).toUInt32).toInt32).toInt8.toInt32), (.int (((p2).toUInt32 >>> ((24 : Int32) &&& 31).toUInt32).toInt32).toInt8.toInt32), (.int (0 : Int32)), (.int (0 : Int32)), (.int ((p3).toInt32).toInt8.toInt32), (.int (0 : Int32)), (.int ((((p3).toUInt64 >>> ((16 : Int32) &&& 0x3f).toInt64.toUInt64).toInt64).toInt32).toInt8.toInt32), (.int (0 : Int32)), (.int ((((p3).toUInt64 >>> ((32 : Int32) &&& 0x3f).toInt64.toUInt64).toInt64).toInt32).toInt8.toInt32), (.int (0 : Int32)), (.int (0 : Int32)), (.int ((((p3).toUInt64 >>> ((56 : Int32) &&& 0x3f).toInt64.toUInt64).toInt64).toInt32).toInt8.toInt32)] := A11
  refine Goes.go (st11) ?_
  show Goes _ _ _ _ _ _ _ (T11.setTop (mkF m 92 _ []))
  obtain ⟨T12, h12, X12, e12, E12, A12, D12, -, st12⟩ := newO X11 hx hZ hown (hw _ (List.mem_of_getElem? (i := 1) rfl)) (hw _ (List.mem_of_getElem? (i := 2) rfl)) (hw _ (List.mem_of_getElem? (i := 3) rfl)) e11 (g := (mkF m 92 #[.val (.int p0), .val (.int p1), .val (.int p2), .val (.long p3), .second, .val (.ref ar2), .unset, .unset, .unset, .unset] [])) rfl (hb hby at_92) (by decide) (by decide)
  obtain ⟨ob92, gob92⟩ : ∃ z, z = h11.size := ⟨_, rfl⟩
  rw [← gob92] at A12 D12 st12
  have ne_ar2_ob92 : ar2 ≠ ob92 := by rw [gob92]; exact Nat.ne_of_lt f_10.lt
  have f_11 := f_10.ext E12
  have Z12 : n0 ≤ h12.size := Nat.le_trans Z11 E12.1
  have ge_ob92 : n0 ≤ ob92 := Nat.le_trans Z11 (Nat.le_of_eq gob92.symm)
  have f_12 : Fld Z h12 ob92 "com/example/rigid_keyblock/rigidkeyblock/StorageAccessCondition" "bytes" "[B" .null := D12 (Or.inr (hw _ (List.mem_of_getElem? (i := 11) rfl))) (ty := (.array .byte)) (by decide)
  refine Goes.go (st12) ?_
  show Goes _ _ _ _ _ _ _ (T12.setTop (mkF m 95 _ [(.ref ob92)]))
  refine Goes.go (fun _ k => XS.dup X12.here hx rfl (hb hby at_95) rfl rfl k) ?_
  show Goes _ _ _ _ _ _ _ (T12.setTop (mkF m 96 _ [(.ref ob92), (.ref ob92)]))
  refine Goes.go (fun _ k => XS.aload X12.here hx rfl (hb hby at_96) rfl rfl k) ?_
  show Goes _ _ _ _ _ _ _ (T12.setTop (mkF m 98 _ [(.ref ar2), (.ref ob92), (.ref ob92)]))
  obtain ⟨_, _, ⟨T13, L13, k13, n13⟩, -, X13, ⟨Lc13, hQ13, l13, y13, z13⟩, st13⟩ := X12.specialBack hx (y := (⟨"com/example/rigid_keyblock/rigidkeyblock/StorageAccessCondition", "<init>", "([B)V"⟩ : MethodName)) rfl hown (mvT hZ (hw _ (List.mem_of_getElem? (i := 4) rfl))) (mvT hZ (hw _ (List.mem_of_getElem? (i := 5) rfl))) (mvT hZ (hw _ (List.mem_of_getElem? (i := 6) rfl))) (by decide) (backOf (W := 1) (rm1 l Z a0 hw [] ob92 ar2 h12 n0 Z12 A12 f_12 ge_ob92) hZ (hw _ (List.mem_of_getElem? (i := 6) rfl)) (hw _ (List.mem_of_getElem? (i := 3) rfl)) (by decide) (by decide)) (g := (mkF m 98 #[.val (.int p0), .val (.int p1), .val (.int p2), .val (.long p3), .second, .val (.ref ar2), .unset, .unset, .unset, .unset] [(.ref ar2), (.ref ob92), (.ref ob92)])) rfl (by rw [hml]; rfl) (Steps.refl _) (a := ob92) (argsL := [(.ref ar2)]) (rest := [(.ref ob92)]) (lenOf pd0 rfl) rfl (by show 2 * 0 + _ ≤ _; exact Nat.le_of_eq rfl) (hb hby at_98) (fun _ _ => ⟨rfl, e12, (by decide : 2 + 0 ≤ _), (by decide : 17 + 0 ≤ _)⟩)
  dsimp only [Pt.U, Pt.locs, Pt.cells, Pt.slots] at X13 l13 y13 z13 st13 hQ13
  subst l13 y13 z13
  obtain ⟨rfl, Nq13, Kq13, Eq13, Fq13_0⟩ := hQ13
  have N13 := Fr.app N11 Nq13
  have Z13 : n0 ≤ T13.heap.size := Nat.le_trans Z12 Kq13.1
  have f_13 := Arl.keep f_11 Kq13 (ninS ne_ar2_ob92 nin0)
  refine Goes.go (fun _ k => st13.trans k) ?_
  show Goes _ _ _ _ _ _ _ (T13.setTop (mkF m 101 _ [(.ref ob92)]))
  refine Goes.go (fun _ k => XS.astore X13.here hx rfl (hb hby at_101) rfl rfl (l' := #[.val (.int p0), .val (.int p1), .val (.int p2), .val (.long p3), .second, .val (.ref ar2), .val (.ref ob92), .unset, .unset, .unset]) rfl k) ?_
  show Goes _ _ _ _ _ _ _ (T13.setTop (mkF m 103 #[.val (.int p0), .val (.int p1), .val (.int p2), .val (.long p3), .second, .val (.ref ar2), .val (.ref ob92), .unset, .unset, .unset] []))
  refine Goes.go (fun _ k => XS.iloadN X13.here hx rfl (hb hby at_103) rfl k) ?_
  show Goes _ _ _ _ _ _ _ (T13.setTop (mkF m 104 _ [(.int p1)]))
  refine Goes.go (fun _ k => XS.i2b X13.here hx rfl (hb hby at_104) rfl k) ?_
  show Goes _ _ _ _ _ _ _ (T13.setTop (mkF m 105 _ [(.int (p1).toInt8.toInt32)]))
  by_cases c105 : (p1).toInt8.toInt32 < 0
  · skip
    refine Goes.go (fun _ k => XS.ifNo X13.here hx rfl (hb hby at_105) rfl (XT.i0_ge_f c105) k) ?_
    show Goes _ _ _ _ _ _ _ (T13.setTop (mkF m 108 _ []))
    refine Goes.go (fun _ k => XS.iconst X13.here hx rfl (hb hby at_108) k) ?_
    show Goes _ _ _ _ _ _ _ (T13.setTop (mkF m 109 _ [(.int (1 : Int32))]))
    refine Goes.go (fun _ k => XS.goto X13.here hx rfl (pc0 := 109) (pc' := 113) rfl (hb hby at_109) (by decide) (by decide) k) ?_
    show Goes _ _ _ _ _ _ _ (T13.setTop (mkF m 113 _ [(.int (1 : Int32))]))
    refine Goes.go (fun _ k => XS.istore X13.here hx rfl (hb hby at_113) rfl (l' := #[.val (.int p0), .val (.int p1), .val (.int p2), .val (.long p3), .second, .val (.ref ar2), .val (.ref ob92), .val (.int (1 : Int32)), .unset, .unset]) rfl k) ?_
    show Goes _ _ _ _ _ _ _ (T13.setTop (mkF m 115 #[.val (.int p0), .val (.int p1), .val (.int p2), .val (.long p3), .second, .val (.ref ar2), .val (.ref ob92), .val (.int (1 : Int32)), .unset, .unset] []))
    refine Goes.go (fun _ k => XS.aload X13.here hx rfl (hb hby at_115) rfl rfl k) ?_
    show Goes _ _ _ _ _ _ _ (T13.setTop (mkF m 117 _ [(.ref ob92)]))
    obtain ⟨cq14, kq14, qa14, qb14, qc14⟩ := isOf hZ rfl Eq13
    obtain ⟨_, _, ⟨T14, L14, k14, n14⟩, -, X14, ⟨Lc14, hQ14, l14, y14, z14⟩, st14⟩ := X13.virtualBack hx (y := (⟨"com/example/rigid_keyblock/rigidkeyblock/StorageAccessCondition", "moveUtProhibited", "()Z"⟩ : MethodName)) (z := (⟨"com/example/rigid_keyblock/rigidkeyblock/StorageAccessCondition", "moveUtProhibited", "()Z"⟩ : MethodName)) hown (mvT hZ (hw _ (List.mem_of_getElem? (i := 12) rfl))) (mvT hZ (hw _ (List.mem_of_getElem? (i := 13) rfl))) (notFace_of_selects (args := #[]) (mvT hZ (hw _ (List.mem_of_getElem? (i := 15) rfl)))) (mvT hZ (hw _ (List.mem_of_getElem? (i := 15) rfl))) (mvT hZ (hw _ (List.mem_of_getElem? (i := 14) rfl))) (by decide) (backOf (W := 0) (rm2 l Z a0 hw [] ob92 ar2 _ (p1).toInt8.toInt32 T13.heap n0 Z13 Fq13_0 f_13 rfl) hZ (hw _ (List.mem_of_getElem? (i := 16) rfl)) (hw _ (List.mem_of_getElem? (i := 3) rfl)) (by decide) (by decide)) qa14 qc14 (g := (mkF m 117 #[.val (.int p0), .val (.int p1), .val (.int p2), .val (.long p3), .second, .val (.ref ar2), .val (.ref ob92), .val (.int (1 : Int32)), .unset, .unset] [(.ref ob92)])) rfl (by rw [hml]; rfl) (Steps.refl _) (argsL := []) (rest := []) (lenOf pd2 rfl) rfl (by show 2 * 0 + _ ≤ _; exact Nat.le_of_eq rfl) (hb hby at_117) (fun _ _ => ⟨rfl, rfl, (by decide : 2 + 0 ≤ _), (by decide : 17 + 0 ≤ _)⟩)
    dsimp only [Pt.U, Pt.locs, Pt.cells, Pt.slots] at X14 l14 y14 z14 st14 hQ14
    subst l14 y14 z14
    obtain ⟨rfl, Nq14, hh14⟩ := hQ14
    have N14 := Fr.app N13 Nq14
    refine Goes.go (fun _ k => st14.trans k) ?_
    show Goes _ _ _ _ _ _ _ (T14.setTop (mkF m 120 _ [(.int (muF (p1).toInt8.toInt32))]))
    refine Goes.go (fun _ k => XS.istore X14.here hx rfl (hb hby at_120) rfl (l' := #[.val (.int p0), .val (.int p1), .val (.int p2), .val (.long p3), .second, .val (.ref ar2), .val (.ref ob92), .val (.int (1 : Int32)), .val (.int (muF (p1).toInt8.toInt32)), .unset]) rfl k) ?_
    show Goes _ _ _ _ _ _ _ (T14.setTop (mkF m 122 #[.val (.int p0), .val (.int p1), .val (.int p2), .val (.long p3), .second, .val (.ref ar2), .val (.ref ob92), .val (.int (1 : Int32)), .val (.int (muF (p1).toInt8.toInt32)), .unset] []))
    refine Goes.go (fun _ k => XS.aload X14.here hx rfl (hb hby at_122) rfl rfl k) ?_
    show Goes _ _ _ _ _ _ _ (T14.setTop (mkF m 124 _ [(.ref ob92)]))
    obtain ⟨cq15, kq15, qa15, qb15, qc15⟩ := isOf hZ hh14 Eq13
    obtain ⟨_, _, ⟨T15, L15, k15, n15⟩, -, X15, ⟨Lc15, hQ15, l15, y15, z15⟩, st15⟩ := X14.virtualBack hx (y := (⟨"com/example/rigid_keyblock/rigidkeyblock/StorageAccessCondition", "moveUtProhibited", "()Z"⟩ : MethodName)) (z := (⟨"com/example/rigid_keyblock/rigidkeyblock/StorageAccessCondition", "moveUtProhibited", "()Z"⟩ : MethodName)) hown (mvT hZ (hw _ (List.mem_of_getElem? (i := 12) rfl))) (mvT hZ (hw _ (List.mem_of_getElem? (i := 13) rfl))) (notFace_of_selects (args := #[]) (mvT hZ (hw _ (List.mem_of_getElem? (i := 15) rfl)))) (mvT hZ (hw _ (List.mem_of_getElem? (i := 15) rfl))) (mvT hZ (hw _ (List.mem_of_getElem? (i := 14) rfl))) (by decide) (backOf (W := 0) (rm2 l Z a0 hw [] ob92 ar2 _ (p1).toInt8.toInt32 T13.heap n0 Z13 Fq13_0 f_13 rfl) hZ (hw _ (List.mem_of_getElem? (i := 16) rfl)) (hw _ (List.mem_of_getElem? (i := 3) rfl)) (by decide) (by decide)) qa15 qc15 (g := (mkF m 124 #[.val (.int p0), .val (.int p1), .val (.int p2), .val (.long p3), .second, .val (.ref ar2), .val (.ref ob92), .val (.int (1 : Int32)), .val (.int (muF (p1).toInt8.toInt32)), .unset] [(.ref ob92)])) rfl (by rw [hml]; rfl) (Steps.refl _) (argsL := []) (rest := []) (lenOf pd2 rfl) rfl (by show 2 * 0 + _ ≤ _; exact Nat.le_of_eq rfl) (hb hby at_124) (fun _ _ => ⟨rfl, hh14, (by decide : 2 + 0 ≤ _), (by decide : 17 + 0 ≤ _)⟩)
    dsimp only [Pt.U, Pt.locs, Pt.cells, Pt.slots] at X15 l15 y15 z15 st15 hQ15
    subst l15 y15 z15
    obtain ⟨rfl, Nq15, hh15⟩ := hQ15
    have N15 := Fr.app N14 Nq15
    refine Goes.go (fun _ k => st15.trans k) ?_
    show Goes _ _ _ _ _ _ _ (T15.setTop (mkF m 127 _ [(.int (muF (p1).toInt8.toInt32))]))
    refine Goes.go (fun _ k => XS.istore X15.here hx rfl (hb hby at_127) rfl (l' := #[.val (.int p0), .val (.int p1), .val (.int p2), .val (.long p3), .second, .val (.ref ar2), .val (.ref ob92), .val (.int (1 : Int32)), .val (.int (muF (p1).toInt8.toInt32)), .val (.int (muF (p1).toInt8.toInt32))]) rfl k) ?_
    show Goes _ _ _ _ _ _ _ (T15.setTop (mkF m 129 #[.val (.int p0), .val (.int p1), .val (.int p2), .val (.long p3), .second, .val (.ref ar2), .val (.ref ob92), .val (.int (1 : Int32)), .val (.int (muF (p1).toInt8.toInt32)), .val (.int (muF (p1).toInt8.toInt32))] []))
    refine Goes.go (fun _ k => XS.iload X15.here hx rfl (hb hby at_129) rfl k) ?_
    show Goes _ _ _ _ _ _ _ (T15.setTop (mkF m 131 _ [(.int (muF (p1).toInt8.toInt32))]))
    refine Goes.go (fun _ k => XS.iload X15.here hx rfl (hb hby at_131) rfl k) ?_
    show Goes _ _ _ _ _ _ _ (T15.setTop (mkF m 133 _ [(.int (1 : Int32)), (.int (muF (p1).toInt8.toInt32))]))
    refine Goes.go (fun _ k => XS.icmpNo X15.here hx rfl (hb hby at_133) rfl (XT.ii_ne_f (muF_neg c105)) k) ?_
    show Goes _ _ _ _ _ _ _ (T15.setTop (mkF m 136 _ []))
    refine Goes.go (fun _ k => XS.iload X15.here hx rfl (hb hby at_136) rfl k) ?_
    show Goes _ _ _ _ _ _ _ (T15.setTop (mkF m 138 _ [(.int (muF (p1).toInt8.toInt32))]))
    refine Goes.go (fun _ k => XS.iload X15.here hx rfl (hb hby at_138) rfl k) ?_
    show Goes _ _ _ _ _ _ _ (T15.setTop (mkF m 140 _ [(.int (1 : Int32)), (.int (muF (p1).toInt8.toInt32))]))
    refine Goes.go (fun _ k => XS.icmpNo X15.here hx rfl (hb hby at_140) rfl (XT.ii_ne_f (muF_neg c105)) k) ?_
    show Goes _ _ _ _ _ _ _ (T15.setTop (mkF m 143 _ []))
    refine Goes.go (fun _ k => XS.iconst X15.here hx rfl (hb hby at_143) k) ?_
    show Goes _ _ _ _ _ _ _ (T15.setTop (mkF m 144 _ [(.int (1 : Int32))]))
    refine Goes.go (fun _ k => XS.goto X15.here hx rfl (pc0 := 144) (pc' := 148) rfl (hb hby at_144) (by decide) (by decide) k) ?_
    show Goes _ _ _ _ _ _ _ (T15.setTop (mkF m 148 _ [(.int (1 : Int32))]))
    exact Goes.outZ X15 hx hlk hret rfl (hb hby at_148) hh15 ⟨rfl, N15⟩ (by decide) (by decide)
  · skip
    refine Goes.go (fun _ k => XS.ifYes X13.here hx rfl (pc0 := 105) (pc' := 112) rfl (hb hby at_105) rfl (XT.i0_ge_t c105) (by decide) (by decide) k) ?_
    show Goes _ _ _ _ _ _ _ (T13.setTop (mkF m 112 _ []))
    refine Goes.go (fun _ k => XS.iconst X13.here hx rfl (hb hby at_112) k) ?_
    show Goes _ _ _ _ _ _ _ (T13.setTop (mkF m 113 _ [(.int (0 : Int32))]))
    refine Goes.go (fun _ k => XS.istore X13.here hx rfl (hb hby at_113) rfl (l' := #[.val (.int p0), .val (.int p1), .val (.int p2), .val (.long p3), .second, .val (.ref ar2), .val (.ref ob92), .val (.int (0 : Int32)), .unset, .unset]) rfl k) ?_
    show Goes _ _ _ _ _ _ _ (T13.setTop (mkF m 115 #[.val (.int p0), .val (.int p1), .val (.int p2), .val (.long p3), .second, .val (.ref ar2), .val (.ref ob92), .val (.int (0 : Int32)), .unset, .unset] []))
    refine Goes.go (fun _ k => XS.aload X13.here hx rfl (hb hby at_115) rfl rfl k) ?_
    show Goes _ _ _ _ _ _ _ (T13.setTop (mkF m 117 _ [(.ref ob92)]))
    obtain ⟨cq14, kq14, qa14, qb14, qc14⟩ := isOf hZ rfl Eq13
    obtain ⟨_, _, ⟨T14, L14, k14, n14⟩, -, X14, ⟨Lc14, hQ14, l14, y14, z14⟩, st14⟩ := X13.virtualBack hx (y := (⟨"com/example/rigid_keyblock/rigidkeyblock/StorageAccessCondition", "moveUtProhibited", "()Z"⟩ : MethodName)) (z := (⟨"com/example/rigid_keyblock/rigidkeyblock/StorageAccessCondition", "moveUtProhibited", "()Z"⟩ : MethodName)) hown (mvT hZ (hw _ (List.mem_of_getElem? (i := 12) rfl))) (mvT hZ (hw _ (List.mem_of_getElem? (i := 13) rfl))) (notFace_of_selects (args := #[]) (mvT hZ (hw _ (List.mem_of_getElem? (i := 15) rfl)))) (mvT hZ (hw _ (List.mem_of_getElem? (i := 15) rfl))) (mvT hZ (hw _ (List.mem_of_getElem? (i := 14) rfl))) (by decide) (backOf (W := 0) (rm2 l Z a0 hw [] ob92 ar2 _ (p1).toInt8.toInt32 T13.heap n0 Z13 Fq13_0 f_13 rfl) hZ (hw _ (List.mem_of_getElem? (i := 16) rfl)) (hw _ (List.mem_of_getElem? (i := 3) rfl)) (by decide) (by decide)) qa14 qc14 (g := (mkF m 117 #[.val (.int p0), .val (.int p1), .val (.int p2), .val (.long p3), .second, .val (.ref ar2), .val (.ref ob92), .val (.int (0 : Int32)), .unset, .unset] [(.ref ob92)])) rfl (by rw [hml]; rfl) (Steps.refl _) (argsL := []) (rest := []) (lenOf pd2 rfl) rfl (by show 2 * 0 + _ ≤ _; exact Nat.le_of_eq rfl) (hb hby at_117) (fun _ _ => ⟨rfl, rfl, (by decide : 2 + 0 ≤ _), (by decide : 17 + 0 ≤ _)⟩)
    dsimp only [Pt.U, Pt.locs, Pt.cells, Pt.slots] at X14 l14 y14 z14 st14 hQ14
    subst l14 y14 z14
    obtain ⟨rfl, Nq14, hh14⟩ := hQ14
    have N14 := Fr.app N13 Nq14
    refine Goes.go (fun _ k => st14.trans k) ?_
    show Goes _ _ _ _ _ _ _ (T14.setTop (mkF m 120 _ [(.int (muF (p1).toInt8.toInt32))]))
    refine Goes.go (fun _ k => XS.istore X14.here hx rfl (hb hby at_120) rfl (l' := #[.val (.int p0), .val (.int p1), .val (.int p2), .val (.long p3), .second, .val (.ref ar2), .val (.ref ob92), .val (.int (0 : Int32)), .val (.int (muF (p1).toInt8.toInt32)), .unset]) rfl k) ?_
    show Goes _ _ _ _ _ _ _ (T14.setTop (mkF m 122 #[.val (.int p0), .val (.int p1), .val (.int p2), .val (.long p3), .second, .val (.ref ar2), .val (.ref ob92), .val (.int (0 : Int32)), .val (.int (muF (p1).toInt8.toInt32)), .unset] []))
    refine Goes.go (fun _ k => XS.aload X14.here hx rfl (hb hby at_122) rfl rfl k) ?_
    show Goes _ _ _ _ _ _ _ (T14.setTop (mkF m 124 _ [(.ref ob92)]))
    obtain ⟨cq15, kq15, qa15, qb15, qc15⟩ := isOf hZ hh14 Eq13
    obtain ⟨_, _, ⟨T15, L15, k15, n15⟩, -, X15, ⟨Lc15, hQ15, l15, y15, z15⟩, st15⟩ := X14.virtualBack hx (y := (⟨"com/example/rigid_keyblock/rigidkeyblock/StorageAccessCondition", "moveUtProhibited", "()Z"⟩ : MethodName)) (z := (⟨"com/example/rigid_keyblock/rigidkeyblock/StorageAccessCondition", "moveUtProhibited", "()Z"⟩ : MethodName)) hown (mvT hZ (hw _ (List.mem_of_getElem? (i := 12) rfl))) (mvT hZ (hw _ (List.mem_of_getElem? (i := 13) rfl))) (notFace_of_selects (args := #[]) (mvT hZ (hw _ (List.mem_of_getElem? (i := 15) rfl)))) (mvT hZ (hw _ (List.mem_of_getElem? (i := 15) rfl))) (mvT hZ (hw _ (List.mem_of_getElem? (i := 14) rfl))) (by decide) (backOf (W := 0) (rm2 l Z a0 hw [] ob92 ar2 _ (p1).toInt8.toInt32 T13.heap n0 Z13 Fq13_0 f_13 rfl) hZ (hw _ (List.mem_of_getElem? (i := 16) rfl)) (hw _ (List.mem_of_getElem? (i := 3) rfl)) (by decide) (by decide)) qa15 qc15 (g := (mkF m 124 #[.val (.int p0), .val (.int p1), .val (.int p2), .val (.long p3), .second, .val (.ref ar2), .val (.ref ob92), .val (.int (0 : Int32)), .val (.int (muF (p1).toInt8.toInt32)), .unset] [(.ref ob92)])) rfl (by rw [hml]; rfl) (Steps.refl _) (argsL := []) (rest := []) (lenOf pd2 rfl) rfl (by show 2 * 0 + _ ≤ _; exact Nat.le_of_eq rfl) (hb hby at_124) (fun _ _ => ⟨rfl, hh14, (by decide : 2 + 0 ≤ _), (by decide : 17 + 0 ≤ _)⟩)
    dsimp only [Pt.U, Pt.locs, Pt.cells, Pt.slots] at X15 l15 y15 z15 st15 hQ15
    subst l15 y15 z15
    obtain ⟨rfl, Nq15, hh15⟩ := hQ15
    have N15 := Fr.app N14 Nq15
    refine Goes.go (fun _ k => st15.trans k) ?_
    show Goes _ _ _ _ _ _ _ (T15.setTop (mkF m 127 _ [(.int (muF (p1).toInt8.toInt32))]))
    refine Goes.go (fun _ k => XS.istore X15.here hx rfl (hb hby at_127) rfl (l' := #[.val (.int p0), .val (.int p1), .val (.int p2), .val (.long p3), .second, .val (.ref ar2), .val (.ref ob92), .val (.int (0 : Int32)), .val (.int (muF (p1).toInt8.toInt32)), .val (.int (muF (p1).toInt8.toInt32))]) rfl k) ?_
    show Goes _ _ _ _ _ _ _ (T15.setTop (mkF m 129 #[.val (.int p0), .val (.int p1), .val (.int p2), .val (.long p3), .second, .val (.ref ar2), .val (.ref ob92), .val (.int (0 : Int32)), .val (.int (muF (p1).toInt8.toInt32)), .val (.int (muF (p1).toInt8.toInt32))] []))
    refine Goes.go (fun _ k => XS.iload X15.here hx rfl (hb hby at_129) rfl k) ?_
    show Goes _ _ _ _ _ _ _ (T15.setTop (mkF m 131 _ [(.int (muF (p1).toInt8.toInt32))]))
    refine Goes.go (fun _ k => XS.iload X15.here hx rfl (hb hby at_131) rfl k) ?_
    show Goes _ _ _ _ _ _ _ (T15.setTop (mkF m 133 _ [(.int (0 : Int32)), (.int (muF (p1).toInt8.toInt32))]))
    refine Goes.go (fun _ k => XS.icmpNo X15.here hx rfl (hb hby at_133) rfl (XT.ii_ne_f (muF_pos c105)) k) ?_
    show Goes _ _ _ _ _ _ _ (T15.setTop (mkF m 136 _ []))
    refine Goes.go (fun _ k => XS.iload X15.here hx rfl (hb hby at_136) rfl k) ?_
    show Goes _ _ _ _ _ _ _ (T15.setTop (mkF m 138 _ [(.int (muF (p1).toInt8.toInt32))]))
    refine Goes.go (fun _ k => XS.iload X15.here hx rfl (hb hby at_138) rfl k) ?_
    show Goes _ _ _ _ _ _ _ (T15.setTop (mkF m 140 _ [(.int (0 : Int32)), (.int (muF (p1).toInt8.toInt32))]))
    refine Goes.go (fun _ k => XS.icmpNo X15.here hx rfl (hb hby at_140) rfl (XT.ii_ne_f (muF_pos c105)) k) ?_
    show Goes _ _ _ _ _ _ _ (T15.setTop (mkF m 143 _ []))
    refine Goes.go (fun _ k => XS.iconst X15.here hx rfl (hb hby at_143) k) ?_
    show Goes _ _ _ _ _ _ _ (T15.setTop (mkF m 144 _ [(.int (1 : Int32))]))
    refine Goes.go (fun _ k => XS.goto X15.here hx rfl (pc0 := 144) (pc' := 148) rfl (hb hby at_144) (by decide) (by decide) k) ?_
    show Goes _ _ _ _ _ _ _ (T15.setTop (mkF m 148 _ [(.int (1 : Int32))]))
    exact Goes.outZ X15 hx hlk hret rfl (hb hby at_148) hh15 ⟨rfl, N15⟩ (by decide) (by decide)
set_option maxRecDepth 65536 in
set_option maxHeartbeats 40000000 in
theorem comes_1 {Post : Tables → Env → Array Value → State → Outcome → State → Prop} (hpost : ∀ tb e args s v u, (limb_1_1.after args s (.returned v) u = true ∧ limb_1_2.after args s (.returned v) u = true ∧ True) → FrameEnd s (.returned v) u (Jvm.fieldLocs frame_1_writes args s ++ Jvm.arrayLocs frame_1_arrays args s ++ Jvm.staticLocs frame_1_statics s) 16 128 → Post tb e args s (.returned v) u) :
    ArmFor flags0 classFile x code maxLocals ret World_1 tables_1 room_1 Calls_1 rest_1 Pre_1 Post := by
  intro l hfl _ _ p e ha hc hk s m args below hf hA hF happ hP
  obtain ⟨hcalls, hrest, hpre⟩ := hP
  obtain ⟨-, -, -, hnamed, -, -, -, hat⟩ := (Spec.applies_iff hf).mp happ
  obtain ⟨hg, hn⟩ := and_e (Cond.before_iff.mp (show (Jvm.Cond.and given_1 narrow_1).before args s = true from hpre))
  obtain ⟨gc, gr0⟩ := and_e hg
  obtain ⟨g0, gr1⟩ := and_e gr0
  obtain ⟨g1, gr2⟩ := and_e gr1
  obtain ⟨g2, gr3⟩ := and_e gr2
  obtain ⟨w0, w1, w2, w3, rfl⟩ : ∃ w0 w1 w2 w3 : Value, args = #[w0, w1, w2, w3] := by
    have hs : args.size = 4 := by simpa [Cond.value, given_1] using gc
    obtain ⟨L⟩ := args
    match L, hs with
    | [w0, w1, w2, w3], _ => exact ⟨w0, w1, w2, w3, rfl⟩
  have hw := fun d (hd : d ∈ tables_1) => atoms_spec (ws := Jvm.Cond.code x code maxLocals ret :: tables_1) hat d (List.mem_cons_of_mem _ hd)
  obtain ⟨i0, ei0⟩ := is_v g0
  obtain rfl : w0 = (.int i0) := Option.some.inj ei0
  obtain ⟨i1, ei1⟩ := is_v g1
  obtain rfl : w1 = (.int i1) := Option.some.inj ei1
  obtain ⟨i2, ei2⟩ := is_v g2
  obtain rfl : w2 = (.int i2) := Option.some.inj ei2
  obtain ⟨i3, ei3⟩ := isL_v gr3
  obtain rfl : w3 = (.long i3) := Option.some.inj ei3
  obtain ⟨n, o, h1, h2, h3, _, L, rfl, ⟨rfl, N⟩, hq⟩ := rm0 l s _ hw tables_1 i0 i1 i2 i3 s.heap s.heap.size (Nat.le_refl _)  p e ha hc hk s m _ below hf ((Spec.applies_iff_loose hf).mp happ).1 ⟨rfl, State.Warmed39.refl s, rfl⟩ trivial
  refine ⟨n, _, h1, h2, h3, hpost _ _ _ _ _ _ ⟨Cond.after_iff.mpr rfl, Cond.after_iff.mpr (eq_i res_at (Term.int_eval (1)) rfl), trivial⟩ ⟨hq.1, hq.2.1, (hq.2.2.sift fun y hy => Or.inr (N y hy)).mono (by decide) (by decide)⟩⟩
theorem main_1_1 : Claimed_1_1 := comes_1 fun _ _ _ _ _ _ h hF => ⟨h.1, hF⟩
theorem main_1_2 : Claimed_1_2 := comes_1 fun _ _ _ _ _ _ h hF => ⟨h.2.1, hF⟩
end Jvm.Pilot.@@N@@
namespace Jvm.Pilot.@@N@@
open Jvm Jvm.ClassFile Sem Op Lib Jvm.Free Jvm.Stand Jvm.Pilot.@@N@@.Jvm.D
/-! MADE BY PROGRAM (witnessworld.py) out of the Statement's table words and the real class files: 9 classes; the members and pool entries that the words name. The judged class is class 1, her method 1. -/
namespace start1
open Jvm.ClassFile
def u (s : String) : CpInfo := .utf8 (stringToUtf16 s)
/-- a pool by its gaps: so many unusable entries, then the entry; so many at the end -/
def gap : Nat → List CpInfo → List CpInfo
  | 0, r => r
  | n + 1, r => .unusable :: gap n r
def poolList (es : List (Nat × CpInfo)) (last : Nat) : List CpInfo := es.foldr (fun e r => gap e.1 (e.2 :: r)) (gap last [])
def pool (es : List (Nat × CpInfo)) (last : Nat) : Array CpInfo := ⟨poolList es last⟩
def fileOf (pool : Array CpInfo) (this : Nat) (attrs : Array Attribute := #[]) (ms : Array MethodInfo := #[]) (fl : Nat := 33) (sup : Nat := 0) (ifs : Array Nat := #[]) (fds : Array FieldInfo := #[]) : ClassFile where
  minorVersion := 0
  majorVersion := 65
  constantPool := pool
  accessFlags := fl
  thisClass := this
  superClass := sup
  interfaces := ifs
  fields := fds
  methods := ms
  attributes := attrs
def plain (name : String) (sup : Option ClassId) : Class where
  name := name
  kind := .ordinary
  loader := none
  accessFlags := 33
  super := sup
  interfaces := #[]
  cf := none
  fields := #[]
  methods := #[]
  instanceTypes := #[]
  staticTypes := #[]
  resolved := #[]
  callSites := []
  init := .initialized
  statics := none
  mirror := none

def pool0 : Array CpInfo := pool [(5, u "<init>"), (0, u "()V"), (1, .class_ 10), (1, u "java/lang/Object")] 113

def k0c0 : Code := { maxStack := 0, maxLocals := 1, code := object_method_1_code, exceptionTable := #[], attributes := #[] }
def k0m0 : Method := { name := "<init>", desc := "()V", sig := { parameters := [], returnType := none }, accessFlags := 1, code := some k0c0 }
/-- java/lang/Object -/
def k0 : Class := { plain "java/lang/Object" none with
  accessFlags := 33
  interfaces := #[]
  cf := some (fileOf pool0 8 #[] #[{ accessFlags := 1, nameIndex := 5, descriptorIndex := 6, attributes := #[] }] 33 0 #[] #[])
  fields := #[]
  methods := #[k0m0]
  instanceTypes := #[]
  staticTypes := #[]
  resolved := Array.replicate 124 none
  statics := none }

def pool1 : Array CpInfo := pool [(2, .class_ 4), (1, u "java/lang/Object"), (0, u "<init>"), (0, u "()V"), (0, .class_ 8), (0, u "com/example/rigid_keyblock/rigidkeyblock/StorageAccessCondition"), (0, .methodref 7 10), (0, .nameAndType 5 11), (0, u "([B)V"), (0, .methodref 7 13), (0, .nameAndType 14 15), (0, u "moveUtProhibited"), (0, u "()Z"), (0, .class_ 17), (0, u "com/example/rigid_keyblock/rigidkeyblock/StorageAccessConditionMoveUtProhibitedPinLaw"), (2, u "law"), (0, u "(IIIJ)Z")] 5

def k1m0 : Method := { name := "<init>", desc := "()V", sig := { parameters := [], returnType := none }, accessFlags := 1, code := none }
def k1c1 : Code := { maxStack := 5, maxLocals := 10, code := code, exceptionTable := #[], attributes := #[] }
def k1m1 : Method := { name := "law", desc := "(IIIJ)Z", sig := { parameters := [.int, .int, .int, .long], returnType := some .boolean }, accessFlags := 9, code := some k1c1 }
/-- com/example/rigid_keyblock/rigidkeyblock/StorageAccessConditionMoveUtProhibitedPinLaw -/
def k1 : Class := { plain "com/example/rigid_keyblock/rigidkeyblock/StorageAccessConditionMoveUtProhibitedPinLaw" (some 0) with
  accessFlags := 49
  interfaces := #[]
  cf := some (fileOf pool1 16 #[] #[{ accessFlags := 1, nameIndex := 5, descriptorIndex := 6, attributes := #[] }, { accessFlags := 9, nameIndex := 20, descriptorIndex := 21, attributes := #[] }] 49 2 #[] #[])
  fields := #[]
  methods := #[k1m0, k1m1]
  instanceTypes := #[]
  staticTypes := #[]
  resolved := Array.replicate 27 none
  statics := none }

def pool2 : Array CpInfo := pool [(1, .methodref 2 3), (0, .class_ 4), (0, .nameAndType 5 6), (0, u "java/lang/Object"), (0, u "<init>"), (0, u "()V"), (0, .fieldref 8 9), (0, .class_ 10), (0, .nameAndType 11 12), (0, u "com/example/rigid_keyblock/rigidkeyblock/StorageAccessCondition"), (0, u "bytes"), (0, u "[B"), (17, u "([B)V"), (0, u "SIZE"), (0, u "I"), (2, u "FM_SHIFT"), (1, u "COUNT_MASK"), (1, u "UNUSED_BITS"), (6, u "moveUtProhibited"), (0, u "()Z")] 8

def k2c0 : Code := { maxStack := 2, maxLocals := 2, code := prog_82_method_1_code, exceptionTable := #[], attributes := #[] }
def k2m0 : Method := { name := "<init>", desc := "([B)V", sig := { parameters := [(.array .byte)], returnType := none }, accessFlags := 0, code := some k2c0 }
def k2c1 : Code := { maxStack := 2, maxLocals := 1, code := prog_82_method_4_code, exceptionTable := #[], attributes := #[] }
def k2m1 : Method := { name := "moveUtProhibited", desc := "()Z", sig := { parameters := [], returnType := some .boolean }, accessFlags := 1, code := some k2c1 }
/-- com/example/rigid_keyblock/rigidkeyblock/StorageAccessCondition -/
def k2 : Class := { plain "com/example/rigid_keyblock/rigidkeyblock/StorageAccessCondition" (some 0) with
  accessFlags := 33
  interfaces := #[]
  cf := some (fileOf pool2 8 #[] #[{ accessFlags := 0, nameIndex := 5, descriptorIndex := 30, attributes := #[] }, { accessFlags := 1, nameIndex := 46, descriptorIndex := 47, attributes := #[] }] 33 2 #[] #[{ accessFlags := 24, nameIndex := 31, descriptorIndex := 32, attributes := #[] }, { accessFlags := 26, nameIndex := 35, descriptorIndex := 32, attributes := #[] }, { accessFlags := 26, nameIndex := 37, descriptorIndex := 32, attributes := #[] }, { accessFlags := 26, nameIndex := 39, descriptorIndex := 32, attributes := #[] }, { accessFlags := 18, nameIndex := 11, descriptorIndex := 12, attributes := #[] }])
  fields := #[{ name := "SIZE", type := .int, accessFlags := 24, slot := 0, constantValue := 0 }, { name := "FM_SHIFT", type := .int, accessFlags := 26, slot := 1, constantValue := 0 }, { name := "COUNT_MASK", type := .int, accessFlags := 26, slot := 2, constantValue := 0 }, { name := "UNUSED_BITS", type := .int, accessFlags := 26, slot := 3, constantValue := 0 }, { name := "bytes", type := (.array .byte), accessFlags := 18, slot := 0, constantValue := 0 }]
  methods := #[k2m0, k2m1]
  instanceTypes := #[(.array .byte)]
  staticTypes := #[.int, .int, .int, .int]
  resolved := Array.replicate 56 none
  statics := none }

def pool3 : Array CpInfo := pool [(1, u "java/lang/Cloneable"), (0, .class_ 1), (0, u "java/lang/Object"), (0, .class_ 3)] 3

/-- java/lang/Cloneable -/
def k3 : Class := { plain "java/lang/Cloneable" (some 0) with
  accessFlags := 1537
  interfaces := #[]
  cf := some (fileOf pool3 2 #[] #[] 1537 4 #[] #[])
  fields := #[]
  methods := #[]
  instanceTypes := #[]
  staticTypes := #[]
  resolved := Array.replicate 8 none
  statics := none }

def pool4 : Array CpInfo := pool [(1, u "java/io/Serializable"), (0, .class_ 1), (0, u "java/lang/Object"), (0, .class_ 3)] 3

/-- java/io/Serializable -/
def k4 : Class := { plain "java/io/Serializable" (some 0) with
  accessFlags := 1537
  interfaces := #[]
  cf := some (fileOf pool4 2 #[] #[] 1537 4 #[] #[])
  fields := #[]
  methods := #[]
  instanceTypes := #[]
  staticTypes := #[]
  resolved := Array.replicate 8 none
  statics := none }

/-- the primitive byte -/
def k5 : Class := { plain "byte" none with kind := .primitive 'B', accessFlags := 0x411 }
/-- [B -/
def k6 : Class := { plain "[B" (some 0) with kind := .array 5 .byte, interfaces := #[3, 4], accessFlags := 1041 }

/-- the primitive int -/
def k7 : Class := { plain "int" none with kind := .primitive 'I', accessFlags := 0x411 }
/-- [I -/
def k8 : Class := { plain "[I" (some 0) with kind := .array 7 .int, interfaces := #[3, 4], accessFlags := 1041 }

def heap : Heap := #[]
def classes : Array Class := #[k0, k1, k2, k3, k4, k5, k6, k7, k8]
def interned : List (Array UInt16 × Addr) := []
def slotsUsed : Nat := 0
def theMethod : MethodId := ⟨1, 1⟩
def args0 : Array Value := #[.int 100, .int 7, .int 9, .long 77]
def aboutOver (below : List Frame) : State where
  vm := { classes := classes, interned := interned.toArray }
  heap := heap
  slotsUsed := slotsUsed
  threads := #[{ frames := .invoking theMethod args0 :: below }]
def below0 : List Frame := [.native { method := ⟨0, 0⟩, args := #[] }]
def about1 : State := aboutOver below0
def p0 : Program := .bare "" "" ""
def e0 : Env := launch0.env 0 0 0
theorem w_frames : about1.frames = Frame.invoking theMethod args0 :: below0 := rfl
set_option maxRecDepth 65536 in
theorem w_args : argsFit about1.vm theMethod args0 = true := by decide +kernel
set_option maxRecDepth 65536 in
theorem w_heap : heapFits about1 = true := by decide +kernel
set_option maxRecDepth 65536 in
theorem w_runnable : about1.curStatus? = some .runnable := by decide +kernel
set_option maxRecDepth 65536 in
theorem w_alone : about1.alone = true := by decide +kernel
set_option maxRecDepth 65536 in
theorem w_named : about1.methodNamed? x = some theMethod := by decide +kernel
set_option maxRecDepth 65536 in
theorem w_hears : about1.hears theMethod below0 = true := by decide +kernel
set_option maxRecDepth 65536 in
theorem w_ripe : about1.ripe theMethod args0 below0 = true := by decide +kernel
theorem w_running : about1.status = .running := rfl
set_option maxRecDepth 65536 in
theorem w_room : about1.hasRoom e0.platform room_1 = true :=
  launch0.hasRoom_least _ room_1 (by decide +kernel) (by decide +kernel) (by decide +kernel) (by decide +kernel) (by decide +kernel) (by decide +kernel)
theorem allAtoms_all (ts : List Jvm.Cond) (a : Array Jvm.Value) (st : Jvm.State) : (allAtoms ts).before a st = ts.all (fun c => c.before a st) := by
  induction ts with
  | nil => rfl
  | cons c t ih =>
    show (Jvm.Cond.and c (allAtoms t)).before a st = _
    rw [Jvm.Cond.before_and, ih, List.all_cons]
def words1 : List Jvm.Cond := Jvm.Cond.code x code maxLocals ret :: tables_1
/-- a 'code' word, met by the world's own term for the bytes: nothing is compared byte by byte -/
theorem code_word {y : MethodName} {bytes : ByteArray} {mx : Nat} {rt : Option FieldType} {a : Array Value} {s : State} {m : MethodId} {meth : Method} {c : Code} (h1 : s.methodNamed? y = some m) (h2 : s.vm.method? m = some meth) (h3 : meth.code = some c) (h4 : c.code = bytes)
    (h5 : (c.maxLocals == mx && c.exceptionTable.isEmpty && decide (c.maxStack ≤ mostOperands) && decide (meth.sig.returnType = rt) && !meth.locks && decide (parseMethodDescriptor y.desc = some meth.sig)) = true) : (Jvm.Cond.code y bytes mx rt).before a s = true := by
  simp only [Bool.and_eq_true, beq_iff_eq, Bool.not_eq_true', decide_eq_true_eq] at h5
  obtain ⟨⟨⟨⟨⟨g1, g2⟩, g3⟩, g4⟩, g5⟩, g6⟩ := h5
  simp [Cond.before, Cond.holds, Cond.value, h1, h2, h3, h4, g1, g2, g3, g4, g5, g6]
def isCode : Jvm.Cond → Bool
  | .code _ _ _ _ => true
  | _ => false
theorem all_split {L : List Jvm.Cond} {P : Jvm.Cond → Bool} (h1 : L.all (fun c => isCode c || P c) = true) (h2 : ∀ c ∈ L.filter isCode, P c = true) : L.all P = true := by
  refine List.all_eq_true.mpr fun c hc => ?_
  have h := List.all_eq_true.mp h1 c hc
  rcases Bool.eq_false_or_eq_true (isCode c) with hi | hi
  · exact h2 c (List.mem_filter.mpr ⟨hc, hi⟩)
  · simpa [hi] using h
set_option maxRecDepth 65536 in
theorem w_c0 : (Jvm.Cond.code x code maxLocals ret).before args0 about1 = true := code_word (m := ⟨1, 1⟩) (meth := k1m1) (c := k1c1) (by decide +kernel) rfl rfl rfl (by decide +kernel)
set_option maxRecDepth 65536 in
theorem w_c1 : (Jvm.Cond.code ({ cls := "com/example/rigid_keyblock/rigidkeyblock/StorageAccessCondition", name := "<init>", desc := "([B)V" } : Jvm.MethodName) prog_82_method_1_code (2 : Nat) (Option.none : Option Jvm.ClassFile.FieldType)).before args0 about1 = true := code_word (m := ⟨2, 0⟩) (meth := k2m0) (c := k2c0) (by decide +kernel) rfl rfl rfl (by decide +kernel)
set_option maxRecDepth 65536 in
theorem w_c2 : (Jvm.Cond.code ({ cls := "java/lang/Object", name := "<init>", desc := "()V" } : Jvm.MethodName) object_method_1_code (1 : Nat) (Option.none : Option Jvm.ClassFile.FieldType)).before args0 about1 = true := code_word (m := ⟨0, 0⟩) (meth := k0m0) (c := k0c0) (by decide +kernel) rfl rfl rfl (by decide +kernel)
set_option maxRecDepth 65536 in
theorem w_c3 : (Jvm.Cond.code ({ cls := "com/example/rigid_keyblock/rigidkeyblock/StorageAccessCondition", name := "moveUtProhibited", desc := "()Z" } : Jvm.MethodName) prog_82_method_4_code (1 : Nat) (Option.some Jvm.ClassFile.FieldType.boolean)).before args0 about1 = true := code_word (m := ⟨2, 1⟩) (meth := k2m1) (c := k2c1) (by decide +kernel) rfl rfl rfl (by decide +kernel)
def codes1 : List Jvm.Cond := [Jvm.Cond.code x code maxLocals ret, Jvm.Cond.code ({ cls := "com/example/rigid_keyblock/rigidkeyblock/StorageAccessCondition", name := "<init>", desc := "([B)V" } : Jvm.MethodName) prog_82_method_1_code (2 : Nat) (Option.none : Option Jvm.ClassFile.FieldType), Jvm.Cond.code ({ cls := "java/lang/Object", name := "<init>", desc := "()V" } : Jvm.MethodName) object_method_1_code (1 : Nat) (Option.none : Option Jvm.ClassFile.FieldType), Jvm.Cond.code ({ cls := "com/example/rigid_keyblock/rigidkeyblock/StorageAccessCondition", name := "moveUtProhibited", desc := "()Z" } : Jvm.MethodName) prog_82_method_4_code (1 : Nat) (Option.some Jvm.ClassFile.FieldType.boolean)]
set_option maxRecDepth 65536 in
theorem codes_eq : words1.filter isCode = codes1 := rfl
theorem w_codes : ∀ c ∈ words1.filter isCode, c.before args0 about1 = true := by
  rw [codes_eq]
  intro c hc
  simp only [codes1, List.mem_cons, List.not_mem_nil, or_false] at hc
  rcases hc with rfl | rfl | rfl | rfl
  · exact w_c0
  · exact w_c1
  · exact w_c2
  · exact w_c3
set_option maxRecDepth 65536 in
theorem w_t1 : words1.all (fun c => isCode c || c.before args0 about1) = true := by decide +kernel
theorem w_tables : (allAtoms (Jvm.Cond.code x code maxLocals ret :: tables_1)).before args0 about1 = true := by
  rw [allAtoms_all]
  show words1.all (fun c => c.before args0 about1) = true
  refine all_split ?_ w_codes
  rw [w_t1]
set_option maxRecDepth 65536 in
theorem w_case : (Jvm.Cond.and given_1 narrow_1).before args0 about1 = true := by decide +kernel
theorem w_applies : (headSpec (Jvm.Cond.code x code maxLocals ret :: tables_1) room_1).applies x e0.platform about1 = true :=
  (Spec.applies_iff w_frames).mpr ⟨w_running, w_runnable, w_alone, w_named, w_hears, w_ripe, w_room, w_tables⟩
theorem atStart : AtStart classFile x code maxLocals ret World_1 tables_1 room_1 Calls_1 rest_1 Pre_1 launch0 p0 e0 about1 theMethod args0 below0 :=
  ⟨lists_1, trivial, launch0.admits_env _ _ _, launch0.least_env, fairChoices_fair.cas, fairChoices_fair.clock, w_frames, w_args, w_heap, w_applies, trivial, trivial, w_case⟩
end start1
theorem witness_1 : WitnessClaimed_1 := ⟨start1.p0, start1.e0, start1.about1, start1.theMethod, start1.args0, start1.below0, start1.atStart⟩
end Jvm.Pilot.@@N@@
