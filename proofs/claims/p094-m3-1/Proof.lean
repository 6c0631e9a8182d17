import JvmDerived
import JvmDerived.Pilot.@@N@@Statement
import JvmDerived.Pilot.@@N@@Code
set_option linter.unusedVariables false
set_option linter.unusedSimpArgs false
namespace Jvm.RoadKit
open Sem ClassFile Op Lib Jvm.Stand Jvm.Free Jvm.LawKit
section New
variable {p : Program} {l : Launch} {e : Env} {R : Room} {s : State} {m : MethodId} {args : Array Value} {below : List Frame} {meth : Method} {c : Code} {T : State} {locs : List Loc} {cells slots : Nat}
theorem retI (X : Stand p l e R s m args below meth c T locs cells slots) (hx : p.tables.exec = Jvm.exec) {pc : Nat} {Ls : Array Slot} {z : Int32} {rest : List Value} (hret : meth.sig.returnType = some .int) (hd : decode c.code pc = .ok (.ireturn, 1)) {fs : List Frame}
    (hl : ∀ (f : JFrame) (acts : List Action), f.method = m → f.locked = none → f.entered = [] → (doReturn e (T.setTop f) acts (some (.int z))).1 = T.setFrames fs) : Steps p.tables e below (T.setTop (mkF m pc Ls (.int z :: rest))) (T.setFrames fs) := by
  have hm' : T.vm.method? m = some meth := X.method'
  have hn : narrow .int (.int z) = .int z := rfl
  show Steps p.tables e below (T.setTop { method := m, pc := pc, locals := Ls, stack := _ :: rest, locked := none }) _
  jvm_step X.here [X.here.top, hx, hd, hm', hret, hn]
  first | (intro acts; rw [hl _ acts rfl rfl rfl]) | rw [hl _ _ rfl rfl rfl]
  exact Steps.refl _
theorem own_retA (X : Stand p l e R s m args below meth c T locs cells slots) (hx : p.tables.exec = Jvm.exec) {pc : Nat} {Ls : Array Slot} {z : Value} {ty : FieldType} {rest : List Value} (hret : meth.sig.returnType = some ty) (hty : ty.isReference = true) (hz : z.isRef = true) (hd : decode c.code pc = .ok (.areturn, 1)) {fs : List Frame}
    (hl : ∀ (f : JFrame) (acts : List Action), f.method = m → f.locked = none → f.entered = [] → (doReturn e (T.setTop f) acts (some z)).1 = T.setFrames fs) : Steps p.tables e below (T.setTop (mkF m pc Ls (z :: rest))) (T.setFrames fs) := by
  have hm' : T.vm.method? m = some meth := X.method'
  show Steps p.tables e below (T.setTop { method := m, pc := pc, locals := Ls, stack := _ :: rest, locked := none }) _
  jvm_step X.here [X.here.top, hx, hd, hm', hret, hty, hz]
  first | (intro acts; rw [hl _ acts rfl rfl rfl]) | rw [hl _ _ rfl rfl rfl]
  exact Steps.refl _
theorem own_retD (X : Stand p l e R s m args below meth c T locs cells slots) (hx : p.tables.exec = Jvm.exec) {pc : Nat} {Ls : Array Slot} {z : UInt64} {rest : List Value} (hret : meth.sig.returnType = some .double) (hd : decode c.code pc = .ok (.dreturn, 1)) {fs : List Frame}
    (hl : ∀ (f : JFrame) (acts : List Action), f.method = m → f.locked = none → f.entered = [] → (doReturn e (T.setTop f) acts (some (.double z))).1 = T.setFrames fs) : Steps p.tables e below (T.setTop (mkF m pc Ls (.double z :: rest))) (T.setFrames fs) :=
  retOut X hx hret rfl (Or.inr (Or.inr (Or.inl ⟨rfl, rfl, z, rfl⟩))) hd hl
/-- where a body is to end: it runs, it has ended, it returned v, Q says what v and the heap are -/
def own_F (s : State) (below : List Frame) (Q : Option Value → Heap → List Loc → Prop) (C S : Nat) (t : State) (o : Outcome) : Prop := t.status = .running ∧ Ended t below o ∧ ∃ v L, o = .returned v ∧ Q v t.heap L ∧ FrameEnd s o t L C S
/-- the run from T, with the frame g on top, comes to such an end -/
def own_Go (p : Program) (e : Env) (below : List Frame) (F : State → Outcome → Prop) (T : State) (g : JFrame) : Prop := ∃ t o, Steps p.tables e below (T.setTop g) t ∧ F t o
theorem own_st {F : State → Outcome → Prop} {T T' : State} {g g' : JFrame} (h : ∀ t, Steps p.tables e below (T'.setTop g') t → Steps p.tables e below (T.setTop g) t) (k : own_Go p e below F T' g') : own_Go p e below F T g := by
  obtain ⟨t, o, h1, h2⟩ := k
  exact ⟨t, o, h t h1, h2⟩
theorem own_cast {F : State → Outcome → Prop} {T : State} {g g' : JFrame} (q : g = g') (k : own_Go p e below F T g') : own_Go p e below F T g := q ▸ k
theorem own_ret {F : State → Outcome → Prop} {Q : Option Value → Heap → List Loc → Prop} {C S : Nat} {g : JFrame} {v : Option Value} (hF : F = own_F s below Q C S) (X : Stand p l e R s m args below meth c T locs cells slots) (hv : meth.sig.returnType = none → v = none) (hlk : meth.locks = false)
    (hst : ∀ fs, (∀ (f : JFrame) (acts : List Action), f.method = m → f.locked = none → f.entered = [] → (doReturn e (T.setTop f) acts v).1 = T.setFrames fs) → Steps p.tables e below (T.setTop g) (T.setFrames fs)) (hQ : Q v T.heap locs) (hc : cells ≤ C) (hs : slots ≤ S) : own_Go p e below F T g := by
  subst hF
  obtain ⟨fs, hr, hrun, hended, hW, hsame⟩ := X.leave hv hlk
  exact ⟨T.setFrames fs, .returned v, hst fs hr, hrun, hended, v, locs, rfl, hQ, ⟨_, rfl⟩, hW, hsame.mono hc hs⟩
theorem own_some {ret : Option FieldType} {ty : FieldType} {v : Option Value} (hret : ret = some ty) : ret = none → v = none := fun h => by rw [hret] at h; cases h
/-- a body's contract: called with 'as' at the heap h0 it returns, and Q holds of what it returned, of the heap, of the places written -/
abbrev own_Met (l : Launch) (Z : State) (y : MethodName) (bytes : ByteArray) (maxL : Nat) (ret : Option FieldType) (rm : Room) (as : Array Value) (h0 : Heap) (Q : Option Value → Heap → List Loc → Prop) : Prop :=
  ∀ ws : List Jvm.Cond, MetFree l y (head1 (Jvm.Cond.code y bytes maxL ret :: ws) rm) (fun a U => a = as ∧ Z.Warmed39 U.vm ∧ U.heap = h0) (fun _ _ _ _ _ => True) (fun _ U o U' => ∃ v L, o = .returned v ∧ Q v U'.heap L ∧ FrameEnd U o U' L rm.cells rm.slots)
theorem own_body {Z : State} {y : MethodName} {bytes : ByteArray} {maxL : Nat} {ret : Option FieldType} {rm : Room} {as : Array Value} {h0 : Heap} {Q : Option Value → Heap → List Loc → Prop} (hpl : plainFor y = true)
    (body : ∀ (p : Program) (e : Env) (s : State) (m : MethodId) (below : List Frame) (meth : Method) (c : Code) (T : State), Z.Warmed39 s.vm → p.tables.exec = Jvm.exec → c.code = bytes → c.maxLocals = maxL → s.vm.findClass y.cls = some m.cls → meth.name = y.name → meth.sig.returnType = ret → meth.locks = false →
      Stand p l e rm s m as below meth c T [] 0 0 → T.heap = h0 → ∀ F : State → Outcome → Prop, F = own_F s below Q rm.cells rm.slots → own_Go p e below F T (entryFrame m as maxL)) : own_Met l Z y bytes maxL ret rm as h0 Q := by
  intro ws
  refine MetFree.of_bodySF hpl hisR ?_
  intro p e s m args below meth c s₁ Bd hml0 hP hK
  obtain ⟨rfl, hZ, hh⟩ := hP
  obtain ⟨t, o, h1, h2, h3, h4⟩ := body p e s m below meth c s₁ hZ Bd.exec Bd.bytes hml0 (findClass_of_methodNamed Bd.named) (name_of_methodNamed Bd.named Bd.method).1 Bd.returns (BodyLoose.notSynchronized Bd) (Stand.of_body Bd) (by rw [← hh, Bd.state]; rfl) _ rfl
  exact ⟨t, o, h1, h2, h3, h4⟩
theorem own_back {Z : State} {a0 : Array Value} {y : MethodName} {bytes : ByteArray} {maxL : Nat} {ret : Option FieldType} {rm : Room} {len W : Nat} {as' : Array Value} {h : Heap} {Q : Option Value → Heap → List Loc → Prop} (hM : own_Met l Z y bytes maxL ret rm as' h Q)
    (hZ : Z.Warmed39 s.vm) (wc : (Cond.code y bytes maxL ret).before a0 Z = true) (wz : (Cond.initialized y.cls).before a0 Z = true) (hf : rm.frames + 1 ≤ R.frames) (hl : W + (maxL + 11) + rm.locals ≤ R.locals) :
    Back l R p e below s args y len W (fun A a => a = as' ∧ A.U.heap = h ∧ A.cells + rm.cells ≤ R.cells ∧ A.slots + rm.slots ≤ R.slots)
      (fun A _ v B => ∃ L, Q v B.U.heap L ∧ B.locs = A.locs ++ L ∧ B.cells = A.cells + rm.cells ∧ B.slots = A.slots + rm.slots) := backOf (Q := Q) (rm := rm) (hM []) hZ wc wz hf hl
theorem own_selP {Z : State} {a0 : Array Value} {y : MethodName} {n : Nat} (hZ : Z.Warmed39 s.vm) (wi : (Cond.instantiable y.cls n).before a0 Z = true) (hpriv : s.PrivateAt y) (hinst : (Cond.instanceMethod y).before args s = true) (hy : y.cls ≠ "java/lang/invoke/MethodHandle" ∧ y.cls ≠ "java/lang/invoke/VarHandle") : (Cond.selects y.cls y y).before args s = true := by
  obtain ⟨c, k, h1, h2, h3, h4, -, -⟩ := Cond.instantiable_spec (mvT (args := args) hZ wi)
  exact selects_self_of_private h1 h2 (by cases hi : k.isInterface <;> simp [hi] at h4 ⊢) hpriv hinst hy
theorem own_fresh {Z : State} {h : Heap} {b : Addr} (g : b = h.size) {n : Nat} (q : n ≤ h.size) : n ≤ b := g ▸ q
theorem own_ne {h : Heap} {a b : Addr} (g : b = h.size) (q : a < h.size) : a ≠ b := Nat.ne_of_lt (g ▸ q)
end New
end Jvm.RoadKit
namespace Jvm.Pilot.@@N@@
open Jvm Jvm.ClassFile Sem Op Lib Jvm.Free Jvm.Stand Jvm.LawKit Jvm.RoadKit Bundle Jvm.Pilot.@@N@@.Jvm.D

/-- z is the truth of P as 0 or 1 -/
def own_B (z : Int32) (P : Prop) : Prop := (z = 1 ∧ P) ∨ (z = 0 ∧ ¬ P)
theorem own_B.eq {z y : Int32} {P R : Prop} (h : own_B z P) (k : own_B y R) (q : P ↔ R) : z = y := by
  rcases h with ⟨rfl, h⟩ | ⟨rfl, h⟩ <;> rcases k with ⟨rfl, k⟩ | ⟨rfl, k⟩
  · rfl
  · exact absurd (q.mp h) k
  · exact absurd (q.mpr k) h
  · rfl
theorem own_nb {z : Int32} (h : z = 0 ∨ z = 1) : nar .boolean z = z := by rcases h with rfl | rfl <;> rfl
theorem own_pos {z : Int32} (h : 0 ≤ z.toInt) : (0 : Int32) < z ↔ ¬ z = 0 := by
  rw [Int32.lt_iff_toInt_lt]
  have k : (0 : Int32).toInt = 0 := by decide
  constructor
  · intro q r; rw [r] at q; omega
  · intro q
    have : z.toInt ≠ 0 := fun r => q (Int32.toInt_inj.mp (by rw [r, k]))
    omega
theorem own_two (x : Int32) (h0 : ¬ ((x &&& (2147483647 : Int32)) % (3 : Int32)) = 0) (h1 : ¬ ((x &&& (2147483647 : Int32)) % (3 : Int32)) = 1) : (2 : Int32) = (x &&& (2147483647 : Int32)) % (3 : Int32) := by
  have m := c_mask x (2147483647 : Int32) 31 (by decide) (by decide)
  have r := (c_irem (x &&& (2147483647 : Int32)) (3 : Int32) 3 (by decide)).1 (by rw [m]; omega)
  have k0 : (0 : Int32).toInt = 0 := by decide
  have k1 : (1 : Int32).toInt = 1 := by decide
  have k2 : (2 : Int32).toInt = 2 := by decide
  have n0 : ((x &&& (2147483647 : Int32)) % (3 : Int32)).toInt ≠ 0 := fun q => h0 (Int32.toInt_inj.mp (by rw [q, k0]))
  have n1 : ((x &&& (2147483647 : Int32)) % (3 : Int32)).toInt ≠ 1 := fun q => h1 (Int32.toInt_inj.mp (by rw [q, k1]))
  apply Int32.toInt_inj.mp
  rw [k2]
  omega

theorem pd_0 : parseMethodDescriptor "(IZ)V" = some ⟨[.int, .boolean], none⟩ := by decide +kernel
theorem pd_1 : parseMethodDescriptor "()V" = some ⟨[], none⟩ := by decide +kernel
theorem pd_2 : parseMethodDescriptor "(Lcom/example/semverdict/semverdict/change/Probe;Lcom/example/semverdict/semverdict/change/Probe;)Z" = some ⟨[(.object "com/example/semverdict/semverdict/change/Probe"), (.object "com/example/semverdict/semverdict/change/Probe")], some .boolean⟩ := by decide +kernel
theorem pd_3 : parseMethodDescriptor "()Z" = some ⟨[], some .boolean⟩ := by decide +kernel
theorem pd_4 : parseMethodDescriptor "()I" = some ⟨[], some .int⟩ := by decide +kernel
theorem d2_0 : decode jdk_30_method_1_code 0 = .ok (.aload_n 0, 1) := by decide +kernel
theorem d2_1 : decode jdk_30_method_1_code 1 = .ok (.invokespecial 1, 3) := by decide +kernel
theorem d2_4 : decode jdk_30_method_1_code 4 = .ok (.return_, 1) := by decide +kernel
theorem pn_2 : plainFor (⟨"java/lang/Record", "<init>", "()V"⟩ : MethodName) = true := plainFor_of_name (by first | (simp [plainName, overriddenIn]; done) | decide +kernel)
set_option maxRecDepth 65536 in
set_option maxHeartbeats 40000000 in
theorem rm2 (l : Launch) (Z : State) (a0 : Array Value) (hw : ∀ d ∈ tables_1, d.before a0 Z = true) (a1 : Addr) (h0 : Heap) (n0 : Nat) (Z0 : n0 ≤ h0.size)  :
    own_Met l Z (⟨"java/lang/Record", "<init>", "()V"⟩ : MethodName) jdk_30_method_1_code 1 none ({ frames := 1, cells := 0, slots := 0, locals := 12 } : Room) #[(.ref a1)] h0 (fun v h L => v = none ∧ Fr n0 L ∧ h = h0) := by
  refine own_body pn_2 ?_
  intro p e s m below meth c T0 hZ hx hby hml hown hnm hret hlk X0 e0 F hF
  have N0 := Fr.nil n0
  have K0 := Keep.refl h0 []
  refine own_cast (g' := (mkF m 0 #[.val (.ref a1)] [])) (by first | rfl | simp [entryFrame, mkF, argsToLocals, Value.category]) ?_
  refine own_st (T' := T0) (g' := (mkF m 1 #[.val (.ref a1)] [(.ref a1)])) (fun t9 k9 => XS.aloadN X0.here hx rfl (hb hby d2_0) rfl rfl k9) ?_
  obtain ⟨T1, X1, e1, st1⟩ := initO X0 hx hZ hown (hw _ (List.mem_of_getElem? (i := 15) rfl)) (hw _ (List.mem_of_getElem? (i := 16) rfl)) (hw _ (List.mem_of_getElem? (i := 17) rfl)) e0 (g := (mkF m 1 #[.val (.ref a1)] [(.ref a1)])) rfl (by rw [hml]; rfl) rfl (hb hby d2_1) (by decide) (W := 0) (by show 2 * 0 + _ ≤ _; exact Nat.le_of_eq rfl) (by decide)
  refine own_st (T' := T1) (g' := (mkF m 4 #[.val (.ref a1)] [])) (fun t9 k9 => st1 t9 k9) ?_
  refine own_ret (v := none) hF X1 (fun _ => rfl) hlk (fun fs hr => X1.returnOut hx hret (hb hby d2_4) hr) ?_ (by decide) (by decide)
  try rw [e1]
  exact ⟨rfl, N0, rfl⟩
theorem d1_0 : decode prog_4_method_1_code 0 = .ok (.aload_n 0, 1) := by decide +kernel
theorem d1_1 : decode prog_4_method_1_code 1 = .ok (.invokespecial 1, 3) := by decide +kernel
theorem d1_4 : decode prog_4_method_1_code 4 = .ok (.aload_n 0, 1) := by decide +kernel
theorem d1_5 : decode prog_4_method_1_code 5 = .ok (.iload_n 1, 1) := by decide +kernel
theorem d1_6 : decode prog_4_method_1_code 6 = .ok (.putfield 7, 3) := by decide +kernel
theorem d1_9 : decode prog_4_method_1_code 9 = .ok (.aload_n 0, 1) := by decide +kernel
theorem d1_10 : decode prog_4_method_1_code 10 = .ok (.iload_n 2, 1) := by decide +kernel
theorem d1_11 : decode prog_4_method_1_code 11 = .ok (.putfield 13, 3) := by decide +kernel
theorem d1_14 : decode prog_4_method_1_code 14 = .ok (.return_, 1) := by decide +kernel
theorem pn_1 : plainFor (⟨"com/example/semverdict/semverdict/change/Probe", "<init>", "(IZ)V"⟩ : MethodName) = true := plainFor_of_name (by first | (simp [plainName, overriddenIn]; done) | decide +kernel)
set_option maxRecDepth 65536 in
set_option maxHeartbeats 40000000 in
theorem rm1 (l : Launch) (Z : State) (a0 : Array Value) (hw : ∀ d ∈ tables_1, d.before a0 Z = true) (a1 : Addr) (p2 p3 : Int32) (u1 u2 : Value) (h0 : Heap) (n0 : Nat) (Z0 : n0 ≤ h0.size) (E1 : Exa Z h0 a1 "com/example/semverdict/semverdict/change/Probe") (F1 : Fld Z h0 a1 "com/example/semverdict/semverdict/change/Probe" "changes" "I" u1) (F2 : Fld Z h0 a1 "com/example/semverdict/semverdict/change/Probe" "rejecting" "Z" u2) (g_a1 : n0 ≤ a1) (hz : nar .boolean p3 = p3) :
    own_Met l Z (⟨"com/example/semverdict/semverdict/change/Probe", "<init>", "(IZ)V"⟩ : MethodName) prog_4_method_1_code 3 none ({ frames := 2, cells := 0, slots := 0, locals := 24 } : Room) #[(.ref a1), (.int p2), (.int p3)] h0 (fun v h L => v = none ∧ Fr n0 L ∧ Keep h0 h [a1] ∧ Exa Z h a1 "com/example/semverdict/semverdict/change/Probe" ∧ Fld Z h a1 "com/example/semverdict/semverdict/change/Probe" "changes" "I" (.int p2) ∧ Fld Z h a1 "com/example/semverdict/semverdict/change/Probe" "rejecting" "Z" (.int p3)) := by
  refine own_body pn_1 ?_
  intro p e s m below meth c T0 hZ hx hby hml hown hnm hret hlk X0 e0 F hF
  have N0 := Fr.nil n0
  have K0 := Keep.refl h0 [a1]
  refine own_cast (g' := (mkF m 0 #[.val (.ref a1), .val (.int p2), .val (.int p3)] [])) (by first | rfl | simp [entryFrame, mkF, argsToLocals, Value.category]) ?_
  refine own_st (T' := T0) (g' := (mkF m 1 #[.val (.ref a1), .val (.int p2), .val (.int p3)] [(.ref a1)])) (fun t9 k9 => XS.aloadN X0.here hx rfl (hb hby d1_0) rfl rfl k9) ?_
  obtain ⟨_, _, ⟨T1, L1, k1, n1⟩, -, X1, ⟨Lc1, hQ1, l1, y1, z1⟩, st1⟩ := X0.specialBack hx (y := (⟨"java/lang/Record", "<init>", "()V"⟩ : MethodName)) rfl hown (mvT hZ (hw _ (List.mem_of_getElem? (i := 10) rfl))) (mvT hZ (hw _ (List.mem_of_getElem? (i := 11) rfl))) (mvT hZ (hw _ (List.mem_of_getElem? (i := 14) rfl))) (by decide) (own_back (W := 0) (rm2 l Z a0 hw a1 h0 n0 Z0) hZ (hw _ (List.mem_of_getElem? (i := 14) rfl)) (hw _ (List.mem_of_getElem? (i := 13) rfl)) (by decide) (by decide)) (g := (mkF m 1 #[.val (.ref a1), .val (.int p2), .val (.int p3)] [(.ref a1)])) rfl (by rw [hml]; rfl) (Steps.refl _) (a := a1) (argsL := []) (rest := []) (lenOf pd_1 rfl) rfl (by show 2 * 0 + _ ≤ _; exact Nat.le_of_eq rfl) (hb hby d1_1) (fun _ _ => ⟨rfl, e0, (Nat.le_of_ble_eq_true rfl), (Nat.le_of_ble_eq_true rfl)⟩)
  dsimp only [Pt.U, Pt.locs, Pt.cells, Pt.slots] at X1 l1 y1 z1 st1 hQ1
  subst l1 y1 z1
  obtain ⟨rfl, Nq1, he1⟩ := hQ1
  have N1 := Fr.app N0 Nq1
  have e1 : T1.heap = h0 := he1
  refine own_st (T' := T1) (g' := (mkF m 4 #[.val (.ref a1), .val (.int p2), .val (.int p3)] [])) (fun t9 k9 => st1.trans k9) ?_
  refine own_st (T' := T1) (g' := (mkF m 5 #[.val (.ref a1), .val (.int p2), .val (.int p3)] [(.ref a1)])) (fun t9 k9 => XS.aloadN X1.here hx rfl (hb hby d1_4) rfl rfl k9) ?_
  refine own_st (T' := T1) (g' := (mkF m 6 #[.val (.ref a1), .val (.int p2), .val (.int p3)] [(.int p2), (.ref a1)])) (fun t9 k9 => XS.iloadN X1.here hx rfl (hb hby d1_5) rfl k9) ?_
  obtain ⟨T2, h2, X2, e2, W2, st2⟩ := putF X1 hx hZ hown (host := "") (Or.inl (hw _ (List.mem_of_getElem? (i := 18) rfl))) Via.refl e1 F1 E1 (Or.inr ⟨(hw _ (List.mem_of_getElem? (i := 19) rfl)), rfl, hnm⟩) (hw _ (List.mem_of_getElem? (i := 5) rfl)) (ty := .int) (by decide) rfl rfl (g := (mkF m 6 #[.val (.ref a1), .val (.int p2), .val (.int p3)] [(.int p2), (.ref a1)])) rfl rfl (hb hby d1_6)
  have Fw2 := F1.same W2
  have E1_3 := E1.wr W2
  have F2_4 := F2.other W2 (Or.inr (slot_ne (Or.inr (hw _ (List.mem_of_getElem? (i := 21) rfl))) (Or.inr (hw _ (List.mem_of_getElem? (i := 19) rfl))) (by decide) (t := .boolean) (t' := .int) (by decide) (by decide)))
  have K2 := K0.wr W2 (Or.inl (by simp))
  have N2 := Fr.snoc X2 N1 g_a1
  have Z2 : n0 ≤ h2.size := by rw [W2.size]; exact Z0
  refine own_st (T' := T2) (g' := (mkF m 9 #[.val (.ref a1), .val (.int p2), .val (.int p3)] [])) (fun t9 k9 => st2 t9 k9) ?_
  refine own_st (T' := T2) (g' := (mkF m 10 #[.val (.ref a1), .val (.int p2), .val (.int p3)] [(.ref a1)])) (fun t9 k9 => XS.aloadN X2.here hx rfl (hb hby d1_9) rfl rfl k9) ?_
  refine own_st (T' := T2) (g' := (mkF m 11 #[.val (.ref a1), .val (.int p2), .val (.int p3)] [(.int p3), (.ref a1)])) (fun t9 k9 => XS.iloadN X2.here hx rfl (hb hby d1_10) rfl k9) ?_
  obtain ⟨T5, h5, X5, e5, W5, st5⟩ := putFN X2 hx hZ hown (hw _ (List.mem_of_getElem? (i := 20) rfl)) Via.refl e2 F2_4 E1_3 (Or.inr ⟨(hw _ (List.mem_of_getElem? (i := 21) rfl)), rfl, hnm⟩) (hw _ (List.mem_of_getElem? (i := 5) rfl)) (ty := .boolean) (v' := .int (nar .boolean p3)) (by decide) rfl (fits_nar_bool _) (g := (mkF m 11 #[.val (.ref a1), .val (.int p2), .val (.int p3)] [(.int p3), (.ref a1)])) rfl rfl (hb hby d1_11)
  have Fw5 := F2_4.same W5
  have E1_6 := E1_3.wr W5
  have Fw2_7 := Fw2.other W5 (Or.inr (slot_ne (Or.inr (hw _ (List.mem_of_getElem? (i := 19) rfl))) (Or.inr (hw _ (List.mem_of_getElem? (i := 21) rfl))) (by decide) (t := .int) (t' := .boolean) (by decide) (by decide)))
  have K5 := K2.wr W5 (Or.inl (by simp))
  have N5 := Fr.snoc X5 N2 g_a1
  have Z5 : n0 ≤ h5.size := by rw [W5.size]; exact Z2
  refine own_st (T' := T5) (g' := (mkF m 14 #[.val (.ref a1), .val (.int p2), .val (.int p3)] [])) (fun t9 k9 => st5 t9 k9) ?_
  rw [hz] at Fw5
  refine own_ret (v := none) hF X5 (fun _ => rfl) hlk (fun fs hr => X5.returnOut hx hret (hb hby d1_14) hr) ?_ (by decide) (by decide)
  try rw [e5]
  exact ⟨rfl, N5, K5, E1_6, Fw2_7, Fw5⟩
theorem d5_0 : decode prog_4_method_8_code 0 = .ok (.aload_n 0, 1) := by decide +kernel
theorem d5_1 : decode prog_4_method_8_code 1 = .ok (.getfield 13, 3) := by decide +kernel
theorem d5_4 : decode prog_4_method_8_code 4 = .ok (.ireturn, 1) := by decide +kernel
theorem pn_5 : plainFor (⟨"com/example/semverdict/semverdict/change/Probe", "rejecting", "()Z"⟩ : MethodName) = true := plainFor_of_name (by first | (simp [plainName, overriddenIn]; done) | decide +kernel)
set_option maxRecDepth 65536 in
set_option maxHeartbeats 40000000 in
theorem rm5 (l : Launch) (Z : State) (a0 : Array Value) (hw : ∀ d ∈ tables_1, d.before a0 Z = true) (a1 : Addr) (p1 : Int32) (h0 : Heap) (n0 : Nat) (Z0 : n0 ≤ h0.size) (F1 : Fld Z h0 a1 "com/example/semverdict/semverdict/change/Probe" "rejecting" "Z" (.int p1)) (hz : nar .boolean p1 = p1) :
    own_Met l Z (⟨"com/example/semverdict/semverdict/change/Probe", "rejecting", "()Z"⟩ : MethodName) prog_4_method_8_code 1 (some .boolean) ({ frames := 0, cells := 0, slots := 0, locals := 0 } : Room) #[(.ref a1)] h0 (fun v h L => v = some (.int p1) ∧ Fr n0 L ∧ h = h0) := by
  refine own_body pn_5 ?_
  intro p e s m below meth c T0 hZ hx hby hml hown hnm hret hlk X0 e0 F hF
  have N0 := Fr.nil n0
  have K0 := Keep.refl h0 []
  refine own_cast (g' := (mkF m 0 #[.val (.ref a1)] [])) (by first | rfl | simp [entryFrame, mkF, argsToLocals, Value.category]) ?_
  refine own_st (T' := T0) (g' := (mkF m 1 #[.val (.ref a1)] [(.ref a1)])) (fun t9 k9 => XS.aloadN X0.here hx rfl (hb hby d5_0) rfl rfl k9) ?_
  obtain ⟨T1, X1, e1, st1⟩ := getF X0 hx hZ hown (host := "") (Or.inl (hw _ (List.mem_of_getElem? (i := 20) rfl))) Via.refl e0 F1 (g := (mkF m 1 #[.val (.ref a1)] [(.ref a1)])) rfl rfl (hb hby d5_1)
  refine own_st (T' := T1) (g' := (mkF m 4 #[.val (.ref a1)] [(.int p1)])) (fun t9 k9 => st1 t9 k9) ?_
  refine own_ret (v := some (.int (nar .boolean p1))) hF X1 (own_some hret) hlk (fun fs hr => retN X1 hx (t := .boolean) hret (by simp) (hb hby d5_4) hr) ?_ (by decide) (by decide)
  try rw [e1]
  exact ⟨by rw [hz], N0, rfl⟩
theorem d6_0 : decode prog_4_method_7_code 0 = .ok (.aload_n 0, 1) := by decide +kernel
theorem d6_1 : decode prog_4_method_7_code 1 = .ok (.getfield 7, 3) := by decide +kernel
theorem d6_4 : decode prog_4_method_7_code 4 = .ok (.ireturn, 1) := by decide +kernel
theorem pn_6 : plainFor (⟨"com/example/semverdict/semverdict/change/Probe", "changes", "()I"⟩ : MethodName) = true := plainFor_of_name (by first | (simp [plainName, overriddenIn]; done) | decide +kernel)
set_option maxRecDepth 65536 in
set_option maxHeartbeats 40000000 in
theorem rm6 (l : Launch) (Z : State) (a0 : Array Value) (hw : ∀ d ∈ tables_1, d.before a0 Z = true) (a1 : Addr) (p1 : Int32) (h0 : Heap) (n0 : Nat) (Z0 : n0 ≤ h0.size) (F1 : Fld Z h0 a1 "com/example/semverdict/semverdict/change/Probe" "changes" "I" (.int p1)) :
    own_Met l Z (⟨"com/example/semverdict/semverdict/change/Probe", "changes", "()I"⟩ : MethodName) prog_4_method_7_code 1 (some .int) ({ frames := 0, cells := 0, slots := 0, locals := 0 } : Room) #[(.ref a1)] h0 (fun v h L => v = some (.int p1) ∧ Fr n0 L ∧ h = h0) := by
  refine own_body pn_6 ?_
  intro p e s m below meth c T0 hZ hx hby hml hown hnm hret hlk X0 e0 F hF
  have N0 := Fr.nil n0
  have K0 := Keep.refl h0 []
  refine own_cast (g' := (mkF m 0 #[.val (.ref a1)] [])) (by first | rfl | simp [entryFrame, mkF, argsToLocals, Value.category]) ?_
  refine own_st (T' := T0) (g' := (mkF m 1 #[.val (.ref a1)] [(.ref a1)])) (fun t9 k9 => XS.aloadN X0.here hx rfl (hb hby d6_0) rfl rfl k9) ?_
  obtain ⟨T1, X1, e1, st1⟩ := getF X0 hx hZ hown (host := "") (Or.inl (hw _ (List.mem_of_getElem? (i := 18) rfl))) Via.refl e0 F1 (g := (mkF m 1 #[.val (.ref a1)] [(.ref a1)])) rfl rfl (hb hby d6_1)
  refine own_st (T' := T1) (g' := (mkF m 4 #[.val (.ref a1)] [(.int p1)])) (fun t9 k9 => st1 t9 k9) ?_
  refine own_ret (v := some (.int p1)) hF X1 (own_some hret) hlk (fun fs hr => retI X1 hx hret (hb hby d6_4) hr) ?_ (by decide) (by decide)
  try rw [e1]
  exact ⟨rfl, N0, rfl⟩
theorem d7_0 : decode jdk_37_method_2_code 0 = .ok (.aload_n 0, 1) := by decide +kernel
theorem d7_1 : decode jdk_37_method_2_code 1 = .ok (.getfield 7, 3) := by decide +kernel
theorem d7_4 : decode jdk_37_method_2_code 4 = .ok (.ireturn, 1) := by decide +kernel
theorem pn_7 : plainFor (⟨"java/lang/Enum", "ordinal", "()I"⟩ : MethodName) = true := plainFor_of_name (by first | (simp [plainName, overriddenIn]; done) | decide +kernel)
set_option maxRecDepth 65536 in
set_option maxHeartbeats 40000000 in
theorem rm7 (l : Launch) (Z : State) (a0 : Array Value) (hw : ∀ d ∈ tables_1, d.before a0 Z = true) (a1 : Addr) (p1 : Int32) (h0 : Heap) (n0 : Nat) (Z0 : n0 ≤ h0.size) (F1 : Fld Z h0 a1 "java/lang/Enum" "ordinal" "I" (.int p1)) :
    own_Met l Z (⟨"java/lang/Enum", "ordinal", "()I"⟩ : MethodName) jdk_37_method_2_code 1 (some .int) ({ frames := 0, cells := 0, slots := 0, locals := 0 } : Room) #[(.ref a1)] h0 (fun v h L => v = some (.int p1) ∧ Fr n0 L ∧ h = h0) := by
  refine own_body pn_7 ?_
  intro p e s m below meth c T0 hZ hx hby hml hown hnm hret hlk X0 e0 F hF
  have N0 := Fr.nil n0
  have K0 := Keep.refl h0 []
  refine own_cast (g' := (mkF m 0 #[.val (.ref a1)] [])) (by first | rfl | simp [entryFrame, mkF, argsToLocals, Value.category]) ?_
  refine own_st (T' := T0) (g' := (mkF m 1 #[.val (.ref a1)] [(.ref a1)])) (fun t9 k9 => XS.aloadN X0.here hx rfl (hb hby d7_0) rfl rfl k9) ?_
  obtain ⟨T1, X1, e1, st1⟩ := getF X0 hx hZ hown (host := "") (Or.inl (hw _ (List.mem_of_getElem? (i := 44) rfl))) Via.refl e0 F1 (g := (mkF m 1 #[.val (.ref a1)] [(.ref a1)])) rfl rfl (hb hby d7_1)
  refine own_st (T' := T1) (g' := (mkF m 4 #[.val (.ref a1)] [(.int p1)])) (fun t9 k9 => st1 t9 k9) ?_
  refine own_ret (v := some (.int p1)) hF X1 (own_some hret) hlk (fun fs hr => retI X1 hx hret (hb hby d7_4) hr) ?_ (by decide) (by decide)
  try rw [e1]
  exact ⟨rfl, N0, rfl⟩
theorem d4_0 : decode prog_1_method_4_code 0 = .ok (.aload_n 1, 1) := by decide +kernel
theorem d4_1 : decode prog_1_method_4_code 1 = .ok (.invokevirtual 32, 3) := by decide +kernel
theorem d4_4 : decode prog_1_method_4_code 4 = .ok (.ifCond .ne 10, 3) := by decide +kernel
theorem d4_7 : decode prog_1_method_4_code 7 = .ok (.aload_n 2, 1) := by decide +kernel
theorem d4_8 : decode prog_1_method_4_code 8 = .ok (.invokevirtual 32, 3) := by decide +kernel
theorem d4_11 : decode prog_1_method_4_code 11 = .ok (.ifCond .ne 7, 3) := by decide +kernel
theorem d4_14 : decode prog_1_method_4_code 14 = .ok (.iconst 1, 1) := by decide +kernel
theorem d4_15 : decode prog_1_method_4_code 15 = .ok (.goto 4, 3) := by decide +kernel
theorem d4_18 : decode prog_1_method_4_code 18 = .ok (.iconst 0, 1) := by decide +kernel
theorem d4_19 : decode prog_1_method_4_code 19 = .ok (.istore_n 3, 1) := by decide +kernel
theorem d4_20 : decode prog_1_method_4_code 20 = .ok (.aload_n 1, 1) := by decide +kernel
theorem d4_21 : decode prog_1_method_4_code 21 = .ok (.invokevirtual 38, 3) := by decide +kernel
theorem d4_24 : decode prog_1_method_4_code 24 = .ok (.ifCond .gt 10, 3) := by decide +kernel
theorem d4_27 : decode prog_1_method_4_code 27 = .ok (.aload_n 2, 1) := by decide +kernel
theorem d4_28 : decode prog_1_method_4_code 28 = .ok (.invokevirtual 38, 3) := by decide +kernel
theorem d4_31 : decode prog_1_method_4_code 31 = .ok (.ifCond .ne 7, 3) := by decide +kernel
theorem d4_34 : decode prog_1_method_4_code 34 = .ok (.iconst 1, 1) := by decide +kernel
theorem d4_35 : decode prog_1_method_4_code 35 = .ok (.goto 4, 3) := by decide +kernel
theorem d4_38 : decode prog_1_method_4_code 38 = .ok (.iconst 0, 1) := by decide +kernel
theorem d4_39 : decode prog_1_method_4_code 39 = .ok (.istore 4, 2) := by decide +kernel
theorem d4_41 : decode prog_1_method_4_code 41 = .ok (.aload_n 0, 1) := by decide +kernel
theorem d4_42 : decode prog_1_method_4_code 42 = .ok (.invokevirtual 42, 3) := by decide +kernel
theorem d4_45 : decode prog_1_method_4_code 45 = .ok (.tableswitch 27 0 2 #[37, 41, 45], 27) := by decide +kernel
theorem d4_72 : decode prog_1_method_4_code 72 = .ok (.new 45, 3) := by decide +kernel
theorem d4_75 : decode prog_1_method_4_code 75 = .ok (.dup, 1) := by decide +kernel
theorem d4_76 : decode prog_1_method_4_code 76 = .ok (.aconst_null, 1) := by decide +kernel
theorem d4_77 : decode prog_1_method_4_code 77 = .ok (.aconst_null, 1) := by decide +kernel
theorem d4_78 : decode prog_1_method_4_code 78 = .ok (.invokespecial 47, 3) := by decide +kernel
theorem d4_81 : decode prog_1_method_4_code 81 = .ok (.athrow, 1) := by decide +kernel
theorem d4_82 : decode prog_1_method_4_code 82 = .ok (.iconst 1, 1) := by decide +kernel
theorem d4_83 : decode prog_1_method_4_code 83 = .ok (.goto 21, 3) := by decide +kernel
theorem d4_86 : decode prog_1_method_4_code 86 = .ok (.iload_n 3, 1) := by decide +kernel
theorem d4_87 : decode prog_1_method_4_code 87 = .ok (.goto 17, 3) := by decide +kernel
theorem d4_90 : decode prog_1_method_4_code 90 = .ok (.iload_n 3, 1) := by decide +kernel
theorem d4_91 : decode prog_1_method_4_code 91 = .ok (.ifCond .eq 12, 3) := by decide +kernel
theorem d4_94 : decode prog_1_method_4_code 94 = .ok (.iload 4, 2) := by decide +kernel
theorem d4_96 : decode prog_1_method_4_code 96 = .ok (.ifCond .eq 7, 3) := by decide +kernel
theorem d4_99 : decode prog_1_method_4_code 99 = .ok (.iconst 1, 1) := by decide +kernel
theorem d4_100 : decode prog_1_method_4_code 100 = .ok (.goto 4, 3) := by decide +kernel
theorem d4_103 : decode prog_1_method_4_code 103 = .ok (.iconst 0, 1) := by decide +kernel
theorem d4_104 : decode prog_1_method_4_code 104 = .ok (.ireturn, 1) := by decide +kernel
theorem pn_4 : plainFor (⟨"com/example/semverdict/semverdict/change/Asked", "holds", "(Lcom/example/semverdict/semverdict/change/Probe;Lcom/example/semverdict/semverdict/change/Probe;)Z"⟩ : MethodName) = true := plainFor_of_name (by first | (simp [plainName, overriddenIn]; done) | decide +kernel)
set_option maxRecDepth 65536 in
set_option maxHeartbeats 40000000 in
theorem rm4 (l : Launch) (Z : State) (a0 : Array Value) (hw : ∀ d ∈ tables_1, d.before a0 Z = true) (a1 a2 a3 : Addr) (od tc tr fc fr : Int32) (h0 : Heap) (n0 : Nat) (Z0 : n0 ≤ h0.size) (E1 : Exa Z h0 a1 "com/example/semverdict/semverdict/change/Asked") (E2 : Exa Z h0 a2 "com/example/semverdict/semverdict/change/Probe") (E3 : Exa Z h0 a3 "com/example/semverdict/semverdict/change/Probe") (F1 : Fld Z h0 a1 "java/lang/Enum" "ordinal" "I" (.int od)) (Fc2 : Fld Z h0 a2 "com/example/semverdict/semverdict/change/Probe" "changes" "I" (.int tc)) (Fr2 : Fld Z h0 a2 "com/example/semverdict/semverdict/change/Probe" "rejecting" "Z" (.int tr)) (Fc3 : Fld Z h0 a3 "com/example/semverdict/semverdict/change/Probe" "changes" "I" (.int fc)) (Fr3 : Fld Z h0 a3 "com/example/semverdict/semverdict/change/Probe" "rejecting" "Z" (.int fr)) (hz2 : nar .boolean tr = tr) (hz3 : nar .boolean fr = fr) (ho : od = 0 ∨ od = 1 ∨ od = 2) :
    own_Met l Z (⟨"com/example/semverdict/semverdict/change/Asked", "holds", "(Lcom/example/semverdict/semverdict/change/Probe;Lcom/example/semverdict/semverdict/change/Probe;)Z"⟩ : MethodName) prog_1_method_4_code 5 (some .boolean) ({ frames := 1, cells := 0, slots := 0, locals := 12 } : Room) #[(.ref a1), (.ref a2), (.ref a3)] h0 (fun v h L => ∃ z, v = some (.int z) ∧ Fr n0 L ∧ h = h0 ∧ own_B z (od = 0 ∨ (od = 1 ∧ (¬ tr = 0 ∨ fr = 0)) ∨ (od = 2 ∧ (¬ tr = 0 ∨ fr = 0) ∧ ((0 : Int32) < tc ∨ fc = 0)))) := by
  refine own_body pn_4 ?_
  intro p e s m below meth c T0 hZ hx hby hml hown hnm hret hlk X0 e0 F hF
  have N0 := Fr.nil n0
  have K0 := Keep.refl h0 []
  refine own_cast (g' := (mkF m 0 #[.val (.ref a1), .val (.ref a2), .val (.ref a3), .unset, .unset] [])) (by first | rfl | simp [entryFrame, mkF, argsToLocals, Value.category]) ?_
  have j19 : ∀ (T1 : State) (L1 : List Loc) (z3 : Int32), Stand p l e ({ frames := 1, cells := 0, slots := 0, locals := 12 } : Room) s m #[(.ref a1), (.ref a2), (.ref a3)] below meth c T1 L1 (0) (0) → T1.heap = h0 → Fr n0 L1 → (own_B z3 (¬ tr = 0 ∨ fr = 0)) → own_Go p e below F T1 (mkF m 19 #[.val (.ref a1), .val (.ref a2), .val (.ref a3), .unset, .unset] [(.int z3)]) := by
    intro T1 L1 z3 X1 e1 N1 hz
    refine own_st (T' := T1) (g' := (mkF m 20 #[.val (.ref a1), .val (.ref a2), .val (.ref a3), .val (.int z3), .unset] [])) (fun t9 k9 => XS.istoreN X1.here hx rfl (hb hby d4_19) rfl (l' := #[.val (.ref a1), .val (.ref a2), .val (.ref a3), .val (.int z3), .unset]) rfl k9) ?_
    have j39 : ∀ (T2 : State) (L2 : List Loc) (z4 : Int32), Stand p l e ({ frames := 1, cells := 0, slots := 0, locals := 12 } : Room) s m #[(.ref a1), (.ref a2), (.ref a3)] below meth c T2 L2 (0) (0) → T2.heap = h0 → Fr n0 L2 → (own_B z4 ((0 : Int32) < tc ∨ fc = 0)) → own_Go p e below F T2 (mkF m 39 #[.val (.ref a1), .val (.ref a2), .val (.ref a3), .val (.int z3), .unset] [(.int z4)]) := by
      intro T2 L2 z4 X2 e2 N2 hy
      refine own_st (T' := T2) (g' := (mkF m 41 #[.val (.ref a1), .val (.ref a2), .val (.ref a3), .val (.int z3), .val (.int z4)] [])) (fun t9 k9 => XS.istore X2.here hx rfl (hb hby d4_39) rfl (l' := #[.val (.ref a1), .val (.ref a2), .val (.ref a3), .val (.int z3), .val (.int z4)]) rfl k9) ?_
      refine own_st (T' := T2) (g' := (mkF m 42 #[.val (.ref a1), .val (.ref a2), .val (.ref a3), .val (.int z3), .val (.int z4)] [(.ref a1)])) (fun t9 k9 => XS.aloadN X2.here hx rfl (hb hby d4_41) rfl rfl k9) ?_
      obtain ⟨cq3, kq3, qa3, qb3, qc3⟩ := isOf hZ e2 E1
      obtain ⟨_, _, ⟨T3, L3, k3, n3⟩, -, X3, ⟨Lc3, hQ3, l3, y3, z3⟩, st3⟩ := X2.virtualBackUp hx (x := (⟨"com/example/semverdict/semverdict/change/Asked", "ordinal", "()I"⟩ : MethodName)) (y := (⟨"java/lang/Enum", "ordinal", "()I"⟩ : MethodName)) (owner := "java/lang/Enum") hown (mvT hZ (hw _ (List.mem_of_getElem? (i := 37) rfl))) (mvT hZ (hw _ (List.mem_of_getElem? (i := 38) rfl))) (mvT hZ (hw _ (List.mem_of_getElem? (i := 39) rfl))) (by decide) (mvT hZ (hw _ (List.mem_of_getElem? (i := 41) rfl))) (mvT hZ (hw _ (List.mem_of_getElem? (i := 40) rfl))) (own_back (W := 0) (rm7 l Z a0 hw a1 od h0 n0 Z0 F1) hZ (hw _ (List.mem_of_getElem? (i := 43) rfl)) (hw _ (List.mem_of_getElem? (i := 42) rfl)) (by decide) (by decide)) qa3 qc3 (g := (mkF m 42 #[.val (.ref a1), .val (.ref a2), .val (.ref a3), .val (.int z3), .val (.int z4)] [(.ref a1)])) rfl (by rw [hml]; rfl) (Steps.refl _) (argsL := []) (rest := []) (lenOf pd_4 rfl) rfl (by show 2 * 0 + _ ≤ _; exact Nat.le_of_eq rfl) (hb hby d4_42) (fun _ _ => ⟨rfl, e2, (Nat.le_of_ble_eq_true rfl), (Nat.le_of_ble_eq_true rfl)⟩)
      dsimp only [Pt.U, Pt.locs, Pt.cells, Pt.slots] at X3 l3 y3 z3 st3 hQ3
      subst l3 y3 z3
      obtain ⟨rfl, Nq3, he3⟩ := hQ3
      have N3 := Fr.app N2 Nq3
      have e3 : T3.heap = h0 := he3
      refine own_st (T' := T3) (g' := (mkF m 45 #[.val (.ref a1), .val (.ref a2), .val (.ref a3), .val (.int z3), .val (.int z4)] [(.int od)])) (fun t9 k9 => st3.trans k9) ?_
      rcases ho with rfl | rfl | rfl
      · refine own_st (T' := T3) (g' := (mkF m 82 #[.val (.ref a1), .val (.ref a2), .val (.ref a3), .val (.int z3), .val (.int z4)] [])) (fun t9 k9 => XS.tswIn X3.here hx rfl (pc0 := 45) (pc' := 82) rfl (hb hby d4_45) rfl (by decide) rfl (by decide) (by decide) k9) ?_
        refine own_st (T' := T3) (g' := (mkF m 83 #[.val (.ref a1), .val (.ref a2), .val (.ref a3), .val (.int z3), .val (.int z4)] [(.int (1 : Int32))])) (fun t9 k9 => XS.iconst X3.here hx rfl (hb hby d4_82) k9) ?_
        refine own_st (T' := T3) (g' := (mkF m 104 #[.val (.ref a1), .val (.ref a2), .val (.ref a3), .val (.int z3), .val (.int z4)] [(.int (1 : Int32))])) (fun t9 k9 => XS.goto X3.here hx rfl (pc0 := 83) (pc' := 104) rfl (hb hby d4_83) (by decide) (by decide) k9) ?_
        refine own_ret (v := some (.int (1 : Int32))) hF X3 (own_some hret) hlk (fun fs hr => retN X3 hx (t := .boolean) hret (by simp) (hb hby d4_104) hr) ?_ (by decide) (by decide)
        try rw [e3]
        exact ⟨_, rfl, N3, rfl, Or.inl ⟨rfl, Or.inl rfl⟩⟩
      · refine own_st (T' := T3) (g' := (mkF m 86 #[.val (.ref a1), .val (.ref a2), .val (.ref a3), .val (.int z3), .val (.int z4)] [])) (fun t9 k9 => XS.tswIn X3.here hx rfl (pc0 := 45) (pc' := 86) rfl (hb hby d4_45) rfl (by decide) rfl (by decide) (by decide) k9) ?_
        rcases hz with ⟨rfl, hz⟩ | ⟨rfl, hz⟩
        · show own_Go p e below F T3 (mkF m 86 #[.val (.ref a1), .val (.ref a2), .val (.ref a3), .val (.int (1 : Int32)), .val (.int z4)] [])
          refine own_st (T' := T3) (g' := (mkF m 87 #[.val (.ref a1), .val (.ref a2), .val (.ref a3), .val (.int (1 : Int32)), .val (.int z4)] [(.int (1 : Int32))])) (fun t9 k9 => XS.iloadN X3.here hx rfl (hb hby d4_86) rfl k9) ?_
          refine own_st (T' := T3) (g' := (mkF m 104 #[.val (.ref a1), .val (.ref a2), .val (.ref a3), .val (.int (1 : Int32)), .val (.int z4)] [(.int (1 : Int32))])) (fun t9 k9 => XS.goto X3.here hx rfl (pc0 := 87) (pc' := 104) rfl (hb hby d4_87) (by decide) (by decide) k9) ?_
          refine own_ret (v := some (.int (1 : Int32))) hF X3 (own_some hret) hlk (fun fs hr => retN X3 hx (t := .boolean) hret (by simp) (hb hby d4_104) hr) ?_ (by decide) (by decide)
          try rw [e3]
          exact ⟨_, rfl, N3, rfl, Or.inl ⟨rfl, Or.inr (Or.inl ⟨rfl, hz⟩)⟩⟩
        · show own_Go p e below F T3 (mkF m 86 #[.val (.ref a1), .val (.ref a2), .val (.ref a3), .val (.int (0 : Int32)), .val (.int z4)] [])
          refine own_st (T' := T3) (g' := (mkF m 87 #[.val (.ref a1), .val (.ref a2), .val (.ref a3), .val (.int (0 : Int32)), .val (.int z4)] [(.int (0 : Int32))])) (fun t9 k9 => XS.iloadN X3.here hx rfl (hb hby d4_86) rfl k9) ?_
          refine own_st (T' := T3) (g' := (mkF m 104 #[.val (.ref a1), .val (.ref a2), .val (.ref a3), .val (.int (0 : Int32)), .val (.int z4)] [(.int (0 : Int32))])) (fun t9 k9 => XS.goto X3.here hx rfl (pc0 := 87) (pc' := 104) rfl (hb hby d4_87) (by decide) (by decide) k9) ?_
          refine own_ret (v := some (.int (0 : Int32))) hF X3 (own_some hret) hlk (fun fs hr => retN X3 hx (t := .boolean) hret (by simp) (hb hby d4_104) hr) ?_ (by decide) (by decide)
          try rw [e3]
          refine ⟨_, rfl, N3, rfl, Or.inr ⟨rfl, ?_⟩⟩
          rintro (q | ⟨q, r⟩ | ⟨q, r⟩)
          · exact absurd q (by decide)
          · exact hz r
          · exact absurd q (by decide)
      · refine own_st (T' := T3) (g' := (mkF m 90 #[.val (.ref a1), .val (.ref a2), .val (.ref a3), .val (.int z3), .val (.int z4)] [])) (fun t9 k9 => XS.tswIn X3.here hx rfl (pc0 := 45) (pc' := 90) rfl (hb hby d4_45) rfl (by decide) rfl (by decide) (by decide) k9) ?_
        refine own_st (T' := T3) (g' := (mkF m 91 #[.val (.ref a1), .val (.ref a2), .val (.ref a3), .val (.int z3), .val (.int z4)] [(.int z3)])) (fun t9 k9 => XS.iloadN X3.here hx rfl (hb hby d4_90) rfl k9) ?_
        by_cases h3 : z3 = (0 : Int32)
        · refine own_st (T' := T3) (g' := (mkF m 103 #[.val (.ref a1), .val (.ref a2), .val (.ref a3), .val (.int z3), .val (.int z4)] [])) (fun t9 k9 => XS.ifYes X3.here hx rfl (pc0 := 91) (pc' := 103) rfl (hb hby d4_91) rfl ((if0 _ _).trans (teq h3).1) (by decide) (by decide) k9) ?_
          refine own_st (T' := T3) (g' := (mkF m 104 #[.val (.ref a1), .val (.ref a2), .val (.ref a3), .val (.int z3), .val (.int z4)] [(.int (0 : Int32))])) (fun t9 k9 => XS.iconst X3.here hx rfl (hb hby d4_103) k9) ?_
          refine own_ret (v := some (.int (0 : Int32))) hF X3 (own_some hret) hlk (fun fs hr => retN X3 hx (t := .boolean) hret (by simp) (hb hby d4_104) hr) ?_ (by decide) (by decide)
          try rw [e3]
          refine ⟨_, rfl, N3, rfl, Or.inr ⟨rfl, ?_⟩⟩
          rintro (q | ⟨q, r⟩ | ⟨q, r⟩)
          · exact absurd q (by decide)
          · exact absurd q (by decide)
          · rcases hz with ⟨hz, -⟩ | ⟨-, hz⟩
            · rw [hz] at h3; exact absurd h3 (by decide)
            · exact hz r.1
        · refine own_st (T' := T3) (g' := (mkF m 94 #[.val (.ref a1), .val (.ref a2), .val (.ref a3), .val (.int z3), .val (.int z4)] [])) (fun t9 k9 => XS.ifNo X3.here hx rfl (hb hby d4_91) rfl ((if0 _ _).trans (feq h3).1) k9) ?_
          refine own_st (T' := T3) (g' := (mkF m 96 #[.val (.ref a1), .val (.ref a2), .val (.ref a3), .val (.int z3), .val (.int z4)] [(.int z4)])) (fun t9 k9 => XS.iload X3.here hx rfl (hb hby d4_94) rfl k9) ?_
          by_cases h4 : z4 = (0 : Int32)
          · refine own_st (T' := T3) (g' := (mkF m 103 #[.val (.ref a1), .val (.ref a2), .val (.ref a3), .val (.int z3), .val (.int z4)] [])) (fun t9 k9 => XS.ifYes X3.here hx rfl (pc0 := 96) (pc' := 103) rfl (hb hby d4_96) rfl ((if0 _ _).trans (teq h4).1) (by decide) (by decide) k9) ?_
            refine own_st (T' := T3) (g' := (mkF m 104 #[.val (.ref a1), .val (.ref a2), .val (.ref a3), .val (.int z3), .val (.int z4)] [(.int (0 : Int32))])) (fun t9 k9 => XS.iconst X3.here hx rfl (hb hby d4_103) k9) ?_
            refine own_ret (v := some (.int (0 : Int32))) hF X3 (own_some hret) hlk (fun fs hr => retN X3 hx (t := .boolean) hret (by simp) (hb hby d4_104) hr) ?_ (by decide) (by decide)
            try rw [e3]
            refine ⟨_, rfl, N3, rfl, Or.inr ⟨rfl, ?_⟩⟩
            rintro (q | ⟨q, r⟩ | ⟨q, r⟩)
            · exact absurd q (by decide)
            · exact absurd q (by decide)
            · rcases hy with ⟨hy, -⟩ | ⟨-, hy⟩
              · rw [hy] at h4; exact absurd h4 (by decide)
              · exact hy r.2
          · refine own_st (T' := T3) (g' := (mkF m 99 #[.val (.ref a1), .val (.ref a2), .val (.ref a3), .val (.int z3), .val (.int z4)] [])) (fun t9 k9 => XS.ifNo X3.here hx rfl (hb hby d4_96) rfl ((if0 _ _).trans (feq h4).1) k9) ?_
            refine own_st (T' := T3) (g' := (mkF m 100 #[.val (.ref a1), .val (.ref a2), .val (.ref a3), .val (.int z3), .val (.int z4)] [(.int (1 : Int32))])) (fun t9 k9 => XS.iconst X3.here hx rfl (hb hby d4_99) k9) ?_
            refine own_st (T' := T3) (g' := (mkF m 104 #[.val (.ref a1), .val (.ref a2), .val (.ref a3), .val (.int z3), .val (.int z4)] [(.int (1 : Int32))])) (fun t9 k9 => XS.goto X3.here hx rfl (pc0 := 100) (pc' := 104) rfl (hb hby d4_100) (by decide) (by decide) k9) ?_
            refine own_ret (v := some (.int (1 : Int32))) hF X3 (own_some hret) hlk (fun fs hr => retN X3 hx (t := .boolean) hret (by simp) (hb hby d4_104) hr) ?_ (by decide) (by decide)
            try rw [e3]
            refine ⟨_, rfl, N3, rfl, Or.inl ⟨rfl, Or.inr (Or.inr ⟨rfl, ?_, ?_⟩)⟩⟩
            · rcases hz with ⟨-, hz⟩ | ⟨hz, -⟩
              · exact hz
              · exact absurd hz h3
            · rcases hy with ⟨-, hy⟩ | ⟨hy, -⟩
              · exact hy
              · exact absurd hy h4
    refine own_st (T' := T1) (g' := (mkF m 21 #[.val (.ref a1), .val (.ref a2), .val (.ref a3), .val (.int z3), .unset] [(.ref a2)])) (fun t9 k9 => XS.aloadN X1.here hx rfl (hb hby d4_20) rfl rfl k9) ?_
    obtain ⟨cq4, kq4, qa4, qb4, qc4⟩ := isOf hZ e1 E2
    obtain ⟨_, _, ⟨T4, L4, k4, n4⟩, -, X4, ⟨Lc4, hQ4, l4, y4, z4⟩, st4⟩ := X1.virtualBack hx (y := (⟨"com/example/semverdict/semverdict/change/Probe", "changes", "()I"⟩ : MethodName)) (z := (⟨"com/example/semverdict/semverdict/change/Probe", "changes", "()I"⟩ : MethodName)) hown (mvT hZ (hw _ (List.mem_of_getElem? (i := 32) rfl))) (mvT hZ (hw _ (List.mem_of_getElem? (i := 33) rfl))) (notFace_of_selects (args := #[]) (mvT hZ (hw _ (List.mem_of_getElem? (i := 35) rfl)))) (mvT hZ (hw _ (List.mem_of_getElem? (i := 35) rfl))) (mvT hZ (hw _ (List.mem_of_getElem? (i := 34) rfl))) (by decide) (own_back (W := 0) (rm6 l Z a0 hw a2 tc h0 n0 Z0 Fc2) hZ (hw _ (List.mem_of_getElem? (i := 36) rfl)) (hw _ (List.mem_of_getElem? (i := 6) rfl)) (by decide) (by decide)) qa4 qc4 (g := (mkF m 21 #[.val (.ref a1), .val (.ref a2), .val (.ref a3), .val (.int z3), .unset] [(.ref a2)])) rfl (by rw [hml]; rfl) (Steps.refl _) (argsL := []) (rest := []) (lenOf pd_4 rfl) rfl (by show 2 * 0 + _ ≤ _; exact Nat.le_of_eq rfl) (hb hby d4_21) (fun _ _ => ⟨rfl, e1, (Nat.le_of_ble_eq_true rfl), (Nat.le_of_ble_eq_true rfl)⟩)
    dsimp only [Pt.U, Pt.locs, Pt.cells, Pt.slots] at X4 l4 y4 z4 st4 hQ4
    subst l4 y4 z4
    obtain ⟨rfl, Nq4, he4⟩ := hQ4
    have N4 := Fr.app N1 Nq4
    have e4 : T4.heap = h0 := he4
    refine own_st (T' := T4) (g' := (mkF m 24 #[.val (.ref a1), .val (.ref a2), .val (.ref a3), .val (.int z3), .unset] [(.int tc)])) (fun t9 k9 => st4.trans k9) ?_
    by_cases ht : (0 : Int32) < tc
    · refine own_st (T' := T4) (g' := (mkF m 34 #[.val (.ref a1), .val (.ref a2), .val (.ref a3), .val (.int z3), .unset] [])) (fun t9 k9 => XS.ifYes X4.here hx rfl (pc0 := 24) (pc' := 34) rfl (hb hby d4_24) rfl ((if0 _ _).trans (tlt ht).2.2.1) (by decide) (by decide) k9) ?_
      refine own_st (T' := T4) (g' := (mkF m 35 #[.val (.ref a1), .val (.ref a2), .val (.ref a3), .val (.int z3), .unset] [(.int (1 : Int32))])) (fun t9 k9 => XS.iconst X4.here hx rfl (hb hby d4_34) k9) ?_
      refine own_st (T' := T4) (g' := (mkF m 39 #[.val (.ref a1), .val (.ref a2), .val (.ref a3), .val (.int z3), .unset] [(.int (1 : Int32))])) (fun t9 k9 => XS.goto X4.here hx rfl (pc0 := 35) (pc' := 39) rfl (hb hby d4_35) (by decide) (by decide) k9) ?_
      exact j39 _ _ _ X4 e4 N4 (Or.inl ⟨rfl, Or.inl ht⟩)
    · refine own_st (T' := T4) (g' := (mkF m 27 #[.val (.ref a1), .val (.ref a2), .val (.ref a3), .val (.int z3), .unset] [])) (fun t9 k9 => XS.ifNo X4.here hx rfl (hb hby d4_24) rfl ((if0 _ _).trans (flt ht).2.2.1) k9) ?_
      refine own_st (T' := T4) (g' := (mkF m 28 #[.val (.ref a1), .val (.ref a2), .val (.ref a3), .val (.int z3), .unset] [(.ref a3)])) (fun t9 k9 => XS.aloadN X4.here hx rfl (hb hby d4_27) rfl rfl k9) ?_
      obtain ⟨cq5, kq5, qa5, qb5, qc5⟩ := isOf hZ e4 E3
      obtain ⟨_, _, ⟨T5, L5, k5, n5⟩, -, X5, ⟨Lc5, hQ5, l5, y5, z5⟩, st5⟩ := X4.virtualBack hx (y := (⟨"com/example/semverdict/semverdict/change/Probe", "changes", "()I"⟩ : MethodName)) (z := (⟨"com/example/semverdict/semverdict/change/Probe", "changes", "()I"⟩ : MethodName)) hown (mvT hZ (hw _ (List.mem_of_getElem? (i := 32) rfl))) (mvT hZ (hw _ (List.mem_of_getElem? (i := 33) rfl))) (notFace_of_selects (args := #[]) (mvT hZ (hw _ (List.mem_of_getElem? (i := 35) rfl)))) (mvT hZ (hw _ (List.mem_of_getElem? (i := 35) rfl))) (mvT hZ (hw _ (List.mem_of_getElem? (i := 34) rfl))) (by decide) (own_back (W := 0) (rm6 l Z a0 hw a3 fc h0 n0 Z0 Fc3) hZ (hw _ (List.mem_of_getElem? (i := 36) rfl)) (hw _ (List.mem_of_getElem? (i := 6) rfl)) (by decide) (by decide)) qa5 qc5 (g := (mkF m 28 #[.val (.ref a1), .val (.ref a2), .val (.ref a3), .val (.int z3), .unset] [(.ref a3)])) rfl (by rw [hml]; rfl) (Steps.refl _) (argsL := []) (rest := []) (lenOf pd_4 rfl) rfl (by show 2 * 0 + _ ≤ _; exact Nat.le_of_eq rfl) (hb hby d4_28) (fun _ _ => ⟨rfl, e4, (Nat.le_of_ble_eq_true rfl), (Nat.le_of_ble_eq_true rfl)⟩)
      dsimp only [Pt.U, Pt.locs, Pt.cells, Pt.slots] at X5 l5 y5 z5 st5 hQ5
      subst l5 y5 z5
      obtain ⟨rfl, Nq5, he5⟩ := hQ5
      have N5 := Fr.app N4 Nq5
      have e5 : T5.heap = h0 := he5
      refine own_st (T' := T5) (g' := (mkF m 31 #[.val (.ref a1), .val (.ref a2), .val (.ref a3), .val (.int z3), .unset] [(.int fc)])) (fun t9 k9 => st5.trans k9) ?_
      by_cases hf : fc = (0 : Int32)
      · refine own_st (T' := T5) (g' := (mkF m 34 #[.val (.ref a1), .val (.ref a2), .val (.ref a3), .val (.int z3), .unset] [])) (fun t9 k9 => XS.ifNo X5.here hx rfl (hb hby d4_31) rfl ((if0 _ _).trans (teq hf).2) k9) ?_
        refine own_st (T' := T5) (g' := (mkF m 35 #[.val (.ref a1), .val (.ref a2), .val (.ref a3), .val (.int z3), .unset] [(.int (1 : Int32))])) (fun t9 k9 => XS.iconst X5.here hx rfl (hb hby d4_34) k9) ?_
        refine own_st (T' := T5) (g' := (mkF m 39 #[.val (.ref a1), .val (.ref a2), .val (.ref a3), .val (.int z3), .unset] [(.int (1 : Int32))])) (fun t9 k9 => XS.goto X5.here hx rfl (pc0 := 35) (pc' := 39) rfl (hb hby d4_35) (by decide) (by decide) k9) ?_
        exact j39 _ _ _ X5 e5 N5 (Or.inl ⟨rfl, Or.inr hf⟩)
      · refine own_st (T' := T5) (g' := (mkF m 38 #[.val (.ref a1), .val (.ref a2), .val (.ref a3), .val (.int z3), .unset] [])) (fun t9 k9 => XS.ifYes X5.here hx rfl (pc0 := 31) (pc' := 38) rfl (hb hby d4_31) rfl ((if0 _ _).trans (feq hf).2) (by decide) (by decide) k9) ?_
        refine own_st (T' := T5) (g' := (mkF m 39 #[.val (.ref a1), .val (.ref a2), .val (.ref a3), .val (.int z3), .unset] [(.int (0 : Int32))])) (fun t9 k9 => XS.iconst X5.here hx rfl (hb hby d4_38) k9) ?_
        exact j39 _ _ _ X5 e5 N5 (Or.inr ⟨rfl, fun q => q.elim ht hf⟩)
  refine own_st (T' := T0) (g' := (mkF m 1 #[.val (.ref a1), .val (.ref a2), .val (.ref a3), .unset, .unset] [(.ref a2)])) (fun t9 k9 => XS.aloadN X0.here hx rfl (hb hby d4_0) rfl rfl k9) ?_
  obtain ⟨cq6, kq6, qa6, qb6, qc6⟩ := isOf hZ e0 E2
  obtain ⟨_, _, ⟨T6, L6, k6, n6⟩, -, X6, ⟨Lc6, hQ6, l6, y6, z6⟩, st6⟩ := X0.virtualBack hx (y := (⟨"com/example/semverdict/semverdict/change/Probe", "rejecting", "()Z"⟩ : MethodName)) (z := (⟨"com/example/semverdict/semverdict/change/Probe", "rejecting", "()Z"⟩ : MethodName)) hown (mvT hZ (hw _ (List.mem_of_getElem? (i := 27) rfl))) (mvT hZ (hw _ (List.mem_of_getElem? (i := 28) rfl))) (notFace_of_selects (args := #[]) (mvT hZ (hw _ (List.mem_of_getElem? (i := 30) rfl)))) (mvT hZ (hw _ (List.mem_of_getElem? (i := 30) rfl))) (mvT hZ (hw _ (List.mem_of_getElem? (i := 29) rfl))) (by decide) (own_back (W := 0) (rm5 l Z a0 hw a2 tr h0 n0 Z0 Fr2 hz2) hZ (hw _ (List.mem_of_getElem? (i := 31) rfl)) (hw _ (List.mem_of_getElem? (i := 6) rfl)) (by decide) (by decide)) qa6 qc6 (g := (mkF m 1 #[.val (.ref a1), .val (.ref a2), .val (.ref a3), .unset, .unset] [(.ref a2)])) rfl (by rw [hml]; rfl) (Steps.refl _) (argsL := []) (rest := []) (lenOf pd_3 rfl) rfl (by show 2 * 0 + _ ≤ _; exact Nat.le_of_eq rfl) (hb hby d4_1) (fun _ _ => ⟨rfl, e0, (Nat.le_of_ble_eq_true rfl), (Nat.le_of_ble_eq_true rfl)⟩)
  dsimp only [Pt.U, Pt.locs, Pt.cells, Pt.slots] at X6 l6 y6 z6 st6 hQ6
  subst l6 y6 z6
  obtain ⟨rfl, Nq6, he6⟩ := hQ6
  have N6 := Fr.app N0 Nq6
  have e6 : T6.heap = h0 := he6
  refine own_st (T' := T6) (g' := (mkF m 4 #[.val (.ref a1), .val (.ref a2), .val (.ref a3), .unset, .unset] [(.int tr)])) (fun t9 k9 => st6.trans k9) ?_
  by_cases ht : tr = (0 : Int32)
  · refine own_st (T' := T6) (g' := (mkF m 7 #[.val (.ref a1), .val (.ref a2), .val (.ref a3), .unset, .unset] [])) (fun t9 k9 => XS.ifNo X6.here hx rfl (hb hby d4_4) rfl ((if0 _ _).trans (teq ht).2) k9) ?_
    refine own_st (T' := T6) (g' := (mkF m 8 #[.val (.ref a1), .val (.ref a2), .val (.ref a3), .unset, .unset] [(.ref a3)])) (fun t9 k9 => XS.aloadN X6.here hx rfl (hb hby d4_7) rfl rfl k9) ?_
    obtain ⟨cq7, kq7, qa7, qb7, qc7⟩ := isOf hZ e6 E3
    obtain ⟨_, _, ⟨T7, L7, k7, n7⟩, -, X7, ⟨Lc7, hQ7, l7, y7, z7⟩, st7⟩ := X6.virtualBack hx (y := (⟨"com/example/semverdict/semverdict/change/Probe", "rejecting", "()Z"⟩ : MethodName)) (z := (⟨"com/example/semverdict/semverdict/change/Probe", "rejecting", "()Z"⟩ : MethodName)) hown (mvT hZ (hw _ (List.mem_of_getElem? (i := 27) rfl))) (mvT hZ (hw _ (List.mem_of_getElem? (i := 28) rfl))) (notFace_of_selects (args := #[]) (mvT hZ (hw _ (List.mem_of_getElem? (i := 30) rfl)))) (mvT hZ (hw _ (List.mem_of_getElem? (i := 30) rfl))) (mvT hZ (hw _ (List.mem_of_getElem? (i := 29) rfl))) (by decide) (own_back (W := 0) (rm5 l Z a0 hw a3 fr h0 n0 Z0 Fr3 hz3) hZ (hw _ (List.mem_of_getElem? (i := 31) rfl)) (hw _ (List.mem_of_getElem? (i := 6) rfl)) (by decide) (by decide)) qa7 qc7 (g := (mkF m 8 #[.val (.ref a1), .val (.ref a2), .val (.ref a3), .unset, .unset] [(.ref a3)])) rfl (by rw [hml]; rfl) (Steps.refl _) (argsL := []) (rest := []) (lenOf pd_3 rfl) rfl (by show 2 * 0 + _ ≤ _; exact Nat.le_of_eq rfl) (hb hby d4_8) (fun _ _ => ⟨rfl, e6, (Nat.le_of_ble_eq_true rfl), (Nat.le_of_ble_eq_true rfl)⟩)
    dsimp only [Pt.U, Pt.locs, Pt.cells, Pt.slots] at X7 l7 y7 z7 st7 hQ7
    subst l7 y7 z7
    obtain ⟨rfl, Nq7, he7⟩ := hQ7
    have N7 := Fr.app N6 Nq7
    have e7 : T7.heap = h0 := he7
    refine own_st (T' := T7) (g' := (mkF m 11 #[.val (.ref a1), .val (.ref a2), .val (.ref a3), .unset, .unset] [(.int fr)])) (fun t9 k9 => st7.trans k9) ?_
    by_cases hf : fr = (0 : Int32)
    · refine own_st (T' := T7) (g' := (mkF m 14 #[.val (.ref a1), .val (.ref a2), .val (.ref a3), .unset, .unset] [])) (fun t9 k9 => XS.ifNo X7.here hx rfl (hb hby d4_11) rfl ((if0 _ _).trans (teq hf).2) k9) ?_
      refine own_st (T' := T7) (g' := (mkF m 15 #[.val (.ref a1), .val (.ref a2), .val (.ref a3), .unset, .unset] [(.int (1 : Int32))])) (fun t9 k9 => XS.iconst X7.here hx rfl (hb hby d4_14) k9) ?_
      refine own_st (T' := T7) (g' := (mkF m 19 #[.val (.ref a1), .val (.ref a2), .val (.ref a3), .unset, .unset] [(.int (1 : Int32))])) (fun t9 k9 => XS.goto X7.here hx rfl (pc0 := 15) (pc' := 19) rfl (hb hby d4_15) (by decide) (by decide) k9) ?_
      exact j19 _ _ _ X7 e7 N7 (Or.inl ⟨rfl, Or.inr hf⟩)
    · refine own_st (T' := T7) (g' := (mkF m 18 #[.val (.ref a1), .val (.ref a2), .val (.ref a3), .unset, .unset] [])) (fun t9 k9 => XS.ifYes X7.here hx rfl (pc0 := 11) (pc' := 18) rfl (hb hby d4_11) rfl ((if0 _ _).trans (feq hf).2) (by decide) (by decide) k9) ?_
      refine own_st (T' := T7) (g' := (mkF m 19 #[.val (.ref a1), .val (.ref a2), .val (.ref a3), .unset, .unset] [(.int (0 : Int32))])) (fun t9 k9 => XS.iconst X7.here hx rfl (hb hby d4_18) k9) ?_
      exact j19 _ _ _ X7 e7 N7 (Or.inr ⟨rfl, fun q => q.elim (fun r => r ht) hf⟩)
  · refine own_st (T' := T6) (g' := (mkF m 14 #[.val (.ref a1), .val (.ref a2), .val (.ref a3), .unset, .unset] [])) (fun t9 k9 => XS.ifYes X6.here hx rfl (pc0 := 4) (pc' := 14) rfl (hb hby d4_4) rfl ((if0 _ _).trans (feq ht).2) (by decide) (by decide) k9) ?_
    refine own_st (T' := T6) (g' := (mkF m 15 #[.val (.ref a1), .val (.ref a2), .val (.ref a3), .unset, .unset] [(.int (1 : Int32))])) (fun t9 k9 => XS.iconst X6.here hx rfl (hb hby d4_14) k9) ?_
    refine own_st (T' := T6) (g' := (mkF m 19 #[.val (.ref a1), .val (.ref a2), .val (.ref a3), .unset, .unset] [(.int (1 : Int32))])) (fun t9 k9 => XS.goto X6.here hx rfl (pc0 := 15) (pc' := 19) rfl (hb hby d4_15) (by decide) (by decide) k9) ?_
    exact j19 _ _ _ X6 e6 N6 (Or.inl ⟨rfl, Or.inl ht⟩)
theorem pn_0 : plainFor (⟨"com/example/semverdict/semverdict/change/AskedHoldsPinLaw", "law", "(IIII)Z"⟩ : MethodName) = true := plainFor_of_name (by first | (simp [plainName, overriddenIn]; done) | decide +kernel)
set_option maxRecDepth 65536 in
set_option maxHeartbeats 40000000 in
theorem rm0 (l : Launch) (Z : State) (a0 : Array Value) (hw : ∀ d ∈ tables_1, d.before a0 Z = true) (p1 p2 p3 p4 : Int32) (c_NOTHING c_REJECTING c_CHANGES : Addr) (h0 : Heap) (n0 : Nat) (Z0 : n0 ≤ h0.size) (S_NOTHING : Sta Z h0 "com/example/semverdict/semverdict/change/Asked" "NOTHING" "Lcom/example/semverdict/semverdict/change/Asked;" (.ref c_NOTHING)) (E_NOTHING : Exa Z h0 c_NOTHING "com/example/semverdict/semverdict/change/Asked") (Fo_NOTHING : Fld Z h0 c_NOTHING "java/lang/Enum" "ordinal" "I" (.int (0 : Int32))) (S_REJECTING : Sta Z h0 "com/example/semverdict/semverdict/change/Asked" "REJECTING" "Lcom/example/semverdict/semverdict/change/Asked;" (.ref c_REJECTING)) (E_REJECTING : Exa Z h0 c_REJECTING "com/example/semverdict/semverdict/change/Asked") (Fo_REJECTING : Fld Z h0 c_REJECTING "java/lang/Enum" "ordinal" "I" (.int (1 : Int32))) (S_CHANGES : Sta Z h0 "com/example/semverdict/semverdict/change/Asked" "CHANGES" "Lcom/example/semverdict/semverdict/change/Asked;" (.ref c_CHANGES)) (E_CHANGES : Exa Z h0 c_CHANGES "com/example/semverdict/semverdict/change/Asked") (Fo_CHANGES : Fld Z h0 c_CHANGES "java/lang/Enum" "ordinal" "I" (.int (2 : Int32))) :
    own_Met l Z x code maxLocals ret room_1 #[(.int p1), (.int p2), (.int p3), (.int p4)] h0 (fun v h L => v = some (.int (1 : Int32)) ∧ Fr n0 L) := by
  refine own_body pn_0 ?_
  intro p e s m below meth c T0 hZ hx hby hml hown hnm hret hlk X0 e0 F hF
  have N0 := Fr.nil n0
  have K0 := Keep.refl h0 []
  refine own_cast (g' := (mkF m 0 #[.val (.int p1), .val (.int p2), .val (.int p3), .val (.int p4), .unset, .unset, .unset, .unset, .unset, .unset, .unset, .unset, .unset, .unset, .unset, .unset] [])) (by first | rfl | simp [entryFrame, mkF, argsToLocals, Value.category, maxLocals]) ?_
  refine own_st (T' := T0) (g' := (mkF m 1 #[.val (.int p1), .val (.int p2), .val (.int p3), .val (.int p4), .unset, .unset, .unset, .unset, .unset, .unset, .unset, .unset, .unset, .unset, .unset, .unset] [(.int p1)])) (fun t9 k9 => XS.iloadN X0.here hx rfl (hb hby at_0) rfl k9) ?_
  refine own_st (T' := T0) (g' := (mkF m 3 #[.val (.int p1), .val (.int p2), .val (.int p3), .val (.int p4), .unset, .unset, .unset, .unset, .unset, .unset, .unset, .unset, .unset, .unset, .unset, .unset] [(.int (2147483647 : Int32)), (.int p1)])) (fun t9 k9 => X0.ldcInt hx hown (mvT hZ (hw _ (List.mem_of_getElem? (i := 0) rfl))) (g := (mkF m 1 #[.val (.int p1), .val (.int p2), .val (.int p3), .val (.int p4), .unset, .unset, .unset, .unset, .unset, .unset, .unset, .unset, .unset, .unset, .unset, .unset] [(.int p1)])) rfl (hb hby at_1) t9 k9) ?_
  refine own_st (T' := T0) (g' := (mkF m 4 #[.val (.int p1), .val (.int p2), .val (.int p3), .val (.int p4), .unset, .unset, .unset, .unset, .unset, .unset, .unset, .unset, .unset, .unset, .unset, .unset] [(.int (p1 &&& (2147483647 : Int32)))])) (fun t9 k9 => XS.iand X0.here hx rfl (hb hby at_3) rfl k9) ?_
  refine own_st (T' := T0) (g' := (mkF m 5 #[.val (.int p1), .val (.int p2), .val (.int p3), .val (.int p4), .unset, .unset, .unset, .unset, .unset, .unset, .unset, .unset, .unset, .unset, .unset, .unset] [(.int (3 : Int32)), (.int (p1 &&& (2147483647 : Int32)))])) (fun t9 k9 => XS.iconst X0.here hx rfl (hb hby at_4) k9) ?_
  refine own_st (T' := T0) (g' := (mkF m 6 #[.val (.int p1), .val (.int p2), .val (.int p3), .val (.int p4), .unset, .unset, .unset, .unset, .unset, .unset, .unset, .unset, .unset, .unset, .unset, .unset] [(.int ((p1 &&& (2147483647 : Int32)) % (3 : Int32)))])) (fun t9 k9 => iremM X0 hx (g := (mkF m 5 #[.val (.int p1), .val (.int p2), .val (.int p3), .val (.int p4), .unset, .unset, .unset, .unset, .unset, .unset, .unset, .unset, .unset, .unset, .unset, .unset] [(.int (3 : Int32)), (.int (p1 &&& (2147483647 : Int32)))])) rfl (hb hby at_5) rfl (by decide) k9) ?_
  refine own_st (T' := T0) (g' := (mkF m 8 #[.val (.int p1), .val (.int p2), .val (.int p3), .val (.int p4), .val (.int ((p1 &&& (2147483647 : Int32)) % (3 : Int32))), .unset, .unset, .unset, .unset, .unset, .unset, .unset, .unset, .unset, .unset, .unset] [])) (fun t9 k9 => XS.istore X0.here hx rfl (hb hby at_6) rfl (l' := #[.val (.int p1), .val (.int p2), .val (.int p3), .val (.int p4), .val (.int ((p1 &&& (2147483647 : Int32)) % (3 : Int32))), .unset, .unset, .unset, .unset, .unset, .unset, .unset, .unset, .unset, .unset, .unset]) rfl k9) ?_
  refine own_st (T' := T0) (g' := (mkF m 9 #[.val (.int p1), .val (.int p2), .val (.int p3), .val (.int p4), .val (.int ((p1 &&& (2147483647 : Int32)) % (3 : Int32))), .unset, .unset, .unset, .unset, .unset, .unset, .unset, .unset, .unset, .unset, .unset] [(.int p2)])) (fun t9 k9 => XS.iloadN X0.here hx rfl (hb hby at_8) rfl k9) ?_
  refine own_st (T' := T0) (g' := (mkF m 11 #[.val (.int p1), .val (.int p2), .val (.int p3), .val (.int p4), .val (.int ((p1 &&& (2147483647 : Int32)) % (3 : Int32))), .unset, .unset, .unset, .unset, .unset, .unset, .unset, .unset, .unset, .unset, .unset] [(.int (2147483647 : Int32)), (.int p2)])) (fun t9 k9 => X0.ldcInt hx hown (mvT hZ (hw _ (List.mem_of_getElem? (i := 0) rfl))) (g := (mkF m 9 #[.val (.int p1), .val (.int p2), .val (.int p3), .val (.int p4), .val (.int ((p1 &&& (2147483647 : Int32)) % (3 : Int32))), .unset, .unset, .unset, .unset, .unset, .unset, .unset, .unset, .unset, .unset, .unset] [(.int p2)])) rfl (hb hby at_9) t9 k9) ?_
  refine own_st (T' := T0) (g' := (mkF m 12 #[.val (.int p1), .val (.int p2), .val (.int p3), .val (.int p4), .val (.int ((p1 &&& (2147483647 : Int32)) % (3 : Int32))), .unset, .unset, .unset, .unset, .unset, .unset, .unset, .unset, .unset, .unset, .unset] [(.int (p2 &&& (2147483647 : Int32)))])) (fun t9 k9 => XS.iand X0.here hx rfl (hb hby at_11) rfl k9) ?_
  refine own_st (T' := T0) (g' := (mkF m 14 #[.val (.int p1), .val (.int p2), .val (.int p3), .val (.int p4), .val (.int ((p1 &&& (2147483647 : Int32)) % (3 : Int32))), .val (.int (p2 &&& (2147483647 : Int32))), .unset, .unset, .unset, .unset, .unset, .unset, .unset, .unset, .unset, .unset] [])) (fun t9 k9 => XS.istore X0.here hx rfl (hb hby at_12) rfl (l' := #[.val (.int p1), .val (.int p2), .val (.int p3), .val (.int p4), .val (.int ((p1 &&& (2147483647 : Int32)) % (3 : Int32))), .val (.int (p2 &&& (2147483647 : Int32))), .unset, .unset, .unset, .unset, .unset, .unset, .unset, .unset, .unset, .unset]) rfl k9) ?_
  refine own_st (T' := T0) (g' := (mkF m 15 #[.val (.int p1), .val (.int p2), .val (.int p3), .val (.int p4), .val (.int ((p1 &&& (2147483647 : Int32)) % (3 : Int32))), .val (.int (p2 &&& (2147483647 : Int32))), .unset, .unset, .unset, .unset, .unset, .unset, .unset, .unset, .unset, .unset] [(.int p3)])) (fun t9 k9 => XS.iloadN X0.here hx rfl (hb hby at_14) rfl k9) ?_
  refine own_st (T' := T0) (g' := (mkF m 17 #[.val (.int p1), .val (.int p2), .val (.int p3), .val (.int p4), .val (.int ((p1 &&& (2147483647 : Int32)) % (3 : Int32))), .val (.int (p2 &&& (2147483647 : Int32))), .unset, .unset, .unset, .unset, .unset, .unset, .unset, .unset, .unset, .unset] [(.int (2147483647 : Int32)), (.int p3)])) (fun t9 k9 => X0.ldcInt hx hown (mvT hZ (hw _ (List.mem_of_getElem? (i := 0) rfl))) (g := (mkF m 15 #[.val (.int p1), .val (.int p2), .val (.int p3), .val (.int p4), .val (.int ((p1 &&& (2147483647 : Int32)) % (3 : Int32))), .val (.int (p2 &&& (2147483647 : Int32))), .unset, .unset, .unset, .unset, .unset, .unset, .unset, .unset, .unset, .unset] [(.int p3)])) rfl (hb hby at_15) t9 k9) ?_
  refine own_st (T' := T0) (g' := (mkF m 18 #[.val (.int p1), .val (.int p2), .val (.int p3), .val (.int p4), .val (.int ((p1 &&& (2147483647 : Int32)) % (3 : Int32))), .val (.int (p2 &&& (2147483647 : Int32))), .unset, .unset, .unset, .unset, .unset, .unset, .unset, .unset, .unset, .unset] [(.int (p3 &&& (2147483647 : Int32)))])) (fun t9 k9 => XS.iand X0.here hx rfl (hb hby at_17) rfl k9) ?_
  refine own_st (T' := T0) (g' := (mkF m 20 #[.val (.int p1), .val (.int p2), .val (.int p3), .val (.int p4), .val (.int ((p1 &&& (2147483647 : Int32)) % (3 : Int32))), .val (.int (p2 &&& (2147483647 : Int32))), .val (.int (p3 &&& (2147483647 : Int32))), .unset, .unset, .unset, .unset, .unset, .unset, .unset, .unset, .unset] [])) (fun t9 k9 => XS.istore X0.here hx rfl (hb hby at_18) rfl (l' := #[.val (.int p1), .val (.int p2), .val (.int p3), .val (.int p4), .val (.int ((p1 &&& (2147483647 : Int32)) % (3 : Int32))), .val (.int (p2 &&& (2147483647 : Int32))), .val (.int (p3 &&& (2147483647 : Int32))), .unset, .unset, .unset, .unset, .unset, .unset, .unset, .unset, .unset]) rfl k9) ?_
  refine own_st (T' := T0) (g' := (mkF m 21 #[.val (.int p1), .val (.int p2), .val (.int p3), .val (.int p4), .val (.int ((p1 &&& (2147483647 : Int32)) % (3 : Int32))), .val (.int (p2 &&& (2147483647 : Int32))), .val (.int (p3 &&& (2147483647 : Int32))), .unset, .unset, .unset, .unset, .unset, .unset, .unset, .unset, .unset] [(.int p4)])) (fun t9 k9 => XS.iloadN X0.here hx rfl (hb hby at_20) rfl k9) ?_
  refine own_st (T' := T0) (g' := (mkF m 22 #[.val (.int p1), .val (.int p2), .val (.int p3), .val (.int p4), .val (.int ((p1 &&& (2147483647 : Int32)) % (3 : Int32))), .val (.int (p2 &&& (2147483647 : Int32))), .val (.int (p3 &&& (2147483647 : Int32))), .unset, .unset, .unset, .unset, .unset, .unset, .unset, .unset, .unset] [(.int (1 : Int32)), (.int p4)])) (fun t9 k9 => XS.iconst X0.here hx rfl (hb hby at_21) k9) ?_
  refine own_st (T' := T0) (g' := (mkF m 23 #[.val (.int p1), .val (.int p2), .val (.int p3), .val (.int p4), .val (.int ((p1 &&& (2147483647 : Int32)) % (3 : Int32))), .val (.int (p2 &&& (2147483647 : Int32))), .val (.int (p3 &&& (2147483647 : Int32))), .unset, .unset, .unset, .unset, .unset, .unset, .unset, .unset, .unset] [(.int (p4 &&& (1 : Int32)))])) (fun t9 k9 => XS.iand X0.here hx rfl (hb hby at_22) rfl k9) ?_
  have j31 : ∀ (z7 : Int32), (z7 = 0 ∨ z7 = 1) → own_Go p e below F T0 (mkF m 31 #[.val (.int p1), .val (.int p2), .val (.int p3), .val (.int p4), .val (.int ((p1 &&& (2147483647 : Int32)) % (3 : Int32))), .val (.int (p2 &&& (2147483647 : Int32))), .val (.int (p3 &&& (2147483647 : Int32))), .unset, .unset, .unset, .unset, .unset, .unset, .unset, .unset, .unset] [(.int z7)]) := by
    intro z7 hz7
    refine own_st (T' := T0) (g' := (mkF m 33 #[.val (.int p1), .val (.int p2), .val (.int p3), .val (.int p4), .val (.int ((p1 &&& (2147483647 : Int32)) % (3 : Int32))), .val (.int (p2 &&& (2147483647 : Int32))), .val (.int (p3 &&& (2147483647 : Int32))), .val (.int z7), .unset, .unset, .unset, .unset, .unset, .unset, .unset, .unset] [])) (fun t9 k9 => XS.istore X0.here hx rfl (hb hby at_31) rfl (l' := #[.val (.int p1), .val (.int p2), .val (.int p3), .val (.int p4), .val (.int ((p1 &&& (2147483647 : Int32)) % (3 : Int32))), .val (.int (p2 &&& (2147483647 : Int32))), .val (.int (p3 &&& (2147483647 : Int32))), .val (.int z7), .unset, .unset, .unset, .unset, .unset, .unset, .unset, .unset]) rfl k9) ?_
    refine own_st (T' := T0) (g' := (mkF m 34 #[.val (.int p1), .val (.int p2), .val (.int p3), .val (.int p4), .val (.int ((p1 &&& (2147483647 : Int32)) % (3 : Int32))), .val (.int (p2 &&& (2147483647 : Int32))), .val (.int (p3 &&& (2147483647 : Int32))), .val (.int z7), .unset, .unset, .unset, .unset, .unset, .unset, .unset, .unset] [(.int p4)])) (fun t9 k9 => XS.iloadN X0.here hx rfl (hb hby at_33) rfl k9) ?_
    refine own_st (T' := T0) (g' := (mkF m 35 #[.val (.int p1), .val (.int p2), .val (.int p3), .val (.int p4), .val (.int ((p1 &&& (2147483647 : Int32)) % (3 : Int32))), .val (.int (p2 &&& (2147483647 : Int32))), .val (.int (p3 &&& (2147483647 : Int32))), .val (.int z7), .unset, .unset, .unset, .unset, .unset, .unset, .unset, .unset] [(.int (2 : Int32)), (.int p4)])) (fun t9 k9 => XS.iconst X0.here hx rfl (hb hby at_34) k9) ?_
    refine own_st (T' := T0) (g' := (mkF m 36 #[.val (.int p1), .val (.int p2), .val (.int p3), .val (.int p4), .val (.int ((p1 &&& (2147483647 : Int32)) % (3 : Int32))), .val (.int (p2 &&& (2147483647 : Int32))), .val (.int (p3 &&& (2147483647 : Int32))), .val (.int z7), .unset, .unset, .unset, .unset, .unset, .unset, .unset, .unset] [(.int (p4 &&& (2 : Int32)))])) (fun t9 k9 => XS.iand X0.here hx rfl (hb hby at_35) rfl k9) ?_
    have j44 : ∀ (z8 : Int32), (z8 = 0 ∨ z8 = 1) → own_Go p e below F T0 (mkF m 44 #[.val (.int p1), .val (.int p2), .val (.int p3), .val (.int p4), .val (.int ((p1 &&& (2147483647 : Int32)) % (3 : Int32))), .val (.int (p2 &&& (2147483647 : Int32))), .val (.int (p3 &&& (2147483647 : Int32))), .val (.int z7), .unset, .unset, .unset, .unset, .unset, .unset, .unset, .unset] [(.int z8)]) := by
      intro z8 hz8
      refine own_st (T' := T0) (g' := (mkF m 46 #[.val (.int p1), .val (.int p2), .val (.int p3), .val (.int p4), .val (.int ((p1 &&& (2147483647 : Int32)) % (3 : Int32))), .val (.int (p2 &&& (2147483647 : Int32))), .val (.int (p3 &&& (2147483647 : Int32))), .val (.int z7), .val (.int z8), .unset, .unset, .unset, .unset, .unset, .unset, .unset] [])) (fun t9 k9 => XS.istore X0.here hx rfl (hb hby at_44) rfl (l' := #[.val (.int p1), .val (.int p2), .val (.int p3), .val (.int p4), .val (.int ((p1 &&& (2147483647 : Int32)) % (3 : Int32))), .val (.int (p2 &&& (2147483647 : Int32))), .val (.int (p3 &&& (2147483647 : Int32))), .val (.int z7), .val (.int z8), .unset, .unset, .unset, .unset, .unset, .unset, .unset]) rfl k9) ?_
      refine own_st (T' := T0) (g' := (mkF m 48 #[.val (.int p1), .val (.int p2), .val (.int p3), .val (.int p4), .val (.int ((p1 &&& (2147483647 : Int32)) % (3 : Int32))), .val (.int (p2 &&& (2147483647 : Int32))), .val (.int (p3 &&& (2147483647 : Int32))), .val (.int z7), .val (.int z8), .unset, .unset, .unset, .unset, .unset, .unset, .unset] [(.int ((p1 &&& (2147483647 : Int32)) % (3 : Int32)))])) (fun t9 k9 => XS.iload X0.here hx rfl (hb hby at_46) rfl k9) ?_
      have j78 : ∀ (T1 : State) (L1 : List Loc) (c9 : Addr) (o9 : Int32), Stand p l e room_1 s m #[(.int p1), (.int p2), (.int p3), (.int p4)] below meth c T1 L1 (0) (0) → T1.heap = h0 → Fr n0 L1 → (Exa Z h0 c9 "com/example/semverdict/semverdict/change/Asked") → (Fld Z h0 c9 "java/lang/Enum" "ordinal" "I" (.int o9)) → (o9 = ((p1 &&& (2147483647 : Int32)) % (3 : Int32))) → (o9 = 0 ∨ o9 = 1 ∨ o9 = 2) → own_Go p e below F T1 (mkF m 78 #[.val (.int p1), .val (.int p2), .val (.int p3), .val (.int p4), .val (.int ((p1 &&& (2147483647 : Int32)) % (3 : Int32))), .val (.int (p2 &&& (2147483647 : Int32))), .val (.int (p3 &&& (2147483647 : Int32))), .val (.int z7), .val (.int z8), .val (.ref c9), .unset, .unset, .unset, .unset, .unset, .unset] []) := by
        intro T1 L1 c9 o9 X1 e1 N1 E9 F9 ho ho3
        obtain ⟨T2, h2, X2, e2, E2, A2, D2, -, st2⟩ := newO X1 hx hZ hown (hw _ (List.mem_of_getElem? (i := 4) rfl)) (hw _ (List.mem_of_getElem? (i := 5) rfl)) (hw _ (List.mem_of_getElem? (i := 6) rfl)) e1 (g := (mkF m 78 #[.val (.int p1), .val (.int p2), .val (.int p3), .val (.int p4), .val (.int ((p1 &&& (2147483647 : Int32)) % (3 : Int32))), .val (.int (p2 &&& (2147483647 : Int32))), .val (.int (p3 &&& (2147483647 : Int32))), .val (.int z7), .val (.int z8), .val (.ref c9), .unset, .unset, .unset, .unset, .unset, .unset] [])) rfl (hb hby at_78) (by decide) (by decide)
        obtain ⟨b2, gb2⟩ : ∃ z, z = h0.size := ⟨_, rfl⟩
        have ne_c9_b2 : c9 ≠ b2 := own_ne gb2 E9.lt
        have g_b2 : n0 ≤ b2 := gb2 ▸ Z0
        have sz_b2 : h0.size ≤ b2 := gb2 ▸ K0.1
        rw [← gb2] at A2 D2 st2
        have E9_3 := E9.ext E2
        have F9_4 := F9.ext E2
        have K2 := K0.ext E2
        have Z2 : n0 ≤ h2.size := Nat.le_trans Z0 E2.1
        have F_changes_b2 : Fld Z h2 b2 "com/example/semverdict/semverdict/change/Probe" "changes" "I" (.int (0 : Int32)) := D2 (Or.inr (hw _ (List.mem_of_getElem? (i := 19) rfl))) (ty := .int) (by decide)
        have F_rejecting_b2 : Fld Z h2 b2 "com/example/semverdict/semverdict/change/Probe" "rejecting" "Z" (.int (0 : Int32)) := D2 (Or.inr (hw _ (List.mem_of_getElem? (i := 21) rfl))) (ty := .boolean) (by decide)
        refine own_st (T' := T2) (g' := (mkF m 81 #[.val (.int p1), .val (.int p2), .val (.int p3), .val (.int p4), .val (.int ((p1 &&& (2147483647 : Int32)) % (3 : Int32))), .val (.int (p2 &&& (2147483647 : Int32))), .val (.int (p3 &&& (2147483647 : Int32))), .val (.int z7), .val (.int z8), .val (.ref c9), .unset, .unset, .unset, .unset, .unset, .unset] [(.ref b2)])) (fun t9 k9 => st2 t9 k9) ?_
        refine own_st (T' := T2) (g' := (mkF m 82 #[.val (.int p1), .val (.int p2), .val (.int p3), .val (.int p4), .val (.int ((p1 &&& (2147483647 : Int32)) % (3 : Int32))), .val (.int (p2 &&& (2147483647 : Int32))), .val (.int (p3 &&& (2147483647 : Int32))), .val (.int z7), .val (.int z8), .val (.ref c9), .unset, .unset, .unset, .unset, .unset, .unset] [(.ref b2), (.ref b2)])) (fun t9 k9 => XS.dup X2.here hx rfl (hb hby at_81) rfl rfl k9) ?_
        refine own_st (T' := T2) (g' := (mkF m 84 #[.val (.int p1), .val (.int p2), .val (.int p3), .val (.int p4), .val (.int ((p1 &&& (2147483647 : Int32)) % (3 : Int32))), .val (.int (p2 &&& (2147483647 : Int32))), .val (.int (p3 &&& (2147483647 : Int32))), .val (.int z7), .val (.int z8), .val (.ref c9), .unset, .unset, .unset, .unset, .unset, .unset] [(.int (p2 &&& (2147483647 : Int32))), (.ref b2), (.ref b2)])) (fun t9 k9 => XS.iload X2.here hx rfl (hb hby at_82) rfl k9) ?_
        refine own_st (T' := T2) (g' := (mkF m 86 #[.val (.int p1), .val (.int p2), .val (.int p3), .val (.int p4), .val (.int ((p1 &&& (2147483647 : Int32)) % (3 : Int32))), .val (.int (p2 &&& (2147483647 : Int32))), .val (.int (p3 &&& (2147483647 : Int32))), .val (.int z7), .val (.int z8), .val (.ref c9), .unset, .unset, .unset, .unset, .unset, .unset] [(.int z7), (.int (p2 &&& (2147483647 : Int32))), (.ref b2), (.ref b2)])) (fun t9 k9 => XS.iload X2.here hx rfl (hb hby at_84) rfl k9) ?_
        obtain ⟨_, _, ⟨T5, L5, k5, n5⟩, -, X5, ⟨Lc5, hQ5, l5, y5, z5⟩, st5⟩ := X2.specialBack hx (y := (⟨"com/example/semverdict/semverdict/change/Probe", "<init>", "(IZ)V"⟩ : MethodName)) rfl hown (mvT hZ (hw _ (List.mem_of_getElem? (i := 7) rfl))) (mvT hZ (hw _ (List.mem_of_getElem? (i := 8) rfl))) (mvT hZ (hw _ (List.mem_of_getElem? (i := 9) rfl))) (by decide) (own_back (W := 1) (rm1 l Z a0 hw b2 (p2 &&& (2147483647 : Int32)) z7 (.int 0) (.int 0) h2 n0 Z2 A2 F_changes_b2 F_rejecting_b2 g_b2 (own_nb hz7)) hZ (hw _ (List.mem_of_getElem? (i := 9) rfl)) (hw _ (List.mem_of_getElem? (i := 6) rfl)) (by decide) (by decide)) (g := (mkF m 86 #[.val (.int p1), .val (.int p2), .val (.int p3), .val (.int p4), .val (.int ((p1 &&& (2147483647 : Int32)) % (3 : Int32))), .val (.int (p2 &&& (2147483647 : Int32))), .val (.int (p3 &&& (2147483647 : Int32))), .val (.int z7), .val (.int z8), .val (.ref c9), .unset, .unset, .unset, .unset, .unset, .unset] [(.int z7), (.int (p2 &&& (2147483647 : Int32))), (.ref b2), (.ref b2)])) rfl (by rw [hml]; rfl) (Steps.refl _) (a := b2) (argsL := [(.int (p2 &&& (2147483647 : Int32))), (.int z7)]) (rest := [(.ref b2)]) (lenOf pd_0 rfl) rfl (by show 2 * 0 + _ ≤ _; exact Nat.le_of_eq rfl) (hb hby at_86) (fun _ _ => ⟨rfl, e2, (Nat.le_of_ble_eq_true rfl), (Nat.le_of_ble_eq_true rfl)⟩)
        dsimp only [Pt.U, Pt.locs, Pt.cells, Pt.slots] at X5 l5 y5 z5 st5 hQ5
        subst l5 y5 z5
        obtain ⟨rfl, Nq5, Kq5, Eq5, Fc5, Fz5⟩ := hQ5
        have N5 := Fr.app N1 Nq5
        obtain ⟨h5, e5⟩ : ∃ z, T5.heap = z := ⟨_, rfl⟩
        rw [e5] at Kq5 Eq5 Fc5 Fz5
        have E9_6 := E9_3.keep Kq5
        have F9_7 := F9_4.keep Kq5 (ninS ne_c9_b2 nin0)
        have A2_8 := A2.keep Kq5
        have K5 := K2.trans Kq5 (allS (Or.inr sz_b2) all0)
        have Z5 : n0 ≤ h5.size := Nat.le_trans Z2 Kq5.1
        refine own_st (T' := T5) (g' := (mkF m 89 #[.val (.int p1), .val (.int p2), .val (.int p3), .val (.int p4), .val (.int ((p1 &&& (2147483647 : Int32)) % (3 : Int32))), .val (.int (p2 &&& (2147483647 : Int32))), .val (.int (p3 &&& (2147483647 : Int32))), .val (.int z7), .val (.int z8), .val (.ref c9), .unset, .unset, .unset, .unset, .unset, .unset] [(.ref b2)])) (fun t9 k9 => st5.trans k9) ?_
        refine own_st (T' := T5) (g' := (mkF m 91 #[.val (.int p1), .val (.int p2), .val (.int p3), .val (.int p4), .val (.int ((p1 &&& (2147483647 : Int32)) % (3 : Int32))), .val (.int (p2 &&& (2147483647 : Int32))), .val (.int (p3 &&& (2147483647 : Int32))), .val (.int z7), .val (.int z8), .val (.ref c9), .val (.ref b2), .unset, .unset, .unset, .unset, .unset] [])) (fun t9 k9 => XS.astore X5.here hx rfl (hb hby at_89) rfl rfl (l' := #[.val (.int p1), .val (.int p2), .val (.int p3), .val (.int p4), .val (.int ((p1 &&& (2147483647 : Int32)) % (3 : Int32))), .val (.int (p2 &&& (2147483647 : Int32))), .val (.int (p3 &&& (2147483647 : Int32))), .val (.int z7), .val (.int z8), .val (.ref c9), .val (.ref b2), .unset, .unset, .unset, .unset, .unset]) rfl k9) ?_
        obtain ⟨T9, h9, X9, e9, E9, A9, D9, -, st9⟩ := newO X5 hx hZ hown (hw _ (List.mem_of_getElem? (i := 4) rfl)) (hw _ (List.mem_of_getElem? (i := 5) rfl)) (hw _ (List.mem_of_getElem? (i := 6) rfl)) e5 (g := (mkF m 91 #[.val (.int p1), .val (.int p2), .val (.int p3), .val (.int p4), .val (.int ((p1 &&& (2147483647 : Int32)) % (3 : Int32))), .val (.int (p2 &&& (2147483647 : Int32))), .val (.int (p3 &&& (2147483647 : Int32))), .val (.int z7), .val (.int z8), .val (.ref c9), .val (.ref b2), .unset, .unset, .unset, .unset, .unset] [])) rfl (hb hby at_91) (by decide) (by decide)
        obtain ⟨b9, gb9⟩ : ∃ z, z = h5.size := ⟨_, rfl⟩
        have ne_b2_b9 : b2 ≠ b9 := own_ne gb9 A2_8.lt
        have ne_c9_b9 : c9 ≠ b9 := own_ne gb9 E9_6.lt
        have g_b9 : n0 ≤ b9 := gb9 ▸ Z5
        have sz_b9 : h0.size ≤ b9 := gb9 ▸ K5.1
        rw [← gb9] at A9 D9 st9
        have E9_10 := E9_6.ext E9
        have F9_11 := F9_7.ext E9
        have A2_12 := A2_8.ext E9
        have Fc5_13 := Fc5.ext E9
        have Fz5_14 := Fz5.ext E9
        have K9 := K5.ext E9
        have Z9 : n0 ≤ h9.size := Nat.le_trans Z5 E9.1
        have F_changes_b9 : Fld Z h9 b9 "com/example/semverdict/semverdict/change/Probe" "changes" "I" (.int (0 : Int32)) := D9 (Or.inr (hw _ (List.mem_of_getElem? (i := 19) rfl))) (ty := .int) (by decide)
        have F_rejecting_b9 : Fld Z h9 b9 "com/example/semverdict/semverdict/change/Probe" "rejecting" "Z" (.int (0 : Int32)) := D9 (Or.inr (hw _ (List.mem_of_getElem? (i := 21) rfl))) (ty := .boolean) (by decide)
        refine own_st (T' := T9) (g' := (mkF m 94 #[.val (.int p1), .val (.int p2), .val (.int p3), .val (.int p4), .val (.int ((p1 &&& (2147483647 : Int32)) % (3 : Int32))), .val (.int (p2 &&& (2147483647 : Int32))), .val (.int (p3 &&& (2147483647 : Int32))), .val (.int z7), .val (.int z8), .val (.ref c9), .val (.ref b2), .unset, .unset, .unset, .unset, .unset] [(.ref b9)])) (fun t9 k9 => st9 t9 k9) ?_
        refine own_st (T' := T9) (g' := (mkF m 95 #[.val (.int p1), .val (.int p2), .val (.int p3), .val (.int p4), .val (.int ((p1 &&& (2147483647 : Int32)) % (3 : Int32))), .val (.int (p2 &&& (2147483647 : Int32))), .val (.int (p3 &&& (2147483647 : Int32))), .val (.int z7), .val (.int z8), .val (.ref c9), .val (.ref b2), .unset, .unset, .unset, .unset, .unset] [(.ref b9), (.ref b9)])) (fun t9 k9 => XS.dup X9.here hx rfl (hb hby at_94) rfl rfl k9) ?_
        refine own_st (T' := T9) (g' := (mkF m 97 #[.val (.int p1), .val (.int p2), .val (.int p3), .val (.int p4), .val (.int ((p1 &&& (2147483647 : Int32)) % (3 : Int32))), .val (.int (p2 &&& (2147483647 : Int32))), .val (.int (p3 &&& (2147483647 : Int32))), .val (.int z7), .val (.int z8), .val (.ref c9), .val (.ref b2), .unset, .unset, .unset, .unset, .unset] [(.int (p3 &&& (2147483647 : Int32))), (.ref b9), (.ref b9)])) (fun t9 k9 => XS.iload X9.here hx rfl (hb hby at_95) rfl k9) ?_
        refine own_st (T' := T9) (g' := (mkF m 99 #[.val (.int p1), .val (.int p2), .val (.int p3), .val (.int p4), .val (.int ((p1 &&& (2147483647 : Int32)) % (3 : Int32))), .val (.int (p2 &&& (2147483647 : Int32))), .val (.int (p3 &&& (2147483647 : Int32))), .val (.int z7), .val (.int z8), .val (.ref c9), .val (.ref b2), .unset, .unset, .unset, .unset, .unset] [(.int z8), (.int (p3 &&& (2147483647 : Int32))), (.ref b9), (.ref b9)])) (fun t9 k9 => XS.iload X9.here hx rfl (hb hby at_97) rfl k9) ?_
        obtain ⟨_, _, ⟨T15, L15, k15, n15⟩, -, X15, ⟨Lc15, hQ15, l15, y15, z15⟩, st15⟩ := X9.specialBack hx (y := (⟨"com/example/semverdict/semverdict/change/Probe", "<init>", "(IZ)V"⟩ : MethodName)) rfl hown (mvT hZ (hw _ (List.mem_of_getElem? (i := 7) rfl))) (mvT hZ (hw _ (List.mem_of_getElem? (i := 8) rfl))) (mvT hZ (hw _ (List.mem_of_getElem? (i := 9) rfl))) (by decide) (own_back (W := 1) (rm1 l Z a0 hw b9 (p3 &&& (2147483647 : Int32)) z8 (.int 0) (.int 0) h9 n0 Z9 A9 F_changes_b9 F_rejecting_b9 g_b9 (own_nb hz8)) hZ (hw _ (List.mem_of_getElem? (i := 9) rfl)) (hw _ (List.mem_of_getElem? (i := 6) rfl)) (by decide) (by decide)) (g := (mkF m 99 #[.val (.int p1), .val (.int p2), .val (.int p3), .val (.int p4), .val (.int ((p1 &&& (2147483647 : Int32)) % (3 : Int32))), .val (.int (p2 &&& (2147483647 : Int32))), .val (.int (p3 &&& (2147483647 : Int32))), .val (.int z7), .val (.int z8), .val (.ref c9), .val (.ref b2), .unset, .unset, .unset, .unset, .unset] [(.int z8), (.int (p3 &&& (2147483647 : Int32))), (.ref b9), (.ref b9)])) rfl (by rw [hml]; rfl) (Steps.refl _) (a := b9) (argsL := [(.int (p3 &&& (2147483647 : Int32))), (.int z8)]) (rest := [(.ref b9)]) (lenOf pd_0 rfl) rfl (by show 2 * 0 + _ ≤ _; exact Nat.le_of_eq rfl) (hb hby at_99) (fun _ _ => ⟨rfl, e9, (Nat.le_of_ble_eq_true rfl), (Nat.le_of_ble_eq_true rfl)⟩)
        dsimp only [Pt.U, Pt.locs, Pt.cells, Pt.slots] at X15 l15 y15 z15 st15 hQ15
        subst l15 y15 z15
        obtain ⟨rfl, Nq15, Kq15, Eq15, Fc15, Fz15⟩ := hQ15
        have N15 := Fr.app N5 Nq15
        obtain ⟨h15, e15⟩ : ∃ z, T15.heap = z := ⟨_, rfl⟩
        rw [e15] at Kq15 Eq15 Fc15 Fz15
        have E9_16 := E9_10.keep Kq15
        have F9_17 := F9_11.keep Kq15 (ninS ne_c9_b9 nin0)
        have A2_18 := A2_12.keep Kq15
        have Fc5_19 := Fc5_13.keep Kq15 (ninS ne_b2_b9 nin0)
        have Fz5_20 := Fz5_14.keep Kq15 (ninS ne_b2_b9 nin0)
        have A9_21 := A9.keep Kq15
        have K15 := K9.trans Kq15 (allS (Or.inr sz_b9) all0)
        have Z15 : n0 ≤ h15.size := Nat.le_trans Z9 Kq15.1
        refine own_st (T' := T15) (g' := (mkF m 102 #[.val (.int p1), .val (.int p2), .val (.int p3), .val (.int p4), .val (.int ((p1 &&& (2147483647 : Int32)) % (3 : Int32))), .val (.int (p2 &&& (2147483647 : Int32))), .val (.int (p3 &&& (2147483647 : Int32))), .val (.int z7), .val (.int z8), .val (.ref c9), .val (.ref b2), .unset, .unset, .unset, .unset, .unset] [(.ref b9)])) (fun t9 k9 => st15.trans k9) ?_
        refine own_st (T' := T15) (g' := (mkF m 104 #[.val (.int p1), .val (.int p2), .val (.int p3), .val (.int p4), .val (.int ((p1 &&& (2147483647 : Int32)) % (3 : Int32))), .val (.int (p2 &&& (2147483647 : Int32))), .val (.int (p3 &&& (2147483647 : Int32))), .val (.int z7), .val (.int z8), .val (.ref c9), .val (.ref b2), .val (.ref b9), .unset, .unset, .unset, .unset] [])) (fun t9 k9 => XS.astore X15.here hx rfl (hb hby at_102) rfl rfl (l' := #[.val (.int p1), .val (.int p2), .val (.int p3), .val (.int p4), .val (.int ((p1 &&& (2147483647 : Int32)) % (3 : Int32))), .val (.int (p2 &&& (2147483647 : Int32))), .val (.int (p3 &&& (2147483647 : Int32))), .val (.int z7), .val (.int z8), .val (.ref c9), .val (.ref b2), .val (.ref b9), .unset, .unset, .unset, .unset]) rfl k9) ?_
        refine own_st (T' := T15) (g' := (mkF m 106 #[.val (.int p1), .val (.int p2), .val (.int p3), .val (.int p4), .val (.int ((p1 &&& (2147483647 : Int32)) % (3 : Int32))), .val (.int (p2 &&& (2147483647 : Int32))), .val (.int (p3 &&& (2147483647 : Int32))), .val (.int z7), .val (.int z8), .val (.ref c9), .val (.ref b2), .val (.ref b9), .unset, .unset, .unset, .unset] [(.ref c9)])) (fun t9 k9 => XS.aload X15.here hx rfl (hb hby at_104) rfl rfl k9) ?_
        refine own_st (T' := T15) (g' := (mkF m 108 #[.val (.int p1), .val (.int p2), .val (.int p3), .val (.int p4), .val (.int ((p1 &&& (2147483647 : Int32)) % (3 : Int32))), .val (.int (p2 &&& (2147483647 : Int32))), .val (.int (p3 &&& (2147483647 : Int32))), .val (.int z7), .val (.int z8), .val (.ref c9), .val (.ref b2), .val (.ref b9), .unset, .unset, .unset, .unset] [(.ref b2), (.ref c9)])) (fun t9 k9 => XS.aload X15.here hx rfl (hb hby at_106) rfl rfl k9) ?_
        refine own_st (T' := T15) (g' := (mkF m 110 #[.val (.int p1), .val (.int p2), .val (.int p3), .val (.int p4), .val (.int ((p1 &&& (2147483647 : Int32)) % (3 : Int32))), .val (.int (p2 &&& (2147483647 : Int32))), .val (.int (p3 &&& (2147483647 : Int32))), .val (.int z7), .val (.int z8), .val (.ref c9), .val (.ref b2), .val (.ref b9), .unset, .unset, .unset, .unset] [(.ref b9), (.ref b2), (.ref c9)])) (fun t9 k9 => XS.aload X15.here hx rfl (hb hby at_108) rfl rfl k9) ?_
        obtain ⟨cq22, kq22, qa22, qb22, qc22⟩ := isOf hZ e15 E9_16
        obtain ⟨_, _, ⟨T22, L22, k22, n22⟩, -, X22, ⟨Lc22, hQ22, l22, y22, z22⟩, st22⟩ := X15.virtualBack hx (y := (⟨"com/example/semverdict/semverdict/change/Asked", "holds", "(Lcom/example/semverdict/semverdict/change/Probe;Lcom/example/semverdict/semverdict/change/Probe;)Z"⟩ : MethodName)) (z := (⟨"com/example/semverdict/semverdict/change/Asked", "holds", "(Lcom/example/semverdict/semverdict/change/Probe;Lcom/example/semverdict/semverdict/change/Probe;)Z"⟩ : MethodName)) hown (mvT hZ (hw _ (List.mem_of_getElem? (i := 22) rfl))) (mvT hZ (hw _ (List.mem_of_getElem? (i := 23) rfl))) (notFace_of_selects (args := #[]) (mvT hZ (hw _ (List.mem_of_getElem? (i := 25) rfl)))) (mvT hZ (hw _ (List.mem_of_getElem? (i := 25) rfl))) (mvT hZ (hw _ (List.mem_of_getElem? (i := 24) rfl))) (by decide) (own_back (W := 0) (rm4 l Z a0 hw c9 b2 b9 o9 (p2 &&& (2147483647 : Int32)) z7 (p3 &&& (2147483647 : Int32)) z8 h15 n0 Z15 E9_16 A2_18 A9_21 F9_17 Fc5_19 Fz5_20 Fc15 Fz15 (own_nb hz7) (own_nb hz8) ho3) hZ (hw _ (List.mem_of_getElem? (i := 26) rfl)) (hw _ (List.mem_of_getElem? (i := 2) rfl)) (by decide) (by decide)) qa22 qc22 (g := (mkF m 110 #[.val (.int p1), .val (.int p2), .val (.int p3), .val (.int p4), .val (.int ((p1 &&& (2147483647 : Int32)) % (3 : Int32))), .val (.int (p2 &&& (2147483647 : Int32))), .val (.int (p3 &&& (2147483647 : Int32))), .val (.int z7), .val (.int z8), .val (.ref c9), .val (.ref b2), .val (.ref b9), .unset, .unset, .unset, .unset] [(.ref b9), (.ref b2), (.ref c9)])) rfl (by rw [hml]; rfl) (Steps.refl _) (argsL := [(.ref b2), (.ref b9)]) (rest := []) (lenOf pd_2 rfl) rfl (by show 2 * 0 + _ ≤ _; exact Nat.le_of_eq rfl) (hb hby at_110) (fun _ _ => ⟨rfl, e15, (Nat.le_of_ble_eq_true rfl), (Nat.le_of_ble_eq_true rfl)⟩)
        dsimp only [Pt.U, Pt.locs, Pt.cells, Pt.slots] at X22 l22 y22 z22 st22 hQ22
        subst l22 y22 z22
        obtain ⟨z22, rfl, Nq22, he22, hB22⟩ := hQ22
        have N22 := Fr.app N15 Nq22
        have e22 : T22.heap = h15 := he22
        refine own_st (T' := T22) (g' := (mkF m 113 #[.val (.int p1), .val (.int p2), .val (.int p3), .val (.int p4), .val (.int ((p1 &&& (2147483647 : Int32)) % (3 : Int32))), .val (.int (p2 &&& (2147483647 : Int32))), .val (.int (p3 &&& (2147483647 : Int32))), .val (.int z7), .val (.int z8), .val (.ref c9), .val (.ref b2), .val (.ref b9), .unset, .unset, .unset, .unset] [(.int z22)])) (fun t9 k9 => st22.trans k9) ?_
        refine own_st (T' := T22) (g' := (mkF m 115 #[.val (.int p1), .val (.int p2), .val (.int p3), .val (.int p4), .val (.int ((p1 &&& (2147483647 : Int32)) % (3 : Int32))), .val (.int (p2 &&& (2147483647 : Int32))), .val (.int (p3 &&& (2147483647 : Int32))), .val (.int z7), .val (.int z8), .val (.ref c9), .val (.ref b2), .val (.ref b9), .val (.int z22), .unset, .unset, .unset] [])) (fun t9 k9 => XS.istore X22.here hx rfl (hb hby at_113) rfl (l' := #[.val (.int p1), .val (.int p2), .val (.int p3), .val (.int p4), .val (.int ((p1 &&& (2147483647 : Int32)) % (3 : Int32))), .val (.int (p2 &&& (2147483647 : Int32))), .val (.int (p3 &&& (2147483647 : Int32))), .val (.int z7), .val (.int z8), .val (.ref c9), .val (.ref b2), .val (.ref b9), .val (.int z22), .unset, .unset, .unset]) rfl k9) ?_
        refine own_st (T' := T22) (g' := (mkF m 116 #[.val (.int p1), .val (.int p2), .val (.int p3), .val (.int p4), .val (.int ((p1 &&& (2147483647 : Int32)) % (3 : Int32))), .val (.int (p2 &&& (2147483647 : Int32))), .val (.int (p3 &&& (2147483647 : Int32))), .val (.int z7), .val (.int z8), .val (.ref c9), .val (.ref b2), .val (.ref b9), .val (.int z22), .unset, .unset, .unset] [(.int (1 : Int32))])) (fun t9 k9 => XS.iconst X22.here hx rfl (hb hby at_115) k9) ?_
        refine own_st (T' := T22) (g' := (mkF m 118 #[.val (.int p1), .val (.int p2), .val (.int p3), .val (.int p4), .val (.int ((p1 &&& (2147483647 : Int32)) % (3 : Int32))), .val (.int (p2 &&& (2147483647 : Int32))), .val (.int (p3 &&& (2147483647 : Int32))), .val (.int z7), .val (.int z8), .val (.ref c9), .val (.ref b2), .val (.ref b9), .val (.int z22), .val (.int (1 : Int32)), .unset, .unset] [])) (fun t9 k9 => XS.istore X22.here hx rfl (hb hby at_116) rfl (l' := #[.val (.int p1), .val (.int p2), .val (.int p3), .val (.int p4), .val (.int ((p1 &&& (2147483647 : Int32)) % (3 : Int32))), .val (.int (p2 &&& (2147483647 : Int32))), .val (.int (p3 &&& (2147483647 : Int32))), .val (.int z7), .val (.int z8), .val (.ref c9), .val (.ref b2), .val (.ref b9), .val (.int z22), .val (.int (1 : Int32)), .unset, .unset]) rfl k9) ?_
        have j131 : ∀ (y13 : Int32), own_B y13 (z8 = 0 ∨ ¬ z7 = 0) → own_Go p e below F T22 (mkF m 131 #[.val (.int p1), .val (.int p2), .val (.int p3), .val (.int p4), .val (.int ((p1 &&& (2147483647 : Int32)) % (3 : Int32))), .val (.int (p2 &&& (2147483647 : Int32))), .val (.int (p3 &&& (2147483647 : Int32))), .val (.int z7), .val (.int z8), .val (.ref c9), .val (.ref b2), .val (.ref b9), .val (.int z22), .val (.int y13), .unset, .unset] []) := by
          intro y13 hy13
          refine own_st (T' := T22) (g' := (mkF m 132 #[.val (.int p1), .val (.int p2), .val (.int p3), .val (.int p4), .val (.int ((p1 &&& (2147483647 : Int32)) % (3 : Int32))), .val (.int (p2 &&& (2147483647 : Int32))), .val (.int (p3 &&& (2147483647 : Int32))), .val (.int z7), .val (.int z8), .val (.ref c9), .val (.ref b2), .val (.ref b9), .val (.int z22), .val (.int y13), .unset, .unset] [(.int (1 : Int32))])) (fun t9 k9 => XS.iconst X22.here hx rfl (hb hby at_131) k9) ?_
          refine own_st (T' := T22) (g' := (mkF m 134 #[.val (.int p1), .val (.int p2), .val (.int p3), .val (.int p4), .val (.int ((p1 &&& (2147483647 : Int32)) % (3 : Int32))), .val (.int (p2 &&& (2147483647 : Int32))), .val (.int (p3 &&& (2147483647 : Int32))), .val (.int z7), .val (.int z8), .val (.ref c9), .val (.ref b2), .val (.ref b9), .val (.int z22), .val (.int y13), .val (.int (1 : Int32)), .unset] [])) (fun t9 k9 => XS.istore X22.here hx rfl (hb hby at_132) rfl (l' := #[.val (.int p1), .val (.int p2), .val (.int p3), .val (.int p4), .val (.int ((p1 &&& (2147483647 : Int32)) % (3 : Int32))), .val (.int (p2 &&& (2147483647 : Int32))), .val (.int (p3 &&& (2147483647 : Int32))), .val (.int z7), .val (.int z8), .val (.ref c9), .val (.ref b2), .val (.ref b9), .val (.int z22), .val (.int y13), .val (.int (1 : Int32)), .unset]) rfl k9) ?_
          have j147 : ∀ (y14 : Int32), own_B y14 ((p3 &&& (2147483647 : Int32)) = 0 ∨ ¬ (p2 &&& (2147483647 : Int32)) = 0) → own_Go p e below F T22 (mkF m 147 #[.val (.int p1), .val (.int p2), .val (.int p3), .val (.int p4), .val (.int ((p1 &&& (2147483647 : Int32)) % (3 : Int32))), .val (.int (p2 &&& (2147483647 : Int32))), .val (.int (p3 &&& (2147483647 : Int32))), .val (.int z7), .val (.int z8), .val (.ref c9), .val (.ref b2), .val (.ref b9), .val (.int z22), .val (.int y13), .val (.int y14), .unset] []) := by
            intro y14 hy14
            have j188 : ∀ (y15 : Int32), own_B y15 (((p1 &&& (2147483647 : Int32)) % (3 : Int32)) = 0 ∨ (((p1 &&& (2147483647 : Int32)) % (3 : Int32)) = 1 ∧ (z8 = 0 ∨ ¬ z7 = 0)) ∨ (¬ ((p1 &&& (2147483647 : Int32)) % (3 : Int32)) = 0 ∧ ¬ ((p1 &&& (2147483647 : Int32)) % (3 : Int32)) = 1 ∧ (z8 = 0 ∨ ¬ z7 = 0) ∧ ((p3 &&& (2147483647 : Int32)) = 0 ∨ ¬ (p2 &&& (2147483647 : Int32)) = 0))) → own_Go p e below F T22 (mkF m 188 #[.val (.int p1), .val (.int p2), .val (.int p3), .val (.int p4), .val (.int ((p1 &&& (2147483647 : Int32)) % (3 : Int32))), .val (.int (p2 &&& (2147483647 : Int32))), .val (.int (p3 &&& (2147483647 : Int32))), .val (.int z7), .val (.int z8), .val (.ref c9), .val (.ref b2), .val (.ref b9), .val (.int z22), .val (.int y13), .val (.int y14), .val (.int y15)] []) := by
              intro y15 hy15
              refine own_st (T' := T22) (g' := (mkF m 190 #[.val (.int p1), .val (.int p2), .val (.int p3), .val (.int p4), .val (.int ((p1 &&& (2147483647 : Int32)) % (3 : Int32))), .val (.int (p2 &&& (2147483647 : Int32))), .val (.int (p3 &&& (2147483647 : Int32))), .val (.int z7), .val (.int z8), .val (.ref c9), .val (.ref b2), .val (.ref b9), .val (.int z22), .val (.int y13), .val (.int y14), .val (.int y15)] [(.int z22)])) (fun t9 k9 => XS.iload X22.here hx rfl (hb hby at_188) rfl k9) ?_
              refine own_st (T' := T22) (g' := (mkF m 192 #[.val (.int p1), .val (.int p2), .val (.int p3), .val (.int p4), .val (.int ((p1 &&& (2147483647 : Int32)) % (3 : Int32))), .val (.int (p2 &&& (2147483647 : Int32))), .val (.int (p3 &&& (2147483647 : Int32))), .val (.int z7), .val (.int z8), .val (.ref c9), .val (.ref b2), .val (.ref b9), .val (.int z22), .val (.int y13), .val (.int y14), .val (.int y15)] [(.int y15), (.int z22)])) (fun t9 k9 => XS.iload X22.here hx rfl (hb hby at_190) rfl k9) ?_
              have hpos := own_pos (z := (p2 &&& (2147483647 : Int32))) (by rw [c_mask p2 (2147483647 : Int32) 31 (by decide) (by decide)]; omega)
              have heq : z22 = y15 := by
                refine own_B.eq hB22 hy15 ?_
                rw [← ho, hpos]
                rcases ho3 with q | q | q <;> subst q <;> constructor <;> intro h <;> first | exact Or.inl rfl | skip
                · rcases h with h | ⟨-, h⟩ | ⟨h, -⟩
                  · exact absurd h (by decide)
                  · exact Or.inr (Or.inl ⟨rfl, h.elim Or.inr Or.inl⟩)
                  · exact absurd h (by decide)
                · rcases h with h | ⟨-, h⟩ | ⟨-, h, -⟩
                  · exact absurd h (by decide)
                  · exact Or.inr (Or.inl ⟨rfl, h.elim Or.inr Or.inl⟩)
                  · exact absurd rfl h
                · rcases h with h | ⟨h, -⟩ | ⟨-, h1, h2⟩
                  · exact absurd h (by decide)
                  · exact absurd h (by decide)
                  · exact Or.inr (Or.inr ⟨by decide, by decide, h1.elim Or.inr Or.inl, h2.elim Or.inr Or.inl⟩)
                · rcases h with h | ⟨h, -⟩ | ⟨-, -, h1, h2⟩
                  · exact absurd h (by decide)
                  · exact absurd h (by decide)
                  · exact Or.inr (Or.inr ⟨rfl, h1.elim Or.inr Or.inl, h2.elim Or.inr Or.inl⟩)
              refine own_st (T' := T22) (g' := (mkF m 195 #[.val (.int p1), .val (.int p2), .val (.int p3), .val (.int p4), .val (.int ((p1 &&& (2147483647 : Int32)) % (3 : Int32))), .val (.int (p2 &&& (2147483647 : Int32))), .val (.int (p3 &&& (2147483647 : Int32))), .val (.int z7), .val (.int z8), .val (.ref c9), .val (.ref b2), .val (.ref b9), .val (.int z22), .val (.int y13), .val (.int y14), .val (.int y15)] [])) (fun t9 k9 => XS.icmpNo X22.here hx rfl (hb hby at_192) rfl (teq heq).2 k9) ?_
              refine own_st (T' := T22) (g' := (mkF m 196 #[.val (.int p1), .val (.int p2), .val (.int p3), .val (.int p4), .val (.int ((p1 &&& (2147483647 : Int32)) % (3 : Int32))), .val (.int (p2 &&& (2147483647 : Int32))), .val (.int (p3 &&& (2147483647 : Int32))), .val (.int z7), .val (.int z8), .val (.ref c9), .val (.ref b2), .val (.ref b9), .val (.int z22), .val (.int y13), .val (.int y14), .val (.int y15)] [(.int (1 : Int32))])) (fun t9 k9 => XS.iconst X22.here hx rfl (hb hby at_195) k9) ?_
              refine own_st (T' := T22) (g' := (mkF m 200 #[.val (.int p1), .val (.int p2), .val (.int p3), .val (.int p4), .val (.int ((p1 &&& (2147483647 : Int32)) % (3 : Int32))), .val (.int (p2 &&& (2147483647 : Int32))), .val (.int (p3 &&& (2147483647 : Int32))), .val (.int z7), .val (.int z8), .val (.ref c9), .val (.ref b2), .val (.ref b9), .val (.int z22), .val (.int y13), .val (.int y14), .val (.int y15)] [(.int (1 : Int32))])) (fun t9 k9 => XS.goto X22.here hx rfl (pc0 := 196) (pc' := 200) rfl (hb hby at_196) (by decide) (by decide) k9) ?_
              refine own_ret (v := some (.int (1 : Int32))) hF X22 (own_some hret) hlk (fun fs hr => retN X22 hx (t := .boolean) hret (by simp) (hb hby at_200) hr) ?_ (by decide) (by decide)
              try rw [e22]
              exact ⟨rfl, N22⟩
            refine own_st (T' := T22) (g' := (mkF m 149 #[.val (.int p1), .val (.int p2), .val (.int p3), .val (.int p4), .val (.int ((p1 &&& (2147483647 : Int32)) % (3 : Int32))), .val (.int (p2 &&& (2147483647 : Int32))), .val (.int (p3 &&& (2147483647 : Int32))), .val (.int z7), .val (.int z8), .val (.ref c9), .val (.ref b2), .val (.ref b9), .val (.int z22), .val (.int y13), .val (.int y14), .unset] [(.int ((p1 &&& (2147483647 : Int32)) % (3 : Int32)))])) (fun t9 k9 => XS.iload X22.here hx rfl (hb hby at_147) rfl k9) ?_
            by_cases hk0 : ((p1 &&& (2147483647 : Int32)) % (3 : Int32)) = (0 : Int32)
            · refine own_st (T' := T22) (g' := (mkF m 152 #[.val (.int p1), .val (.int p2), .val (.int p3), .val (.int p4), .val (.int ((p1 &&& (2147483647 : Int32)) % (3 : Int32))), .val (.int (p2 &&& (2147483647 : Int32))), .val (.int (p3 &&& (2147483647 : Int32))), .val (.int z7), .val (.int z8), .val (.ref c9), .val (.ref b2), .val (.ref b9), .val (.int z22), .val (.int y13), .val (.int y14), .unset] [])) (fun t9 k9 => XS.ifNo X22.here hx rfl (hb hby at_149) rfl ((if0 _ _).trans (teq hk0).2) k9) ?_
              refine own_st (T' := T22) (g' := (mkF m 153 #[.val (.int p1), .val (.int p2), .val (.int p3), .val (.int p4), .val (.int ((p1 &&& (2147483647 : Int32)) % (3 : Int32))), .val (.int (p2 &&& (2147483647 : Int32))), .val (.int (p3 &&& (2147483647 : Int32))), .val (.int z7), .val (.int z8), .val (.ref c9), .val (.ref b2), .val (.ref b9), .val (.int z22), .val (.int y13), .val (.int y14), .unset] [(.int (1 : Int32))])) (fun t9 k9 => XS.iconst X22.here hx rfl (hb hby at_152) k9) ?_
              refine own_st (T' := T22) (g' := (mkF m 155 #[.val (.int p1), .val (.int p2), .val (.int p3), .val (.int p4), .val (.int ((p1 &&& (2147483647 : Int32)) % (3 : Int32))), .val (.int (p2 &&& (2147483647 : Int32))), .val (.int (p3 &&& (2147483647 : Int32))), .val (.int z7), .val (.int z8), .val (.ref c9), .val (.ref b2), .val (.ref b9), .val (.int z22), .val (.int y13), .val (.int y14), .val (.int (1 : Int32))] [])) (fun t9 k9 => XS.istore X22.here hx rfl (hb hby at_153) rfl (l' := #[.val (.int p1), .val (.int p2), .val (.int p3), .val (.int p4), .val (.int ((p1 &&& (2147483647 : Int32)) % (3 : Int32))), .val (.int (p2 &&& (2147483647 : Int32))), .val (.int (p3 &&& (2147483647 : Int32))), .val (.int z7), .val (.int z8), .val (.ref c9), .val (.ref b2), .val (.ref b9), .val (.int z22), .val (.int y13), .val (.int y14), .val (.int (1 : Int32))]) rfl k9) ?_
              refine own_st (T' := T22) (g' := (mkF m 188 #[.val (.int p1), .val (.int p2), .val (.int p3), .val (.int p4), .val (.int ((p1 &&& (2147483647 : Int32)) % (3 : Int32))), .val (.int (p2 &&& (2147483647 : Int32))), .val (.int (p3 &&& (2147483647 : Int32))), .val (.int z7), .val (.int z8), .val (.ref c9), .val (.ref b2), .val (.ref b9), .val (.int z22), .val (.int y13), .val (.int y14), .val (.int (1 : Int32))] [])) (fun t9 k9 => XS.goto X22.here hx rfl (pc0 := 155) (pc' := 188) rfl (hb hby at_155) (by decide) (by decide) k9) ?_
              exact j188 _ (Or.inl ⟨rfl, Or.inl hk0⟩)
            · refine own_st (T' := T22) (g' := (mkF m 158 #[.val (.int p1), .val (.int p2), .val (.int p3), .val (.int p4), .val (.int ((p1 &&& (2147483647 : Int32)) % (3 : Int32))), .val (.int (p2 &&& (2147483647 : Int32))), .val (.int (p3 &&& (2147483647 : Int32))), .val (.int z7), .val (.int z8), .val (.ref c9), .val (.ref b2), .val (.ref b9), .val (.int z22), .val (.int y13), .val (.int y14), .unset] [])) (fun t9 k9 => XS.ifYes X22.here hx rfl (pc0 := 149) (pc' := 158) rfl (hb hby at_149) rfl ((if0 _ _).trans (feq hk0).2) (by decide) (by decide) k9) ?_
              refine own_st (T' := T22) (g' := (mkF m 160 #[.val (.int p1), .val (.int p2), .val (.int p3), .val (.int p4), .val (.int ((p1 &&& (2147483647 : Int32)) % (3 : Int32))), .val (.int (p2 &&& (2147483647 : Int32))), .val (.int (p3 &&& (2147483647 : Int32))), .val (.int z7), .val (.int z8), .val (.ref c9), .val (.ref b2), .val (.ref b9), .val (.int z22), .val (.int y13), .val (.int y14), .unset] [(.int ((p1 &&& (2147483647 : Int32)) % (3 : Int32)))])) (fun t9 k9 => XS.iload X22.here hx rfl (hb hby at_158) rfl k9) ?_
              refine own_st (T' := T22) (g' := (mkF m 161 #[.val (.int p1), .val (.int p2), .val (.int p3), .val (.int p4), .val (.int ((p1 &&& (2147483647 : Int32)) % (3 : Int32))), .val (.int (p2 &&& (2147483647 : Int32))), .val (.int (p3 &&& (2147483647 : Int32))), .val (.int z7), .val (.int z8), .val (.ref c9), .val (.ref b2), .val (.ref b9), .val (.int z22), .val (.int y13), .val (.int y14), .unset] [(.int (1 : Int32)), (.int ((p1 &&& (2147483647 : Int32)) % (3 : Int32)))])) (fun t9 k9 => XS.iconst X22.here hx rfl (hb hby at_160) k9) ?_
              by_cases hk1 : ((p1 &&& (2147483647 : Int32)) % (3 : Int32)) = (1 : Int32)
              · refine own_st (T' := T22) (g' := (mkF m 164 #[.val (.int p1), .val (.int p2), .val (.int p3), .val (.int p4), .val (.int ((p1 &&& (2147483647 : Int32)) % (3 : Int32))), .val (.int (p2 &&& (2147483647 : Int32))), .val (.int (p3 &&& (2147483647 : Int32))), .val (.int z7), .val (.int z8), .val (.ref c9), .val (.ref b2), .val (.ref b9), .val (.int z22), .val (.int y13), .val (.int y14), .unset] [])) (fun t9 k9 => XS.icmpNo X22.here hx rfl (hb hby at_161) rfl (teq hk1).2 k9) ?_
                refine own_st (T' := T22) (g' := (mkF m 166 #[.val (.int p1), .val (.int p2), .val (.int p3), .val (.int p4), .val (.int ((p1 &&& (2147483647 : Int32)) % (3 : Int32))), .val (.int (p2 &&& (2147483647 : Int32))), .val (.int (p3 &&& (2147483647 : Int32))), .val (.int z7), .val (.int z8), .val (.ref c9), .val (.ref b2), .val (.ref b9), .val (.int z22), .val (.int y13), .val (.int y14), .unset] [(.int y13)])) (fun t9 k9 => XS.iload X22.here hx rfl (hb hby at_164) rfl k9) ?_
                refine own_st (T' := T22) (g' := (mkF m 168 #[.val (.int p1), .val (.int p2), .val (.int p3), .val (.int p4), .val (.int ((p1 &&& (2147483647 : Int32)) % (3 : Int32))), .val (.int (p2 &&& (2147483647 : Int32))), .val (.int (p3 &&& (2147483647 : Int32))), .val (.int z7), .val (.int z8), .val (.ref c9), .val (.ref b2), .val (.ref b9), .val (.int z22), .val (.int y13), .val (.int y14), .val (.int y13)] [])) (fun t9 k9 => XS.istore X22.here hx rfl (hb hby at_166) rfl (l' := #[.val (.int p1), .val (.int p2), .val (.int p3), .val (.int p4), .val (.int ((p1 &&& (2147483647 : Int32)) % (3 : Int32))), .val (.int (p2 &&& (2147483647 : Int32))), .val (.int (p3 &&& (2147483647 : Int32))), .val (.int z7), .val (.int z8), .val (.ref c9), .val (.ref b2), .val (.ref b9), .val (.int z22), .val (.int y13), .val (.int y14), .val (.int y13)]) rfl k9) ?_
                refine own_st (T' := T22) (g' := (mkF m 188 #[.val (.int p1), .val (.int p2), .val (.int p3), .val (.int p4), .val (.int ((p1 &&& (2147483647 : Int32)) % (3 : Int32))), .val (.int (p2 &&& (2147483647 : Int32))), .val (.int (p3 &&& (2147483647 : Int32))), .val (.int z7), .val (.int z8), .val (.ref c9), .val (.ref b2), .val (.ref b9), .val (.int z22), .val (.int y13), .val (.int y14), .val (.int y13)] [])) (fun t9 k9 => XS.goto X22.here hx rfl (pc0 := 168) (pc' := 188) rfl (hb hby at_168) (by decide) (by decide) k9) ?_
                refine j188 _ ?_
                rcases hy13 with ⟨q, r⟩ | ⟨q, r⟩
                · exact Or.inl ⟨q, Or.inr (Or.inl ⟨hk1, r⟩)⟩
                · exact Or.inr ⟨q, by rintro (y | ⟨-, y⟩ | ⟨-, y, -⟩) <;> first | exact hk0 y | exact r y | exact y hk1⟩
              · refine own_st (T' := T22) (g' := (mkF m 171 #[.val (.int p1), .val (.int p2), .val (.int p3), .val (.int p4), .val (.int ((p1 &&& (2147483647 : Int32)) % (3 : Int32))), .val (.int (p2 &&& (2147483647 : Int32))), .val (.int (p3 &&& (2147483647 : Int32))), .val (.int z7), .val (.int z8), .val (.ref c9), .val (.ref b2), .val (.ref b9), .val (.int z22), .val (.int y13), .val (.int y14), .unset] [])) (fun t9 k9 => XS.icmpYes X22.here hx rfl (pc0 := 161) (pc' := 171) rfl (hb hby at_161) rfl (feq hk1).2 (by decide) (by decide) k9) ?_
                refine own_st (T' := T22) (g' := (mkF m 173 #[.val (.int p1), .val (.int p2), .val (.int p3), .val (.int p4), .val (.int ((p1 &&& (2147483647 : Int32)) % (3 : Int32))), .val (.int (p2 &&& (2147483647 : Int32))), .val (.int (p3 &&& (2147483647 : Int32))), .val (.int z7), .val (.int z8), .val (.ref c9), .val (.ref b2), .val (.ref b9), .val (.int z22), .val (.int y13), .val (.int y14), .unset] [(.int y13)])) (fun t9 k9 => XS.iload X22.here hx rfl (hb hby at_171) rfl k9) ?_
                by_cases h13 : y13 = (0 : Int32)
                · refine own_st (T' := T22) (g' := (mkF m 185 #[.val (.int p1), .val (.int p2), .val (.int p3), .val (.int p4), .val (.int ((p1 &&& (2147483647 : Int32)) % (3 : Int32))), .val (.int (p2 &&& (2147483647 : Int32))), .val (.int (p3 &&& (2147483647 : Int32))), .val (.int z7), .val (.int z8), .val (.ref c9), .val (.ref b2), .val (.ref b9), .val (.int z22), .val (.int y13), .val (.int y14), .unset] [])) (fun t9 k9 => XS.ifYes X22.here hx rfl (pc0 := 173) (pc' := 185) rfl (hb hby at_173) rfl ((if0 _ _).trans (teq h13).1) (by decide) (by decide) k9) ?_
                  refine own_st (T' := T22) (g' := (mkF m 186 #[.val (.int p1), .val (.int p2), .val (.int p3), .val (.int p4), .val (.int ((p1 &&& (2147483647 : Int32)) % (3 : Int32))), .val (.int (p2 &&& (2147483647 : Int32))), .val (.int (p3 &&& (2147483647 : Int32))), .val (.int z7), .val (.int z8), .val (.ref c9), .val (.ref b2), .val (.ref b9), .val (.int z22), .val (.int y13), .val (.int y14), .unset] [(.int (0 : Int32))])) (fun t9 k9 => XS.iconst X22.here hx rfl (hb hby at_185) k9) ?_
                  refine own_st (T' := T22) (g' := (mkF m 188 #[.val (.int p1), .val (.int p2), .val (.int p3), .val (.int p4), .val (.int ((p1 &&& (2147483647 : Int32)) % (3 : Int32))), .val (.int (p2 &&& (2147483647 : Int32))), .val (.int (p3 &&& (2147483647 : Int32))), .val (.int z7), .val (.int z8), .val (.ref c9), .val (.ref b2), .val (.ref b9), .val (.int z22), .val (.int y13), .val (.int y14), .val (.int (0 : Int32))] [])) (fun t9 k9 => XS.istore X22.here hx rfl (hb hby at_186) rfl (l' := #[.val (.int p1), .val (.int p2), .val (.int p3), .val (.int p4), .val (.int ((p1 &&& (2147483647 : Int32)) % (3 : Int32))), .val (.int (p2 &&& (2147483647 : Int32))), .val (.int (p3 &&& (2147483647 : Int32))), .val (.int z7), .val (.int z8), .val (.ref c9), .val (.ref b2), .val (.ref b9), .val (.int z22), .val (.int y13), .val (.int y14), .val (.int (0 : Int32))]) rfl k9) ?_
                  refine j188 _ (Or.inr ⟨rfl, ?_⟩)
                  rcases hy13 with ⟨q, r⟩ | ⟨q, r⟩
                  · rw [q] at h13; exact absurd h13 (by decide)
                  · rintro (y | ⟨y, -⟩ | ⟨-, -, y1, y2⟩)
                    · exact hk0 y
                    · exact hk1 y
                    · exact r y1
                · refine own_st (T' := T22) (g' := (mkF m 176 #[.val (.int p1), .val (.int p2), .val (.int p3), .val (.int p4), .val (.int ((p1 &&& (2147483647 : Int32)) % (3 : Int32))), .val (.int (p2 &&& (2147483647 : Int32))), .val (.int (p3 &&& (2147483647 : Int32))), .val (.int z7), .val (.int z8), .val (.ref c9), .val (.ref b2), .val (.ref b9), .val (.int z22), .val (.int y13), .val (.int y14), .unset] [])) (fun t9 k9 => XS.ifNo X22.here hx rfl (hb hby at_173) rfl ((if0 _ _).trans (feq h13).1) k9) ?_
                  refine own_st (T' := T22) (g' := (mkF m 178 #[.val (.int p1), .val (.int p2), .val (.int p3), .val (.int p4), .val (.int ((p1 &&& (2147483647 : Int32)) % (3 : Int32))), .val (.int (p2 &&& (2147483647 : Int32))), .val (.int (p3 &&& (2147483647 : Int32))), .val (.int z7), .val (.int z8), .val (.ref c9), .val (.ref b2), .val (.ref b9), .val (.int z22), .val (.int y13), .val (.int y14), .unset] [(.int y14)])) (fun t9 k9 => XS.iload X22.here hx rfl (hb hby at_176) rfl k9) ?_
                  by_cases h14 : y14 = (0 : Int32)
                  · refine own_st (T' := T22) (g' := (mkF m 185 #[.val (.int p1), .val (.int p2), .val (.int p3), .val (.int p4), .val (.int ((p1 &&& (2147483647 : Int32)) % (3 : Int32))), .val (.int (p2 &&& (2147483647 : Int32))), .val (.int (p3 &&& (2147483647 : Int32))), .val (.int z7), .val (.int z8), .val (.ref c9), .val (.ref b2), .val (.ref b9), .val (.int z22), .val (.int y13), .val (.int y14), .unset] [])) (fun t9 k9 => XS.ifYes X22.here hx rfl (pc0 := 178) (pc' := 185) rfl (hb hby at_178) rfl ((if0 _ _).trans (teq h14).1) (by decide) (by decide) k9) ?_
                    refine own_st (T' := T22) (g' := (mkF m 186 #[.val (.int p1), .val (.int p2), .val (.int p3), .val (.int p4), .val (.int ((p1 &&& (2147483647 : Int32)) % (3 : Int32))), .val (.int (p2 &&& (2147483647 : Int32))), .val (.int (p3 &&& (2147483647 : Int32))), .val (.int z7), .val (.int z8), .val (.ref c9), .val (.ref b2), .val (.ref b9), .val (.int z22), .val (.int y13), .val (.int y14), .unset] [(.int (0 : Int32))])) (fun t9 k9 => XS.iconst X22.here hx rfl (hb hby at_185) k9) ?_
                    refine own_st (T' := T22) (g' := (mkF m 188 #[.val (.int p1), .val (.int p2), .val (.int p3), .val (.int p4), .val (.int ((p1 &&& (2147483647 : Int32)) % (3 : Int32))), .val (.int (p2 &&& (2147483647 : Int32))), .val (.int (p3 &&& (2147483647 : Int32))), .val (.int z7), .val (.int z8), .val (.ref c9), .val (.ref b2), .val (.ref b9), .val (.int z22), .val (.int y13), .val (.int y14), .val (.int (0 : Int32))] [])) (fun t9 k9 => XS.istore X22.here hx rfl (hb hby at_186) rfl (l' := #[.val (.int p1), .val (.int p2), .val (.int p3), .val (.int p4), .val (.int ((p1 &&& (2147483647 : Int32)) % (3 : Int32))), .val (.int (p2 &&& (2147483647 : Int32))), .val (.int (p3 &&& (2147483647 : Int32))), .val (.int z7), .val (.int z8), .val (.ref c9), .val (.ref b2), .val (.ref b9), .val (.int z22), .val (.int y13), .val (.int y14), .val (.int (0 : Int32))]) rfl k9) ?_
                    refine j188 _ (Or.inr ⟨rfl, ?_⟩)
                    rcases hy14 with ⟨q, r⟩ | ⟨q, r⟩
                    · rw [q] at h14; exact absurd h14 (by decide)
                    · rintro (y | ⟨y, -⟩ | ⟨-, -, y1, y2⟩)
                      · exact hk0 y
                      · exact hk1 y
                      · exact r y2
                  · refine own_st (T' := T22) (g' := (mkF m 181 #[.val (.int p1), .val (.int p2), .val (.int p3), .val (.int p4), .val (.int ((p1 &&& (2147483647 : Int32)) % (3 : Int32))), .val (.int (p2 &&& (2147483647 : Int32))), .val (.int (p3 &&& (2147483647 : Int32))), .val (.int z7), .val (.int z8), .val (.ref c9), .val (.ref b2), .val (.ref b9), .val (.int z22), .val (.int y13), .val (.int y14), .unset] [])) (fun t9 k9 => XS.ifNo X22.here hx rfl (hb hby at_178) rfl ((if0 _ _).trans (feq h14).1) k9) ?_
                    refine own_st (T' := T22) (g' := (mkF m 182 #[.val (.int p1), .val (.int p2), .val (.int p3), .val (.int p4), .val (.int ((p1 &&& (2147483647 : Int32)) % (3 : Int32))), .val (.int (p2 &&& (2147483647 : Int32))), .val (.int (p3 &&& (2147483647 : Int32))), .val (.int z7), .val (.int z8), .val (.ref c9), .val (.ref b2), .val (.ref b9), .val (.int z22), .val (.int y13), .val (.int y14), .unset] [(.int (1 : Int32))])) (fun t9 k9 => XS.iconst X22.here hx rfl (hb hby at_181) k9) ?_
                    refine own_st (T' := T22) (g' := (mkF m 186 #[.val (.int p1), .val (.int p2), .val (.int p3), .val (.int p4), .val (.int ((p1 &&& (2147483647 : Int32)) % (3 : Int32))), .val (.int (p2 &&& (2147483647 : Int32))), .val (.int (p3 &&& (2147483647 : Int32))), .val (.int z7), .val (.int z8), .val (.ref c9), .val (.ref b2), .val (.ref b9), .val (.int z22), .val (.int y13), .val (.int y14), .unset] [(.int (1 : Int32))])) (fun t9 k9 => XS.goto X22.here hx rfl (pc0 := 182) (pc' := 186) rfl (hb hby at_182) (by decide) (by decide) k9) ?_
                    refine own_st (T' := T22) (g' := (mkF m 188 #[.val (.int p1), .val (.int p2), .val (.int p3), .val (.int p4), .val (.int ((p1 &&& (2147483647 : Int32)) % (3 : Int32))), .val (.int (p2 &&& (2147483647 : Int32))), .val (.int (p3 &&& (2147483647 : Int32))), .val (.int z7), .val (.int z8), .val (.ref c9), .val (.ref b2), .val (.ref b9), .val (.int z22), .val (.int y13), .val (.int y14), .val (.int (1 : Int32))] [])) (fun t9 k9 => XS.istore X22.here hx rfl (hb hby at_186) rfl (l' := #[.val (.int p1), .val (.int p2), .val (.int p3), .val (.int p4), .val (.int ((p1 &&& (2147483647 : Int32)) % (3 : Int32))), .val (.int (p2 &&& (2147483647 : Int32))), .val (.int (p3 &&& (2147483647 : Int32))), .val (.int z7), .val (.int z8), .val (.ref c9), .val (.ref b2), .val (.ref b9), .val (.int z22), .val (.int y13), .val (.int y14), .val (.int (1 : Int32))]) rfl k9) ?_
                    refine j188 _ (Or.inl ⟨rfl, Or.inr (Or.inr ⟨hk0, hk1, ?_, ?_⟩)⟩)
                    · rcases hy13 with ⟨q, r⟩ | ⟨q, r⟩
                      · exact r
                      · exact absurd q h13
                    · rcases hy14 with ⟨q, r⟩ | ⟨q, r⟩
                      · exact r
                      · exact absurd q h14
          refine own_st (T' := T22) (g' := (mkF m 136 #[.val (.int p1), .val (.int p2), .val (.int p3), .val (.int p4), .val (.int ((p1 &&& (2147483647 : Int32)) % (3 : Int32))), .val (.int (p2 &&& (2147483647 : Int32))), .val (.int (p3 &&& (2147483647 : Int32))), .val (.int z7), .val (.int z8), .val (.ref c9), .val (.ref b2), .val (.ref b9), .val (.int z22), .val (.int y13), .val (.int (1 : Int32)), .unset] [(.int (p3 &&& (2147483647 : Int32)))])) (fun t9 k9 => XS.iload X22.here hx rfl (hb hby at_134) rfl k9) ?_
          by_cases hf : (p3 &&& (2147483647 : Int32)) = (0 : Int32)
          · refine own_st (T' := T22) (g' := (mkF m 147 #[.val (.int p1), .val (.int p2), .val (.int p3), .val (.int p4), .val (.int ((p1 &&& (2147483647 : Int32)) % (3 : Int32))), .val (.int (p2 &&& (2147483647 : Int32))), .val (.int (p3 &&& (2147483647 : Int32))), .val (.int z7), .val (.int z8), .val (.ref c9), .val (.ref b2), .val (.ref b9), .val (.int z22), .val (.int y13), .val (.int (1 : Int32)), .unset] [])) (fun t9 k9 => XS.ifYes X22.here hx rfl (pc0 := 136) (pc' := 147) rfl (hb hby at_136) rfl ((if0 _ _).trans (teq hf).1) (by decide) (by decide) k9) ?_
            exact j147 _ (Or.inl ⟨rfl, Or.inl hf⟩)
          · refine own_st (T' := T22) (g' := (mkF m 139 #[.val (.int p1), .val (.int p2), .val (.int p3), .val (.int p4), .val (.int ((p1 &&& (2147483647 : Int32)) % (3 : Int32))), .val (.int (p2 &&& (2147483647 : Int32))), .val (.int (p3 &&& (2147483647 : Int32))), .val (.int z7), .val (.int z8), .val (.ref c9), .val (.ref b2), .val (.ref b9), .val (.int z22), .val (.int y13), .val (.int (1 : Int32)), .unset] [])) (fun t9 k9 => XS.ifNo X22.here hx rfl (hb hby at_136) rfl ((if0 _ _).trans (feq hf).1) k9) ?_
            refine own_st (T' := T22) (g' := (mkF m 141 #[.val (.int p1), .val (.int p2), .val (.int p3), .val (.int p4), .val (.int ((p1 &&& (2147483647 : Int32)) % (3 : Int32))), .val (.int (p2 &&& (2147483647 : Int32))), .val (.int (p3 &&& (2147483647 : Int32))), .val (.int z7), .val (.int z8), .val (.ref c9), .val (.ref b2), .val (.ref b9), .val (.int z22), .val (.int y13), .val (.int (1 : Int32)), .unset] [(.int (p2 &&& (2147483647 : Int32)))])) (fun t9 k9 => XS.iload X22.here hx rfl (hb hby at_139) rfl k9) ?_
            by_cases ht : (p2 &&& (2147483647 : Int32)) = (0 : Int32)
            · refine own_st (T' := T22) (g' := (mkF m 144 #[.val (.int p1), .val (.int p2), .val (.int p3), .val (.int p4), .val (.int ((p1 &&& (2147483647 : Int32)) % (3 : Int32))), .val (.int (p2 &&& (2147483647 : Int32))), .val (.int (p3 &&& (2147483647 : Int32))), .val (.int z7), .val (.int z8), .val (.ref c9), .val (.ref b2), .val (.ref b9), .val (.int z22), .val (.int y13), .val (.int (1 : Int32)), .unset] [])) (fun t9 k9 => XS.ifNo X22.here hx rfl (hb hby at_141) rfl ((if0 _ _).trans (teq ht).2) k9) ?_
              refine own_st (T' := T22) (g' := (mkF m 145 #[.val (.int p1), .val (.int p2), .val (.int p3), .val (.int p4), .val (.int ((p1 &&& (2147483647 : Int32)) % (3 : Int32))), .val (.int (p2 &&& (2147483647 : Int32))), .val (.int (p3 &&& (2147483647 : Int32))), .val (.int z7), .val (.int z8), .val (.ref c9), .val (.ref b2), .val (.ref b9), .val (.int z22), .val (.int y13), .val (.int (1 : Int32)), .unset] [(.int (0 : Int32))])) (fun t9 k9 => XS.iconst X22.here hx rfl (hb hby at_144) k9) ?_
              refine own_st (T' := T22) (g' := (mkF m 147 #[.val (.int p1), .val (.int p2), .val (.int p3), .val (.int p4), .val (.int ((p1 &&& (2147483647 : Int32)) % (3 : Int32))), .val (.int (p2 &&& (2147483647 : Int32))), .val (.int (p3 &&& (2147483647 : Int32))), .val (.int z7), .val (.int z8), .val (.ref c9), .val (.ref b2), .val (.ref b9), .val (.int z22), .val (.int y13), .val (.int (0 : Int32)), .unset] [])) (fun t9 k9 => XS.istore X22.here hx rfl (hb hby at_145) rfl (l' := #[.val (.int p1), .val (.int p2), .val (.int p3), .val (.int p4), .val (.int ((p1 &&& (2147483647 : Int32)) % (3 : Int32))), .val (.int (p2 &&& (2147483647 : Int32))), .val (.int (p3 &&& (2147483647 : Int32))), .val (.int z7), .val (.int z8), .val (.ref c9), .val (.ref b2), .val (.ref b9), .val (.int z22), .val (.int y13), .val (.int (0 : Int32)), .unset]) rfl k9) ?_
              exact j147 _ (Or.inr ⟨rfl, fun q => q.elim hf (fun r => r ht)⟩)
            · refine own_st (T' := T22) (g' := (mkF m 147 #[.val (.int p1), .val (.int p2), .val (.int p3), .val (.int p4), .val (.int ((p1 &&& (2147483647 : Int32)) % (3 : Int32))), .val (.int (p2 &&& (2147483647 : Int32))), .val (.int (p3 &&& (2147483647 : Int32))), .val (.int z7), .val (.int z8), .val (.ref c9), .val (.ref b2), .val (.ref b9), .val (.int z22), .val (.int y13), .val (.int (1 : Int32)), .unset] [])) (fun t9 k9 => XS.ifYes X22.here hx rfl (pc0 := 141) (pc' := 147) rfl (hb hby at_141) rfl ((if0 _ _).trans (feq ht).2) (by decide) (by decide) k9) ?_
              exact j147 _ (Or.inl ⟨rfl, Or.inr ht⟩)
        refine own_st (T' := T22) (g' := (mkF m 120 #[.val (.int p1), .val (.int p2), .val (.int p3), .val (.int p4), .val (.int ((p1 &&& (2147483647 : Int32)) % (3 : Int32))), .val (.int (p2 &&& (2147483647 : Int32))), .val (.int (p3 &&& (2147483647 : Int32))), .val (.int z7), .val (.int z8), .val (.ref c9), .val (.ref b2), .val (.ref b9), .val (.int z22), .val (.int (1 : Int32)), .unset, .unset] [(.int z8)])) (fun t9 k9 => XS.iload X22.here hx rfl (hb hby at_118) rfl k9) ?_
        by_cases hf : z8 = (0 : Int32)
        · refine own_st (T' := T22) (g' := (mkF m 131 #[.val (.int p1), .val (.int p2), .val (.int p3), .val (.int p4), .val (.int ((p1 &&& (2147483647 : Int32)) % (3 : Int32))), .val (.int (p2 &&& (2147483647 : Int32))), .val (.int (p3 &&& (2147483647 : Int32))), .val (.int z7), .val (.int z8), .val (.ref c9), .val (.ref b2), .val (.ref b9), .val (.int z22), .val (.int (1 : Int32)), .unset, .unset] [])) (fun t9 k9 => XS.ifYes X22.here hx rfl (pc0 := 120) (pc' := 131) rfl (hb hby at_120) rfl ((if0 _ _).trans (teq hf).1) (by decide) (by decide) k9) ?_
          exact j131 _ (Or.inl ⟨rfl, Or.inl hf⟩)
        · refine own_st (T' := T22) (g' := (mkF m 123 #[.val (.int p1), .val (.int p2), .val (.int p3), .val (.int p4), .val (.int ((p1 &&& (2147483647 : Int32)) % (3 : Int32))), .val (.int (p2 &&& (2147483647 : Int32))), .val (.int (p3 &&& (2147483647 : Int32))), .val (.int z7), .val (.int z8), .val (.ref c9), .val (.ref b2), .val (.ref b9), .val (.int z22), .val (.int (1 : Int32)), .unset, .unset] [])) (fun t9 k9 => XS.ifNo X22.here hx rfl (hb hby at_120) rfl ((if0 _ _).trans (feq hf).1) k9) ?_
          refine own_st (T' := T22) (g' := (mkF m 125 #[.val (.int p1), .val (.int p2), .val (.int p3), .val (.int p4), .val (.int ((p1 &&& (2147483647 : Int32)) % (3 : Int32))), .val (.int (p2 &&& (2147483647 : Int32))), .val (.int (p3 &&& (2147483647 : Int32))), .val (.int z7), .val (.int z8), .val (.ref c9), .val (.ref b2), .val (.ref b9), .val (.int z22), .val (.int (1 : Int32)), .unset, .unset] [(.int z7)])) (fun t9 k9 => XS.iload X22.here hx rfl (hb hby at_123) rfl k9) ?_
          by_cases ht : z7 = (0 : Int32)
          · refine own_st (T' := T22) (g' := (mkF m 128 #[.val (.int p1), .val (.int p2), .val (.int p3), .val (.int p4), .val (.int ((p1 &&& (2147483647 : Int32)) % (3 : Int32))), .val (.int (p2 &&& (2147483647 : Int32))), .val (.int (p3 &&& (2147483647 : Int32))), .val (.int z7), .val (.int z8), .val (.ref c9), .val (.ref b2), .val (.ref b9), .val (.int z22), .val (.int (1 : Int32)), .unset, .unset] [])) (fun t9 k9 => XS.ifNo X22.here hx rfl (hb hby at_125) rfl ((if0 _ _).trans (teq ht).2) k9) ?_
            refine own_st (T' := T22) (g' := (mkF m 129 #[.val (.int p1), .val (.int p2), .val (.int p3), .val (.int p4), .val (.int ((p1 &&& (2147483647 : Int32)) % (3 : Int32))), .val (.int (p2 &&& (2147483647 : Int32))), .val (.int (p3 &&& (2147483647 : Int32))), .val (.int z7), .val (.int z8), .val (.ref c9), .val (.ref b2), .val (.ref b9), .val (.int z22), .val (.int (1 : Int32)), .unset, .unset] [(.int (0 : Int32))])) (fun t9 k9 => XS.iconst X22.here hx rfl (hb hby at_128) k9) ?_
            refine own_st (T' := T22) (g' := (mkF m 131 #[.val (.int p1), .val (.int p2), .val (.int p3), .val (.int p4), .val (.int ((p1 &&& (2147483647 : Int32)) % (3 : Int32))), .val (.int (p2 &&& (2147483647 : Int32))), .val (.int (p3 &&& (2147483647 : Int32))), .val (.int z7), .val (.int z8), .val (.ref c9), .val (.ref b2), .val (.ref b9), .val (.int z22), .val (.int (0 : Int32)), .unset, .unset] [])) (fun t9 k9 => XS.istore X22.here hx rfl (hb hby at_129) rfl (l' := #[.val (.int p1), .val (.int p2), .val (.int p3), .val (.int p4), .val (.int ((p1 &&& (2147483647 : Int32)) % (3 : Int32))), .val (.int (p2 &&& (2147483647 : Int32))), .val (.int (p3 &&& (2147483647 : Int32))), .val (.int z7), .val (.int z8), .val (.ref c9), .val (.ref b2), .val (.ref b9), .val (.int z22), .val (.int (0 : Int32)), .unset, .unset]) rfl k9) ?_
            exact j131 _ (Or.inr ⟨rfl, fun q => q.elim hf (fun r => r ht)⟩)
          · refine own_st (T' := T22) (g' := (mkF m 131 #[.val (.int p1), .val (.int p2), .val (.int p3), .val (.int p4), .val (.int ((p1 &&& (2147483647 : Int32)) % (3 : Int32))), .val (.int (p2 &&& (2147483647 : Int32))), .val (.int (p3 &&& (2147483647 : Int32))), .val (.int z7), .val (.int z8), .val (.ref c9), .val (.ref b2), .val (.ref b9), .val (.int z22), .val (.int (1 : Int32)), .unset, .unset] [])) (fun t9 k9 => XS.ifYes X22.here hx rfl (pc0 := 125) (pc' := 131) rfl (hb hby at_125) rfl ((if0 _ _).trans (feq ht).2) (by decide) (by decide) k9) ?_
            exact j131 _ (Or.inl ⟨rfl, Or.inr ht⟩)
      by_cases hk0 : ((p1 &&& (2147483647 : Int32)) % (3 : Int32)) = (0 : Int32)
      · refine own_st (T' := T0) (g' := (mkF m 51 #[.val (.int p1), .val (.int p2), .val (.int p3), .val (.int p4), .val (.int ((p1 &&& (2147483647 : Int32)) % (3 : Int32))), .val (.int (p2 &&& (2147483647 : Int32))), .val (.int (p3 &&& (2147483647 : Int32))), .val (.int z7), .val (.int z8), .unset, .unset, .unset, .unset, .unset, .unset, .unset] [])) (fun t9 k9 => XS.ifNo X0.here hx rfl (hb hby at_48) rfl ((if0 _ _).trans (teq hk0).2) k9) ?_
        obtain ⟨T23, X23, e23, st23⟩ := getS2 X0 hx hZ hown (host := "") (Or.inl (hw _ (List.mem_of_getElem? (i := 1) rfl))) Via.refl e0 S_NOTHING (g := (mkF m 51 #[.val (.int p1), .val (.int p2), .val (.int p3), .val (.int p4), .val (.int ((p1 &&& (2147483647 : Int32)) % (3 : Int32))), .val (.int (p2 &&& (2147483647 : Int32))), .val (.int (p3 &&& (2147483647 : Int32))), .val (.int z7), .val (.int z8), .unset, .unset, .unset, .unset, .unset, .unset, .unset] [])) rfl (hb hby at_51)
        refine own_st (T' := T23) (g' := (mkF m 54 #[.val (.int p1), .val (.int p2), .val (.int p3), .val (.int p4), .val (.int ((p1 &&& (2147483647 : Int32)) % (3 : Int32))), .val (.int (p2 &&& (2147483647 : Int32))), .val (.int (p3 &&& (2147483647 : Int32))), .val (.int z7), .val (.int z8), .unset, .unset, .unset, .unset, .unset, .unset, .unset] [(.ref c_NOTHING)])) (fun t9 k9 => st23 t9 k9) ?_
        refine own_st (T' := T23) (g' := (mkF m 56 #[.val (.int p1), .val (.int p2), .val (.int p3), .val (.int p4), .val (.int ((p1 &&& (2147483647 : Int32)) % (3 : Int32))), .val (.int (p2 &&& (2147483647 : Int32))), .val (.int (p3 &&& (2147483647 : Int32))), .val (.int z7), .val (.int z8), .val (.ref c_NOTHING), .unset, .unset, .unset, .unset, .unset, .unset] [])) (fun t9 k9 => XS.astore X23.here hx rfl (hb hby at_54) rfl rfl (l' := #[.val (.int p1), .val (.int p2), .val (.int p3), .val (.int p4), .val (.int ((p1 &&& (2147483647 : Int32)) % (3 : Int32))), .val (.int (p2 &&& (2147483647 : Int32))), .val (.int (p3 &&& (2147483647 : Int32))), .val (.int z7), .val (.int z8), .val (.ref c_NOTHING), .unset, .unset, .unset, .unset, .unset, .unset]) rfl k9) ?_
        refine own_st (T' := T23) (g' := (mkF m 78 #[.val (.int p1), .val (.int p2), .val (.int p3), .val (.int p4), .val (.int ((p1 &&& (2147483647 : Int32)) % (3 : Int32))), .val (.int (p2 &&& (2147483647 : Int32))), .val (.int (p3 &&& (2147483647 : Int32))), .val (.int z7), .val (.int z8), .val (.ref c_NOTHING), .unset, .unset, .unset, .unset, .unset, .unset] [])) (fun t9 k9 => XS.goto X23.here hx rfl (pc0 := 56) (pc' := 78) rfl (hb hby at_56) (by decide) (by decide) k9) ?_
        exact j78 _ _ _ _ X23 e23 N0 E_NOTHING Fo_NOTHING hk0.symm (Or.inl rfl)
      · refine own_st (T' := T0) (g' := (mkF m 59 #[.val (.int p1), .val (.int p2), .val (.int p3), .val (.int p4), .val (.int ((p1 &&& (2147483647 : Int32)) % (3 : Int32))), .val (.int (p2 &&& (2147483647 : Int32))), .val (.int (p3 &&& (2147483647 : Int32))), .val (.int z7), .val (.int z8), .unset, .unset, .unset, .unset, .unset, .unset, .unset] [])) (fun t9 k9 => XS.ifYes X0.here hx rfl (pc0 := 48) (pc' := 59) rfl (hb hby at_48) rfl ((if0 _ _).trans (feq hk0).2) (by decide) (by decide) k9) ?_
        refine own_st (T' := T0) (g' := (mkF m 61 #[.val (.int p1), .val (.int p2), .val (.int p3), .val (.int p4), .val (.int ((p1 &&& (2147483647 : Int32)) % (3 : Int32))), .val (.int (p2 &&& (2147483647 : Int32))), .val (.int (p3 &&& (2147483647 : Int32))), .val (.int z7), .val (.int z8), .unset, .unset, .unset, .unset, .unset, .unset, .unset] [(.int ((p1 &&& (2147483647 : Int32)) % (3 : Int32)))])) (fun t9 k9 => XS.iload X0.here hx rfl (hb hby at_59) rfl k9) ?_
        refine own_st (T' := T0) (g' := (mkF m 62 #[.val (.int p1), .val (.int p2), .val (.int p3), .val (.int p4), .val (.int ((p1 &&& (2147483647 : Int32)) % (3 : Int32))), .val (.int (p2 &&& (2147483647 : Int32))), .val (.int (p3 &&& (2147483647 : Int32))), .val (.int z7), .val (.int z8), .unset, .unset, .unset, .unset, .unset, .unset, .unset] [(.int (1 : Int32)), (.int ((p1 &&& (2147483647 : Int32)) % (3 : Int32)))])) (fun t9 k9 => XS.iconst X0.here hx rfl (hb hby at_61) k9) ?_
        by_cases hk1 : ((p1 &&& (2147483647 : Int32)) % (3 : Int32)) = (1 : Int32)
        · refine own_st (T' := T0) (g' := (mkF m 65 #[.val (.int p1), .val (.int p2), .val (.int p3), .val (.int p4), .val (.int ((p1 &&& (2147483647 : Int32)) % (3 : Int32))), .val (.int (p2 &&& (2147483647 : Int32))), .val (.int (p3 &&& (2147483647 : Int32))), .val (.int z7), .val (.int z8), .unset, .unset, .unset, .unset, .unset, .unset, .unset] [])) (fun t9 k9 => XS.icmpNo X0.here hx rfl (hb hby at_62) rfl (teq hk1).2 k9) ?_
          obtain ⟨T24, X24, e24, st24⟩ := getS2 X0 hx hZ hown (host := "") (Or.inl (hw _ (List.mem_of_getElem? (i := 46) rfl))) Via.refl e0 S_REJECTING (g := (mkF m 65 #[.val (.int p1), .val (.int p2), .val (.int p3), .val (.int p4), .val (.int ((p1 &&& (2147483647 : Int32)) % (3 : Int32))), .val (.int (p2 &&& (2147483647 : Int32))), .val (.int (p3 &&& (2147483647 : Int32))), .val (.int z7), .val (.int z8), .unset, .unset, .unset, .unset, .unset, .unset, .unset] [])) rfl (hb hby at_65)
          refine own_st (T' := T24) (g' := (mkF m 68 #[.val (.int p1), .val (.int p2), .val (.int p3), .val (.int p4), .val (.int ((p1 &&& (2147483647 : Int32)) % (3 : Int32))), .val (.int (p2 &&& (2147483647 : Int32))), .val (.int (p3 &&& (2147483647 : Int32))), .val (.int z7), .val (.int z8), .unset, .unset, .unset, .unset, .unset, .unset, .unset] [(.ref c_REJECTING)])) (fun t9 k9 => st24 t9 k9) ?_
          refine own_st (T' := T24) (g' := (mkF m 70 #[.val (.int p1), .val (.int p2), .val (.int p3), .val (.int p4), .val (.int ((p1 &&& (2147483647 : Int32)) % (3 : Int32))), .val (.int (p2 &&& (2147483647 : Int32))), .val (.int (p3 &&& (2147483647 : Int32))), .val (.int z7), .val (.int z8), .val (.ref c_REJECTING), .unset, .unset, .unset, .unset, .unset, .unset] [])) (fun t9 k9 => XS.astore X24.here hx rfl (hb hby at_68) rfl rfl (l' := #[.val (.int p1), .val (.int p2), .val (.int p3), .val (.int p4), .val (.int ((p1 &&& (2147483647 : Int32)) % (3 : Int32))), .val (.int (p2 &&& (2147483647 : Int32))), .val (.int (p3 &&& (2147483647 : Int32))), .val (.int z7), .val (.int z8), .val (.ref c_REJECTING), .unset, .unset, .unset, .unset, .unset, .unset]) rfl k9) ?_
          refine own_st (T' := T24) (g' := (mkF m 78 #[.val (.int p1), .val (.int p2), .val (.int p3), .val (.int p4), .val (.int ((p1 &&& (2147483647 : Int32)) % (3 : Int32))), .val (.int (p2 &&& (2147483647 : Int32))), .val (.int (p3 &&& (2147483647 : Int32))), .val (.int z7), .val (.int z8), .val (.ref c_REJECTING), .unset, .unset, .unset, .unset, .unset, .unset] [])) (fun t9 k9 => XS.goto X24.here hx rfl (pc0 := 70) (pc' := 78) rfl (hb hby at_70) (by decide) (by decide) k9) ?_
          exact j78 _ _ _ _ X24 e24 N0 E_REJECTING Fo_REJECTING hk1.symm (Or.inr (Or.inl rfl))
        · refine own_st (T' := T0) (g' := (mkF m 73 #[.val (.int p1), .val (.int p2), .val (.int p3), .val (.int p4), .val (.int ((p1 &&& (2147483647 : Int32)) % (3 : Int32))), .val (.int (p2 &&& (2147483647 : Int32))), .val (.int (p3 &&& (2147483647 : Int32))), .val (.int z7), .val (.int z8), .unset, .unset, .unset, .unset, .unset, .unset, .unset] [])) (fun t9 k9 => XS.icmpYes X0.here hx rfl (pc0 := 62) (pc' := 73) rfl (hb hby at_62) rfl (feq hk1).2 (by decide) (by decide) k9) ?_
          obtain ⟨T25, X25, e25, st25⟩ := getS2 X0 hx hZ hown (host := "") (Or.inl (hw _ (List.mem_of_getElem? (i := 48) rfl))) Via.refl e0 S_CHANGES (g := (mkF m 73 #[.val (.int p1), .val (.int p2), .val (.int p3), .val (.int p4), .val (.int ((p1 &&& (2147483647 : Int32)) % (3 : Int32))), .val (.int (p2 &&& (2147483647 : Int32))), .val (.int (p3 &&& (2147483647 : Int32))), .val (.int z7), .val (.int z8), .unset, .unset, .unset, .unset, .unset, .unset, .unset] [])) rfl (hb hby at_73)
          refine own_st (T' := T25) (g' := (mkF m 76 #[.val (.int p1), .val (.int p2), .val (.int p3), .val (.int p4), .val (.int ((p1 &&& (2147483647 : Int32)) % (3 : Int32))), .val (.int (p2 &&& (2147483647 : Int32))), .val (.int (p3 &&& (2147483647 : Int32))), .val (.int z7), .val (.int z8), .unset, .unset, .unset, .unset, .unset, .unset, .unset] [(.ref c_CHANGES)])) (fun t9 k9 => st25 t9 k9) ?_
          refine own_st (T' := T25) (g' := (mkF m 78 #[.val (.int p1), .val (.int p2), .val (.int p3), .val (.int p4), .val (.int ((p1 &&& (2147483647 : Int32)) % (3 : Int32))), .val (.int (p2 &&& (2147483647 : Int32))), .val (.int (p3 &&& (2147483647 : Int32))), .val (.int z7), .val (.int z8), .val (.ref c_CHANGES), .unset, .unset, .unset, .unset, .unset, .unset] [])) (fun t9 k9 => XS.astore X25.here hx rfl (hb hby at_76) rfl rfl (l' := #[.val (.int p1), .val (.int p2), .val (.int p3), .val (.int p4), .val (.int ((p1 &&& (2147483647 : Int32)) % (3 : Int32))), .val (.int (p2 &&& (2147483647 : Int32))), .val (.int (p3 &&& (2147483647 : Int32))), .val (.int z7), .val (.int z8), .val (.ref c_CHANGES), .unset, .unset, .unset, .unset, .unset, .unset]) rfl k9) ?_
          exact j78 _ _ _ _ X25 e25 N0 E_CHANGES Fo_CHANGES (own_two p1 hk0 hk1) (Or.inr (Or.inr rfl))
    by_cases hbq : (p4 &&& (2 : Int32)) = (0 : Int32)
    · refine own_st (T' := T0) (g' := (mkF m 43 #[.val (.int p1), .val (.int p2), .val (.int p3), .val (.int p4), .val (.int ((p1 &&& (2147483647 : Int32)) % (3 : Int32))), .val (.int (p2 &&& (2147483647 : Int32))), .val (.int (p3 &&& (2147483647 : Int32))), .val (.int z7), .unset, .unset, .unset, .unset, .unset, .unset, .unset, .unset] [])) (fun t9 k9 => XS.ifYes X0.here hx rfl (pc0 := 36) (pc' := 43) rfl (hb hby at_36) rfl ((if0 _ _).trans (teq hbq).1) (by decide) (by decide) k9) ?_
      refine own_st (T' := T0) (g' := (mkF m 44 #[.val (.int p1), .val (.int p2), .val (.int p3), .val (.int p4), .val (.int ((p1 &&& (2147483647 : Int32)) % (3 : Int32))), .val (.int (p2 &&& (2147483647 : Int32))), .val (.int (p3 &&& (2147483647 : Int32))), .val (.int z7), .unset, .unset, .unset, .unset, .unset, .unset, .unset, .unset] [(.int (0 : Int32))])) (fun t9 k9 => XS.iconst X0.here hx rfl (hb hby at_43) k9) ?_
      exact j44 _ (Or.inl rfl)
    · refine own_st (T' := T0) (g' := (mkF m 39 #[.val (.int p1), .val (.int p2), .val (.int p3), .val (.int p4), .val (.int ((p1 &&& (2147483647 : Int32)) % (3 : Int32))), .val (.int (p2 &&& (2147483647 : Int32))), .val (.int (p3 &&& (2147483647 : Int32))), .val (.int z7), .unset, .unset, .unset, .unset, .unset, .unset, .unset, .unset] [])) (fun t9 k9 => XS.ifNo X0.here hx rfl (hb hby at_36) rfl ((if0 _ _).trans (feq hbq).1) k9) ?_
      refine own_st (T' := T0) (g' := (mkF m 40 #[.val (.int p1), .val (.int p2), .val (.int p3), .val (.int p4), .val (.int ((p1 &&& (2147483647 : Int32)) % (3 : Int32))), .val (.int (p2 &&& (2147483647 : Int32))), .val (.int (p3 &&& (2147483647 : Int32))), .val (.int z7), .unset, .unset, .unset, .unset, .unset, .unset, .unset, .unset] [(.int (1 : Int32))])) (fun t9 k9 => XS.iconst X0.here hx rfl (hb hby at_39) k9) ?_
      refine own_st (T' := T0) (g' := (mkF m 44 #[.val (.int p1), .val (.int p2), .val (.int p3), .val (.int p4), .val (.int ((p1 &&& (2147483647 : Int32)) % (3 : Int32))), .val (.int (p2 &&& (2147483647 : Int32))), .val (.int (p3 &&& (2147483647 : Int32))), .val (.int z7), .unset, .unset, .unset, .unset, .unset, .unset, .unset, .unset] [(.int (1 : Int32))])) (fun t9 k9 => XS.goto X0.here hx rfl (pc0 := 40) (pc' := 44) rfl (hb hby at_40) (by decide) (by decide) k9) ?_
      exact j44 _ (Or.inr rfl)
  by_cases hbq : (p4 &&& (1 : Int32)) = (0 : Int32)
  · refine own_st (T' := T0) (g' := (mkF m 30 #[.val (.int p1), .val (.int p2), .val (.int p3), .val (.int p4), .val (.int ((p1 &&& (2147483647 : Int32)) % (3 : Int32))), .val (.int (p2 &&& (2147483647 : Int32))), .val (.int (p3 &&& (2147483647 : Int32))), .unset, .unset, .unset, .unset, .unset, .unset, .unset, .unset, .unset] [])) (fun t9 k9 => XS.ifYes X0.here hx rfl (pc0 := 23) (pc' := 30) rfl (hb hby at_23) rfl ((if0 _ _).trans (teq hbq).1) (by decide) (by decide) k9) ?_
    refine own_st (T' := T0) (g' := (mkF m 31 #[.val (.int p1), .val (.int p2), .val (.int p3), .val (.int p4), .val (.int ((p1 &&& (2147483647 : Int32)) % (3 : Int32))), .val (.int (p2 &&& (2147483647 : Int32))), .val (.int (p3 &&& (2147483647 : Int32))), .unset, .unset, .unset, .unset, .unset, .unset, .unset, .unset, .unset] [(.int (0 : Int32))])) (fun t9 k9 => XS.iconst X0.here hx rfl (hb hby at_30) k9) ?_
    exact j31 _ (Or.inl rfl)
  · refine own_st (T' := T0) (g' := (mkF m 26 #[.val (.int p1), .val (.int p2), .val (.int p3), .val (.int p4), .val (.int ((p1 &&& (2147483647 : Int32)) % (3 : Int32))), .val (.int (p2 &&& (2147483647 : Int32))), .val (.int (p3 &&& (2147483647 : Int32))), .unset, .unset, .unset, .unset, .unset, .unset, .unset, .unset, .unset] [])) (fun t9 k9 => XS.ifNo X0.here hx rfl (hb hby at_23) rfl ((if0 _ _).trans (feq hbq).1) k9) ?_
    refine own_st (T' := T0) (g' := (mkF m 27 #[.val (.int p1), .val (.int p2), .val (.int p3), .val (.int p4), .val (.int ((p1 &&& (2147483647 : Int32)) % (3 : Int32))), .val (.int (p2 &&& (2147483647 : Int32))), .val (.int (p3 &&& (2147483647 : Int32))), .unset, .unset, .unset, .unset, .unset, .unset, .unset, .unset, .unset] [(.int (1 : Int32))])) (fun t9 k9 => XS.iconst X0.here hx rfl (hb hby at_26) k9) ?_
    refine own_st (T' := T0) (g' := (mkF m 31 #[.val (.int p1), .val (.int p2), .val (.int p3), .val (.int p4), .val (.int ((p1 &&& (2147483647 : Int32)) % (3 : Int32))), .val (.int (p2 &&& (2147483647 : Int32))), .val (.int (p3 &&& (2147483647 : Int32))), .unset, .unset, .unset, .unset, .unset, .unset, .unset, .unset, .unset] [(.int (1 : Int32))])) (fun t9 k9 => XS.goto X0.here hx rfl (pc0 := 27) (pc' := 31) rfl (hb hby at_27) (by decide) (by decide) k9) ?_
    exact j31 _ (Or.inr rfl)
set_option maxRecDepth 65536 in
set_option maxHeartbeats 40000000 in
theorem comes_1 {Post : Tables → Env → Array Value → State → Outcome → State → Prop} (hpost : ∀ tb e args s v u, (limb_1_1.after args s (.returned v) u = true ∧ limb_1_2.after args s (.returned v) u = true ∧ True) → FrameEnd s (.returned v) u (Jvm.fieldLocs frame_1_writes args s ++ Jvm.arrayLocs frame_1_arrays args s ++ Jvm.staticLocs frame_1_statics s) 16 128 → Post tb e args s (.returned v) u) :
    ArmFor flags0 classFile x code maxLocals ret World_1 tables_1 room_1 Calls_1 rest_1 Pre_1 Post := by
  intro l hfl _ _ p e ha hc hk s m args below hf hA hF happ hP
  obtain ⟨hcalls, hrest, hpre⟩ := hP
  obtain ⟨-, -, -, hnamed, -, -, -, hat⟩ := (Spec.applies_iff hf).mp happ
  obtain ⟨hg, hn⟩ := and_e (Cond.before_iff.mp (show (Jvm.Cond.and given_1 narrow_1).before args s = true from hpre))
  obtain ⟨ga0, gb0⟩ := and_e hg
  obtain ⟨ga1, gb1⟩ := and_e gb0
  obtain ⟨ga2, gb2⟩ := and_e gb1
  obtain ⟨ga3, gb3⟩ := and_e gb2
  obtain ⟨w0, w1, w2, w3, rfl⟩ : ∃ w0 w1 w2 w3 : Value, args = #[w0, w1, w2, w3] := by
    have hs : args.size = 4 := by simpa [Cond.value, given_1] using ga0
    obtain ⟨L⟩ := args
    match L, hs with
    | [w0, w1, w2, w3], _ => exact ⟨w0, w1, w2, w3, rfl⟩
  have hw := fun d (hd : d ∈ tables_1) => atoms_spec (ws := Jvm.Cond.code x code maxLocals ret :: tables_1) hat d (List.mem_cons_of_mem _ hd)
  have hfit : Fit s := fun {y c} hc i hi => by
    obtain ⟨ha, rfl⟩ := Array.getElem?_eq_some_iff.mp hc
    have q := List.all_eq_true.mp ((Array.all_eq_true_iff_forall_mem.mp hF) _ (Array.getElem_mem ha)) i (List.mem_range.mpr hi)
    simpa [Array.getElem?_eq_getElem hi] using q
  obtain ⟨i0, ei0⟩ := is_v ga1
  obtain rfl : w0 = (.int i0) := Option.some.inj ei0
  obtain ⟨i1, ei1⟩ := is_v ga2
  obtain rfl : w1 = (.int i1) := Option.some.inj ei1
  obtain ⟨i2, ei2⟩ := is_v ga3
  obtain rfl : w2 = (.int i2) := Option.some.inj ei2
  obtain ⟨i3, ei3⟩ := is_v gb3
  obtain rfl : w3 = (.int i3) := Option.some.inj ei3
  obtain ⟨xNOTHING1, yNOTHING1⟩ := and_e hn
  obtain ⟨xNOTHING2, yNOTHING2⟩ := and_e yNOTHING1
  obtain ⟨c_NOTHING, ev_NOTHING⟩ := exa_v xNOTHING1
  have E_NOTHING := Exa.start ev_NOTHING xNOTHING1
  have S_NOTHING := Sta.start ev_NOTHING (Or.inr ⟨(hw _ (List.mem_of_getElem? (i := 2) rfl)), (hw _ (List.mem_of_getElem? (i := 3) rfl))⟩)
  have Fo_NOTHING := Fld.start ((fld_at ev_NOTHING).symm.trans (eqv_i (Term.int_eval (0)) xNOTHING2))
  obtain ⟨xREJECTING1, yREJECTING1⟩ := and_e yNOTHING2
  obtain ⟨xREJECTING2, yREJECTING2⟩ := and_e yREJECTING1
  obtain ⟨c_REJECTING, ev_REJECTING⟩ := exa_v xREJECTING1
  have E_REJECTING := Exa.start ev_REJECTING xREJECTING1
  have S_REJECTING := Sta.start ev_REJECTING (Or.inr ⟨(hw _ (List.mem_of_getElem? (i := 2) rfl)), (hw _ (List.mem_of_getElem? (i := 47) rfl))⟩)
  have Fo_REJECTING := Fld.start ((fld_at ev_REJECTING).symm.trans (eqv_i (Term.int_eval (1)) xREJECTING2))
  obtain ⟨xCHANGES1, yCHANGES1⟩ := and_e yREJECTING2
  have xCHANGES2 := yCHANGES1
  obtain ⟨c_CHANGES, ev_CHANGES⟩ := exa_v xCHANGES1
  have E_CHANGES := Exa.start ev_CHANGES xCHANGES1
  have S_CHANGES := Sta.start ev_CHANGES (Or.inr ⟨(hw _ (List.mem_of_getElem? (i := 2) rfl)), (hw _ (List.mem_of_getElem? (i := 49) rfl))⟩)
  have Fo_CHANGES := Fld.start ((fld_at ev_CHANGES).symm.trans (eqv_i (Term.int_eval (2)) xCHANGES2))
  obtain ⟨n, o, h1, h2, h3, _, L, rfl, ⟨rfl, N⟩, hq⟩ := rm0 l s _ hw i0 i1 i2 i3 c_NOTHING c_REJECTING c_CHANGES s.heap s.heap.size (Nat.le_refl _) S_NOTHING E_NOTHING Fo_NOTHING S_REJECTING E_REJECTING Fo_REJECTING S_CHANGES E_CHANGES Fo_CHANGES tables_1 p e ha hc hk s m _ below hf ((Spec.applies_iff_loose hf).mp happ).1 ⟨rfl, State.Warmed39.refl s, rfl⟩ trivial
  refine ⟨n, _, h1, h2, h3, hpost _ _ _ _ _ _ ⟨Cond.after_iff.mpr rfl, Cond.after_iff.mpr (eq_i res_at (Term.int_eval (1)) rfl), trivial⟩ ⟨hq.1, hq.2.1, (hq.2.2.sift fun y hy => Or.inr (N y hy)).mono (by decide) (by decide)⟩⟩
theorem main_1_1 : Claimed_1_1 := comes_1 fun _ _ _ _ _ _ h hF => ⟨h.1, hF⟩
theorem main_1_2 : Claimed_1_2 := comes_1 fun _ _ _ _ _ _ h hF => ⟨h.2.1, hF⟩
end Jvm.Pilot.@@N@@
namespace Jvm.Pilot.@@N@@
open Jvm Jvm.ClassFile Sem Op Lib Jvm.Free Jvm.Stand Jvm.Pilot.@@N@@.Jvm.D
/-! MADE BY PROGRAM (witnessworld.py) out of the Statement's table words and the real class files: 14 classes; the members and pool entries that the words name. The judged class is class 1, her method 1. -/
namespace start1
open Jvm.ClassFile
def u (s : String) : CpInfo := .utf8 (stringToUtf16 s)
/-- a pool by its gaps: so many unusable entries, then the entry; so many at the end -/
def gap : Nat → List CpInfo → List CpInfo
  | 0, r => r
  | n + 1, r => .unusable :: gap n r
def poolList (es : List (Nat × CpInfo)) (last : Nat) : List CpInfo := es.foldr (fun e r => gap e.1 (e.2 :: r)) (gap last [])
def pool (es : List (Nat × CpInfo)) (last : Nat) : Array CpInfo := ⟨poolList es last⟩
def fileOf (pool : Array CpInfo) (this : Nat) (attrs : Array Attribute := #[]) (ms : Array MethodInfo := #[]) (fl : Nat := 33) (sup : Nat := 0) (ifs : Array Nat := #[]) (fds : Array FieldInfo := #[]) : ClassFile where
  minorVersion := 0
  majorVersion := 65
  constantPool := pool
  accessFlags := fl
  thisClass := this
  superClass := sup
  interfaces := ifs
  fields := fds
  methods := ms
  attributes := attrs
def plain (name : String) (sup : Option ClassId) : Class where
  name := name
  kind := .ordinary
  loader := none
  accessFlags := 33
  super := sup
  interfaces := #[]
  cf := none
  fields := #[]
  methods := #[]
  instanceTypes := #[]
  staticTypes := #[]
  resolved := #[]
  callSites := []
  init := .initialized
  statics := none
  mirror := none

def pool0 : Array CpInfo := pool [(5, u "<init>"), (0, u "()V"), (1, .class_ 10), (1, u "java/lang/Object")] 113

def k0c0 : Code := { maxStack := 0, maxLocals := 1, code := object_method_1_code, exceptionTable := #[], attributes := #[] }
def k0m0 : Method := { name := "<init>", desc := "()V", sig := { parameters := [], returnType := none }, accessFlags := 1, code := some k0c0 }
/-- java/lang/Object -/
def k0 : Class := { plain "java/lang/Object" none with
  accessFlags := 33
  interfaces := #[]
  cf := some (fileOf pool0 8 #[] #[{ accessFlags := 1, nameIndex := 5, descriptorIndex := 6, attributes := #[] }] 33 0 #[] #[])
  fields := #[]
  methods := #[k0m0]
  instanceTypes := #[]
  staticTypes := #[]
  resolved := Array.replicate 124 none
  statics := none }

def pool1 : Array CpInfo := pool [(2, .class_ 4), (1, u "java/lang/Object"), (0, u "<init>"), (0, u "()V"), (0, .integer 2147483647), (0, .fieldref 9 10), (0, .class_ 11), (0, .nameAndType 12 13), (0, u "com/example/semverdict/semverdict/change/Asked"), (0, u "NOTHING"), (0, u "Lcom/example/semverdict/semverdict/change/Asked;"), (0, .fieldref 9 15), (0, .nameAndType 16 13), (0, u "REJECTING"), (0, .fieldref 9 18), (0, .nameAndType 19 13), (0, u "CHANGES"), (0, .class_ 21), (0, u "com/example/semverdict/semverdict/change/Probe"), (0, .methodref 20 23), (0, .nameAndType 5 24), (0, u "(IZ)V"), (0, .methodref 9 26), (0, .nameAndType 27 28), (0, u "holds"), (0, u "(Lcom/example/semverdict/semverdict/change/Probe;Lcom/example/semverdict/semverdict/change/Probe;)Z"), (0, .class_ 30), (0, u "com/example/semverdict/semverdict/change/AskedHoldsPinLaw"), (2, u "law"), (0, u "(IIII)Z")] 3

def k1m0 : Method := { name := "<init>", desc := "()V", sig := { parameters := [], returnType := none }, accessFlags := 2, code := none }
def k1c1 : Code := { maxStack := 4, maxLocals := 16, code := code, exceptionTable := #[], attributes := #[] }
def k1m1 : Method := { name := "law", desc := "(IIII)Z", sig := { parameters := [.int, .int, .int, .int], returnType := some .boolean }, accessFlags := 9, code := some k1c1 }
/-- com/example/semverdict/semverdict/change/AskedHoldsPinLaw -/
def k1 : Class := { plain "com/example/semverdict/semverdict/change/AskedHoldsPinLaw" (some 0) with
  accessFlags := 49
  interfaces := #[]
  cf := some (fileOf pool1 29 #[] #[{ accessFlags := 2, nameIndex := 5, descriptorIndex := 6, attributes := #[] }, { accessFlags := 9, nameIndex := 33, descriptorIndex := 34, attributes := #[] }] 49 2 #[] #[])
  fields := #[]
  methods := #[k1m0, k1m1]
  instanceTypes := #[]
  staticTypes := #[]
  resolved := Array.replicate 38 none
  statics := none }

def pool2 : Array CpInfo := pool [(1, .class_ 2), (0, u "java/lang/constant/Constable"), (0, .class_ 4), (0, u "java/lang/Object")] 6

/-- java/lang/constant/Constable -/
def k2 : Class := { plain "java/lang/constant/Constable" (some 0) with
  accessFlags := 1537
  interfaces := #[]
  cf := some (fileOf pool2 1 #[] #[] 1537 3 #[] #[])
  fields := #[]
  methods := #[]
  instanceTypes := #[]
  staticTypes := #[]
  resolved := Array.replicate 11 none
  statics := none }

def pool3 : Array CpInfo := pool [(1, .class_ 2), (0, u "java/lang/Comparable"), (0, .class_ 4), (0, u "java/lang/Object")] 7

/-- java/lang/Comparable -/
def k3 : Class := { plain "java/lang/Comparable" (some 0) with
  accessFlags := 1537
  interfaces := #[]
  cf := some (fileOf pool3 1 #[] #[] 1537 3 #[] #[])
  fields := #[]
  methods := #[]
  instanceTypes := #[]
  staticTypes := #[]
  resolved := Array.replicate 12 none
  statics := none }

def pool4 : Array CpInfo := pool [(1, .class_ 2), (0, u "java/io/Serializable"), (0, .class_ 4), (0, u "java/lang/Object")] 2

/-- java/io/Serializable -/
def k4 : Class := { plain "java/io/Serializable" (some 0) with
  accessFlags := 1537
  interfaces := #[]
  cf := some (fileOf pool4 1 #[] #[] 1537 3 #[] #[])
  fields := #[]
  methods := #[]
  instanceTypes := #[]
  staticTypes := #[]
  resolved := Array.replicate 7 none
  statics := none }

def pool5 : Array CpInfo := pool [(2, .class_ 4), (1, u "java/lang/Enum"), (0, u "name"), (0, u "Ljava/lang/String;"), (0, .fieldref 2 8), (0, .nameAndType 9 10), (0, u "ordinal"), (0, u "I"), (1, .class_ 14), (1, u "java/lang/Object"), (4, u "hash"), (86, .class_ 108), (1, u "java/lang/Enum$EnumDesc"), (2, .class_ 112), (0, u "java/lang/constant/Constable"), (0, .class_ 114), (0, u "java/lang/Comparable"), (0, .class_ 116), (0, u "java/io/Serializable"), (9, u "()I")] 77

def k5c0 : Code := { maxStack := 1, maxLocals := 1, code := jdk_37_method_2_code, exceptionTable := #[], attributes := #[] }
def k5m0 : Method := { name := "ordinal", desc := "()I", sig := { parameters := [], returnType := some .int }, accessFlags := 17, code := some k5c0 }
/-- java/lang/Enum -/
def k5 : Class := { plain "java/lang/Enum" (some 0) with
  accessFlags := 1057
  interfaces := #[2, 3, 4]
  cf := some (fileOf pool5 2 #[.nestMembers #[106]] #[{ accessFlags := 17, nameIndex := 9, descriptorIndex := 126, attributes := #[] }] 1057 12 #[111, 113, 115] #[{ accessFlags := 18, nameIndex := 5, descriptorIndex := 6, attributes := #[] }, { accessFlags := 18, nameIndex := 9, descriptorIndex := 10, attributes := #[] }, { accessFlags := 2, nameIndex := 19, descriptorIndex := 10, attributes := #[] }])
  fields := #[{ name := "name", type := (.object "java/lang/String"), accessFlags := 18, slot := 0, constantValue := 0 }, { name := "ordinal", type := .int, accessFlags := 18, slot := 1, constantValue := 0 }, { name := "hash", type := .int, accessFlags := 2, slot := 2, constantValue := 0 }]
  methods := #[k5m0]
  instanceTypes := #[(.object "java/lang/String"), .int, .int]
  staticTypes := #[]
  resolved := Array.replicate 204 none
  statics := none }

def pool6 : Array CpInfo := pool [(1, .class_ 2), (0, u "com/example/semverdict/semverdict/change/Asked"), (2, u "NOTHING"), (0, u "Lcom/example/semverdict/semverdict/change/Asked;"), (2, u "REJECTING"), (2, u "CHANGES"), (2, u "$VALUES"), (0, u "[Lcom/example/semverdict/semverdict/change/Asked;"), (6, .class_ 25), (1, u "java/lang/Enum"), (6, .methodref 33 34), (0, .class_ 35), (0, .nameAndType 36 37), (0, u "com/example/semverdict/semverdict/change/Probe"), (0, u "rejecting"), (0, u "()Z"), (0, .methodref 33 39), (0, .nameAndType 40 41), (0, u "changes"), (0, u "()I"), (0, .methodref 1 43), (0, .nameAndType 44 41), (0, u "ordinal"), (24, u "holds"), (0, u "(Lcom/example/semverdict/semverdict/change/Probe;Lcom/example/semverdict/semverdict/change/Probe;)Z")] 7

def k6c0 : Code := { maxStack := 4, maxLocals := 5, code := prog_1_method_4_code, exceptionTable := #[], attributes := #[] }
def k6m0 : Method := { name := "holds", desc := "(Lcom/example/semverdict/semverdict/change/Probe;Lcom/example/semverdict/semverdict/change/Probe;)Z", sig := { parameters := [(.object "com/example/semverdict/semverdict/change/Probe"), (.object "com/example/semverdict/semverdict/change/Probe")], returnType := some .boolean }, accessFlags := 0, code := some k6c0 }
/-- com/example/semverdict/semverdict/change/Asked -/
def k6 : Class := { plain "com/example/semverdict/semverdict/change/Asked" (some 5) with
  accessFlags := 16432
  interfaces := #[]
  cf := some (fileOf pool6 1 #[] #[{ accessFlags := 0, nameIndex := 69, descriptorIndex := 70, attributes := #[] }] 16432 23 #[] #[{ accessFlags := 16409, nameIndex := 5, descriptorIndex := 6, attributes := #[] }, { accessFlags := 16409, nameIndex := 9, descriptorIndex := 6, attributes := #[] }, { accessFlags := 16409, nameIndex := 12, descriptorIndex := 6, attributes := #[] }, { accessFlags := 4122, nameIndex := 15, descriptorIndex := 16, attributes := #[] }])
  fields := #[{ name := "NOTHING", type := (.object "com/example/semverdict/semverdict/change/Asked"), accessFlags := 16409, slot := 0, constantValue := 0 }, { name := "REJECTING", type := (.object "com/example/semverdict/semverdict/change/Asked"), accessFlags := 16409, slot := 1, constantValue := 0 }, { name := "CHANGES", type := (.object "com/example/semverdict/semverdict/change/Asked"), accessFlags := 16409, slot := 2, constantValue := 0 }, { name := "$VALUES", type := (.array (.object "com/example/semverdict/semverdict/change/Asked")), accessFlags := 4122, slot := 3, constantValue := 0 }]
  methods := #[k6m0]
  instanceTypes := #[(.object "java/lang/String"), .int, .int]
  staticTypes := #[(.object "com/example/semverdict/semverdict/change/Asked"), (.object "com/example/semverdict/semverdict/change/Asked"), (.object "com/example/semverdict/semverdict/change/Asked"), (.array (.object "com/example/semverdict/semverdict/change/Asked"))]
  resolved := Array.replicate 78 none
  statics := some 0 }

def pool7 : Array CpInfo := pool [(1, .methodref 2 3), (0, .class_ 4), (0, .nameAndType 5 6), (0, u "java/lang/Object"), (0, u "<init>"), (0, u "()V"), (0, .class_ 8), (0, u "java/lang/Record")] 13

def k7c0 : Code := { maxStack := 1, maxLocals := 1, code := jdk_30_method_1_code, exceptionTable := #[], attributes := #[] }
def k7m0 : Method := { name := "<init>", desc := "()V", sig := { parameters := [], returnType := none }, accessFlags := 4, code := some k7c0 }
/-- java/lang/Record -/
def k7 : Class := { plain "java/lang/Record" (some 0) with
  accessFlags := 1057
  interfaces := #[]
  cf := some (fileOf pool7 7 #[] #[{ accessFlags := 4, nameIndex := 5, descriptorIndex := 6, attributes := #[] }] 1057 2 #[] #[])
  fields := #[]
  methods := #[k7m0]
  instanceTypes := #[]
  staticTypes := #[]
  resolved := Array.replicate 22 none
  statics := none }

def pool8 : Array CpInfo := pool [(1, .methodref 2 3), (0, .class_ 4), (0, .nameAndType 5 6), (0, u "java/lang/Record"), (0, u "<init>"), (0, u "()V"), (0, .fieldref 8 9), (0, .class_ 10), (0, .nameAndType 11 12), (0, u "com/example/semverdict/semverdict/change/Probe"), (0, u "changes"), (0, u "I"), (0, .fieldref 8 14), (0, .nameAndType 15 16), (0, u "rejecting"), (0, u "Z"), (8, u "(IZ)V"), (17, u "UNCHANGED"), (0, u "Lcom/example/semverdict/semverdict/change/Probe;"), (9, u "()I"), (1, u "()Z")] 22

def k8c0 : Code := { maxStack := 2, maxLocals := 3, code := prog_4_method_1_code, exceptionTable := #[], attributes := #[] }
def k8m0 : Method := { name := "<init>", desc := "(IZ)V", sig := { parameters := [.int, .boolean], returnType := none }, accessFlags := 0, code := some k8c0 }
def k8c1 : Code := { maxStack := 1, maxLocals := 1, code := prog_4_method_7_code, exceptionTable := #[], attributes := #[] }
def k8m1 : Method := { name := "changes", desc := "()I", sig := { parameters := [], returnType := some .int }, accessFlags := 1, code := some k8c1 }
def k8c2 : Code := { maxStack := 1, maxLocals := 1, code := prog_4_method_8_code, exceptionTable := #[], attributes := #[] }
def k8m2 : Method := { name := "rejecting", desc := "()Z", sig := { parameters := [], returnType := some .boolean }, accessFlags := 1, code := some k8c2 }
/-- com/example/semverdict/semverdict/change/Probe -/
def k8 : Class := { plain "com/example/semverdict/semverdict/change/Probe" (some 7) with
  accessFlags := 48
  interfaces := #[]
  cf := some (fileOf pool8 8 #[] #[{ accessFlags := 0, nameIndex := 5, descriptorIndex := 25, attributes := #[] }, { accessFlags := 1, nameIndex := 11, descriptorIndex := 54, attributes := #[] }, { accessFlags := 1, nameIndex := 15, descriptorIndex := 56, attributes := #[] }] 48 2 #[] #[{ accessFlags := 18, nameIndex := 11, descriptorIndex := 12, attributes := #[] }, { accessFlags := 18, nameIndex := 15, descriptorIndex := 16, attributes := #[] }, { accessFlags := 24, nameIndex := 43, descriptorIndex := 44, attributes := #[] }])
  fields := #[{ name := "changes", type := .int, accessFlags := 18, slot := 0, constantValue := 0 }, { name := "rejecting", type := .boolean, accessFlags := 18, slot := 1, constantValue := 0 }, { name := "UNCHANGED", type := (.object "com/example/semverdict/semverdict/change/Probe"), accessFlags := 24, slot := 0, constantValue := 0 }]
  methods := #[k8m0, k8m1, k8m2]
  instanceTypes := #[.int, .boolean]
  staticTypes := #[(.object "com/example/semverdict/semverdict/change/Probe")]
  resolved := Array.replicate 79 none
  statics := none }

def pool9 : Array CpInfo := pool [(1, u "java/lang/Cloneable"), (0, .class_ 1), (0, u "java/lang/Object"), (0, .class_ 3)] 3

/-- java/lang/Cloneable -/
def k9 : Class := { plain "java/lang/Cloneable" (some 0) with
  accessFlags := 1537
  interfaces := #[]
  cf := some (fileOf pool9 2 #[] #[] 1537 4 #[] #[])
  fields := #[]
  methods := #[]
  instanceTypes := #[]
  staticTypes := #[]
  resolved := Array.replicate 8 none
  statics := none }

/-- the primitive byte -/
def k10 : Class := { plain "byte" none with kind := .primitive 'B', accessFlags := 0x411 }
/-- [B -/
def k11 : Class := { plain "[B" (some 0) with kind := .array 10 .byte, interfaces := #[9, 4], accessFlags := 1041 }

/-- the primitive int -/
def k12 : Class := { plain "int" none with kind := .primitive 'I', accessFlags := 0x411 }
/-- [I -/
def k13 : Class := { plain "[I" (some 0) with kind := .array 12 .int, interfaces := #[9, 4], accessFlags := 1041 }

def heap : Heap := #[{ cls := 6, slots := #[.ref 1, .ref 2, .ref 3, .null], vm := .statics 6 },
  { cls := 6, slots := #[.null, .int 0, .int 0], vm := .none },
  { cls := 6, slots := #[.null, .int 1, .int 0], vm := .none },
  { cls := 6, slots := #[.null, .int 2, .int 0], vm := .none }]
def classes : Array Class := #[k0, k1, k2, k3, k4, k5, k6, k7, k8, k9, k10, k11, k12, k13]
def interned : List (Array UInt16 × Addr) := []
def slotsUsed : Nat := 13
def theMethod : MethodId := ⟨1, 1⟩
def args0 : Array Value := #[.int 5, .int 9, .int 3, .int 2]
def aboutOver (below : List Frame) : State where
  vm := { classes := classes, interned := interned.toArray }
  heap := heap
  slotsUsed := slotsUsed
  threads := #[{ frames := .invoking theMethod args0 :: below }]
def below0 : List Frame := [.native { method := ⟨0, 0⟩, args := #[] }]
def about1 : State := aboutOver below0
def p0 : Program := .bare "" "" ""
def e0 : Env := launch0.env 0 0 0
theorem w_frames : about1.frames = Frame.invoking theMethod args0 :: below0 := rfl
set_option maxRecDepth 65536 in
theorem w_args : argsFit about1.vm theMethod args0 = true := by decide +kernel
set_option maxRecDepth 65536 in
theorem w_heap : heapFits about1 = true := by decide +kernel
set_option maxRecDepth 65536 in
theorem w_runnable : about1.curStatus? = some .runnable := by decide +kernel
set_option maxRecDepth 65536 in
theorem w_alone : about1.alone = true := by decide +kernel
set_option maxRecDepth 65536 in
theorem w_named : about1.methodNamed? x = some theMethod := by decide +kernel
set_option maxRecDepth 65536 in
theorem w_hears : about1.hears theMethod below0 = true := by decide +kernel
set_option maxRecDepth 65536 in
theorem w_ripe : about1.ripe theMethod args0 below0 = true := by decide +kernel
theorem w_running : about1.status = .running := rfl
set_option maxRecDepth 65536 in
theorem w_room : about1.hasRoom e0.platform room_1 = true :=
  launch0.hasRoom_least _ room_1 (by decide +kernel) (by decide +kernel) (by decide +kernel) (by decide +kernel) (by decide +kernel) (by decide +kernel)
theorem allAtoms_all (ts : List Jvm.Cond) (a : Array Jvm.Value) (st : Jvm.State) : (allAtoms ts).before a st = ts.all (fun c => c.before a st) := by
  induction ts with
  | nil => rfl
  | cons c t ih =>
    show (Jvm.Cond.and c (allAtoms t)).before a st = _
    rw [Jvm.Cond.before_and, ih, List.all_cons]
def words1 : List Jvm.Cond := Jvm.Cond.code x code maxLocals ret :: tables_1
/-- a 'code' word, met by the world's own term for the bytes: nothing is compared byte by byte -/
theorem code_word {y : MethodName} {bytes : ByteArray} {mx : Nat} {rt : Option FieldType} {a : Array Value} {s : State} {m : MethodId} {meth : Method} {c : Code} (h1 : s.methodNamed? y = some m) (h2 : s.vm.method? m = some meth) (h3 : meth.code = some c) (h4 : c.code = bytes)
    (h5 : (c.maxLocals == mx && c.exceptionTable.isEmpty && decide (c.maxStack ≤ mostOperands) && decide (meth.sig.returnType = rt) && !meth.locks && decide (parseMethodDescriptor y.desc = some meth.sig)) = true) : (Jvm.Cond.code y bytes mx rt).before a s = true := by
  simp only [Bool.and_eq_true, beq_iff_eq, Bool.not_eq_true', decide_eq_true_eq] at h5
  obtain ⟨⟨⟨⟨⟨g1, g2⟩, g3⟩, g4⟩, g5⟩, g6⟩ := h5
  simp [Cond.before, Cond.holds, Cond.value, h1, h2, h3, h4, g1, g2, g3, g4, g5, g6]
def isCode : Jvm.Cond → Bool
  | .code _ _ _ _ => true
  | _ => false
theorem all_split {L : List Jvm.Cond} {P : Jvm.Cond → Bool} (h1 : L.all (fun c => isCode c || P c) = true) (h2 : ∀ c ∈ L.filter isCode, P c = true) : L.all P = true := by
  refine List.all_eq_true.mpr fun c hc => ?_
  have h := List.all_eq_true.mp h1 c hc
  rcases Bool.eq_false_or_eq_true (isCode c) with hi | hi
  · exact h2 c (List.mem_filter.mpr ⟨hc, hi⟩)
  · simpa [hi] using h
set_option maxRecDepth 65536 in
theorem w_c0 : (Jvm.Cond.code x code maxLocals ret).before args0 about1 = true := code_word (m := ⟨1, 1⟩) (meth := k1m1) (c := k1c1) (by decide +kernel) rfl rfl rfl (by decide +kernel)
set_option maxRecDepth 65536 in
theorem w_c1 : (Jvm.Cond.code ({ cls := "com/example/semverdict/semverdict/change/Probe", name := "<init>", desc := "(IZ)V" } : Jvm.MethodName) prog_4_method_1_code (3 : Nat) (Option.none : Option Jvm.ClassFile.FieldType)).before args0 about1 = true := code_word (m := ⟨8, 0⟩) (meth := k8m0) (c := k8c0) (by decide +kernel) rfl rfl rfl (by decide +kernel)
set_option maxRecDepth 65536 in
theorem w_c2 : (Jvm.Cond.code ({ cls := "java/lang/Record", name := "<init>", desc := "()V" } : Jvm.MethodName) jdk_30_method_1_code (1 : Nat) (Option.none : Option Jvm.ClassFile.FieldType)).before args0 about1 = true := code_word (m := ⟨7, 0⟩) (meth := k7m0) (c := k7c0) (by decide +kernel) rfl rfl rfl (by decide +kernel)
set_option maxRecDepth 65536 in
theorem w_c3 : (Jvm.Cond.code ({ cls := "java/lang/Object", name := "<init>", desc := "()V" } : Jvm.MethodName) object_method_1_code (1 : Nat) (Option.none : Option Jvm.ClassFile.FieldType)).before args0 about1 = true := code_word (m := ⟨0, 0⟩) (meth := k0m0) (c := k0c0) (by decide +kernel) rfl rfl rfl (by decide +kernel)
set_option maxRecDepth 65536 in
theorem w_c4 : (Jvm.Cond.code ({ cls := "com/example/semverdict/semverdict/change/Asked", name := "holds", desc := "(Lcom/example/semverdict/semverdict/change/Probe;Lcom/example/semverdict/semverdict/change/Probe;)Z" } : Jvm.MethodName) prog_1_method_4_code (5 : Nat) (Option.some Jvm.ClassFile.FieldType.boolean)).before args0 about1 = true := code_word (m := ⟨6, 0⟩) (meth := k6m0) (c := k6c0) (by decide +kernel) rfl rfl rfl (by decide +kernel)
set_option maxRecDepth 65536 in
theorem w_c5 : (Jvm.Cond.code ({ cls := "com/example/semverdict/semverdict/change/Probe", name := "rejecting", desc := "()Z" } : Jvm.MethodName) prog_4_method_8_code (1 : Nat) (Option.some Jvm.ClassFile.FieldType.boolean)).before args0 about1 = true := code_word (m := ⟨8, 2⟩) (meth := k8m2) (c := k8c2) (by decide +kernel) rfl rfl rfl (by decide +kernel)
set_option maxRecDepth 65536 in
theorem w_c6 : (Jvm.Cond.code ({ cls := "com/example/semverdict/semverdict/change/Probe", name := "changes", desc := "()I" } : Jvm.MethodName) prog_4_method_7_code (1 : Nat) (Option.some Jvm.ClassFile.FieldType.int)).before args0 about1 = true := code_word (m := ⟨8, 1⟩) (meth := k8m1) (c := k8c1) (by decide +kernel) rfl rfl rfl (by decide +kernel)
set_option maxRecDepth 65536 in
theorem w_c7 : (Jvm.Cond.code ({ cls := "java/lang/Enum", name := "ordinal", desc := "()I" } : Jvm.MethodName) jdk_37_method_2_code (1 : Nat) (Option.some Jvm.ClassFile.FieldType.int)).before args0 about1 = true := code_word (m := ⟨5, 0⟩) (meth := k5m0) (c := k5c0) (by decide +kernel) rfl rfl rfl (by decide +kernel)
def codes1 : List Jvm.Cond := [Jvm.Cond.code x code maxLocals ret, Jvm.Cond.code ({ cls := "com/example/semverdict/semverdict/change/Probe", name := "<init>", desc := "(IZ)V" } : Jvm.MethodName) prog_4_method_1_code (3 : Nat) (Option.none : Option Jvm.ClassFile.FieldType), Jvm.Cond.code ({ cls := "java/lang/Record", name := "<init>", desc := "()V" } : Jvm.MethodName) jdk_30_method_1_code (1 : Nat) (Option.none : Option Jvm.ClassFile.FieldType), Jvm.Cond.code ({ cls := "java/lang/Object", name := "<init>", desc := "()V" } : Jvm.MethodName) object_method_1_code (1 : Nat) (Option.none : Option Jvm.ClassFile.FieldType), Jvm.Cond.code ({ cls := "com/example/semverdict/semverdict/change/Asked", name := "holds", desc := "(Lcom/example/semverdict/semverdict/change/Probe;Lcom/example/semverdict/semverdict/change/Probe;)Z" } : Jvm.MethodName) prog_1_method_4_code (5 : Nat) (Option.some Jvm.ClassFile.FieldType.boolean), Jvm.Cond.code ({ cls := "com/example/semverdict/semverdict/change/Probe", name := "rejecting", desc := "()Z" } : Jvm.MethodName) prog_4_method_8_code (1 : Nat) (Option.some Jvm.ClassFile.FieldType.boolean), Jvm.Cond.code ({ cls := "com/example/semverdict/semverdict/change/Probe", name := "changes", desc := "()I" } : Jvm.MethodName) prog_4_method_7_code (1 : Nat) (Option.some Jvm.ClassFile.FieldType.int), Jvm.Cond.code ({ cls := "java/lang/Enum", name := "ordinal", desc := "()I" } : Jvm.MethodName) jdk_37_method_2_code (1 : Nat) (Option.some Jvm.ClassFile.FieldType.int)]
set_option maxRecDepth 65536 in
theorem codes_eq : words1.filter isCode = codes1 := rfl
theorem w_codes : ∀ c ∈ words1.filter isCode, c.before args0 about1 = true := by
  rw [codes_eq]
  intro c hc
  simp only [codes1, List.mem_cons, List.not_mem_nil, or_false] at hc
  rcases hc with rfl | rfl | rfl | rfl | rfl | rfl | rfl | rfl
  · exact w_c0
  · exact w_c1
  · exact w_c2
  · exact w_c3
  · exact w_c4
  · exact w_c5
  · exact w_c6
  · exact w_c7
set_option maxRecDepth 65536 in
theorem w_t1 : (words1.take 24).all (fun c => isCode c || c.before args0 about1) = true := by decide +kernel
set_option maxRecDepth 65536 in
theorem w_t2 : ((words1.drop 24).take 24).all (fun c => isCode c || c.before args0 about1) = true := by decide +kernel
set_option maxRecDepth 65536 in
theorem w_t3 : ((words1.drop 24).drop 24).all (fun c => isCode c || c.before args0 about1) = true := by decide +kernel
theorem w_tables : (allAtoms (Jvm.Cond.code x code maxLocals ret :: tables_1)).before args0 about1 = true := by
  rw [allAtoms_all]
  show words1.all (fun c => c.before args0 about1) = true
  refine all_split ?_ w_codes
  rw [← List.take_append_drop 24 words1, List.all_append, w_t1, ← List.take_append_drop 24 (words1.drop 24), List.all_append, w_t2, w_t3]
  rfl
set_option maxRecDepth 65536 in
theorem w_case : (Jvm.Cond.and given_1 narrow_1).before args0 about1 = true := by decide +kernel
theorem w_applies : (headSpec (Jvm.Cond.code x code maxLocals ret :: tables_1) room_1).applies x e0.platform about1 = true :=
  (Spec.applies_iff w_frames).mpr ⟨w_running, w_runnable, w_alone, w_named, w_hears, w_ripe, w_room, w_tables⟩
theorem atStart : AtStart classFile x code maxLocals ret World_1 tables_1 room_1 Calls_1 rest_1 Pre_1 launch0 p0 e0 about1 theMethod args0 below0 :=
  ⟨lists_1, trivial, launch0.admits_env _ _ _, launch0.least_env, fairChoices_fair.cas, fairChoices_fair.clock, w_frames, w_args, w_heap, w_applies, trivial, trivial, w_case⟩
end start1
theorem witness_1 : WitnessClaimed_1 := ⟨start1.p0, start1.e0, start1.about1, start1.theMethod, start1.args0, start1.below0, start1.atStart⟩
end Jvm.Pilot.@@N@@
