import JvmDerived
import JvmDerived.Pilot.@@N@@Statement
import JvmDerived.Pilot.@@N@@Code
set_option linter.unusedVariables false
set_option linter.unusedSimpArgs false
namespace Jvm.RoadKit
open Sem ClassFile Op Lib Jvm.Stand Jvm.Free Jvm.LawKit
section New
variable {p : Program} {l : Launch} {e : Env} {R : Room} {s : State} {m : MethodId} {args : Array Value} {below : List Frame} {meth : Method} {c : Code} {T : State} {locs : List Loc} {cells slots : Nat}
theorem retI (X : Stand p l e R s m args below meth c T locs cells slots) (hx : p.tables.exec = Jvm.exec) {pc : Nat} {Ls : Array Slot} {z : Int32} {rest : List Value} (hret : meth.sig.returnType = some .int) (hd : decode c.code pc = .ok (.ireturn, 1)) {fs : List Frame}
    (hl : ∀ (f : JFrame) (acts : List Action), f.method = m → f.locked = none → f.entered = [] → (doReturn e (T.setTop f) acts (some (.int z))).1 = T.setFrames fs) : Steps p.tables e below (T.setTop (mkF m pc Ls (.int z :: rest))) (T.setFrames fs) := by
  have hm' : T.vm.method? m = some meth := X.method'
  have hn : narrow .int (.int z) = .int z := rfl
  show Steps p.tables e below (T.setTop { method := m, pc := pc, locals := Ls, stack := _ :: rest, locked := none }) _
  jvm_step X.here [X.here.top, hx, hd, hm', hret, hn]
  first | (intro acts; rw [hl _ acts rfl rfl rfl]) | rw [hl _ _ rfl rfl rfl]
  exact Steps.refl _
theorem own_retA (X : Stand p l e R s m args below meth c T locs cells slots) (hx : p.tables.exec = Jvm.exec) {pc : Nat} {Ls : Array Slot} {z : Value} {ty : FieldType} {rest : List Value} (hret : meth.sig.returnType = some ty) (hty : ty.isReference = true) (hz : z.isRef = true) (hd : decode c.code pc = .ok (.areturn, 1)) {fs : List Frame}
    (hl : ∀ (f : JFrame) (acts : List Action), f.method = m → f.locked = none → f.entered = [] → (doReturn e (T.setTop f) acts (some z)).1 = T.setFrames fs) : Steps p.tables e below (T.setTop (mkF m pc Ls (z :: rest))) (T.setFrames fs) := by
  have hm' : T.vm.method? m = some meth := X.method'
  show Steps p.tables e below (T.setTop { method := m, pc := pc, locals := Ls, stack := _ :: rest, locked := none }) _
  jvm_step X.here [X.here.top, hx, hd, hm', hret, hty, hz]
  first | (intro acts; rw [hl _ acts rfl rfl rfl]) | rw [hl _ _ rfl rfl rfl]
  exact Steps.refl _
theorem own_retD (X : Stand p l e R s m args below meth c T locs cells slots) (hx : p.tables.exec = Jvm.exec) {pc : Nat} {Ls : Array Slot} {z : UInt64} {rest : List Value} (hret : meth.sig.returnType = some .double) (hd : decode c.code pc = .ok (.dreturn, 1)) {fs : List Frame}
    (hl : ∀ (f : JFrame) (acts : List Action), f.method = m → f.locked = none → f.entered = [] → (doReturn e (T.setTop f) acts (some (.double z))).1 = T.setFrames fs) : Steps p.tables e below (T.setTop (mkF m pc Ls (.double z :: rest))) (T.setFrames fs) :=
  retOut X hx hret rfl (Or.inr (Or.inr (Or.inl ⟨rfl, rfl, z, rfl⟩))) hd hl
/-- where a body is to end: it runs, it has ended, it returned v, Q says what v and the heap are -/
def own_F (s : State) (below : List Frame) (Q : Option Value → Heap → List Loc → Prop) (C S : Nat) (t : State) (o : Outcome) : Prop := t.status = .running ∧ Ended t below o ∧ ∃ v L, o = .returned v ∧ Q v t.heap L ∧ FrameEnd s o t L C S
/-- the run from T, with the frame g on top, comes to such an end -/
def own_Go (p : Program) (e : Env) (below : List Frame) (F : State → Outcome → Prop) (T : State) (g : JFrame) : Prop := ∃ t o, Steps p.tables e below (T.setTop g) t ∧ F t o
theorem own_st {F : State → Outcome → Prop} {T T' : State} {g g' : JFrame} (h : ∀ t, Steps p.tables e below (T'.setTop g') t → Steps p.tables e below (T.setTop g) t) (k : own_Go p e below F T' g') : own_Go p e below F T g := by
  obtain ⟨t, o, h1, h2⟩ := k
  exact ⟨t, o, h t h1, h2⟩
theorem own_cast {F : State → Outcome → Prop} {T : State} {g g' : JFrame} (q : g = g') (k : own_Go p e below F T g') : own_Go p e below F T g := q ▸ k
theorem own_ret {F : State → Outcome → Prop} {Q : Option Value → Heap → List Loc → Prop} {C S : Nat} {g : JFrame} {v : Option Value} (hF : F = own_F s below Q C S) (X : Stand p l e R s m args below meth c T locs cells slots) (hv : meth.sig.returnType = none → v = none) (hlk : meth.locks = false)
    (hst : ∀ fs, (∀ (f : JFrame) (acts : List Action), f.method = m → f.locked = none → f.entered = [] → (doReturn e (T.setTop f) acts v).1 = T.setFrames fs) → Steps p.tables e below (T.setTop g) (T.setFrames fs)) (hQ : Q v T.heap locs) (hc : cells ≤ C) (hs : slots ≤ S) : own_Go p e below F T g := by
  subst hF
  obtain ⟨fs, hr, hrun, hended, hW, hsame⟩ := X.leave hv hlk
  exact ⟨T.setFrames fs, .returned v, hst fs hr, hrun, hended, v, locs, rfl, hQ, ⟨_, rfl⟩, hW, hsame.mono hc hs⟩
theorem own_some {ret : Option FieldType} {ty : FieldType} {v : Option Value} (hret : ret = some ty) : ret = none → v = none := fun h => by rw [hret] at h; cases h
/-- a body's contract: called with 'as' at the heap h0 it returns, and Q holds of what it returned, of the heap, of the places written -/
abbrev own_Met (l : Launch) (Z : State) (y : MethodName) (bytes : ByteArray) (maxL : Nat) (ret : Option FieldType) (rm : Room) (as : Array Value) (h0 : Heap) (Q : Option Value → Heap → List Loc → Prop) : Prop :=
  ∀ ws : List Jvm.Cond, MetFree l y (head1 (Jvm.Cond.code y bytes maxL ret :: ws) rm) (fun a U => a = as ∧ Z.Warmed39 U.vm ∧ U.heap = h0) (fun _ _ _ _ _ => True) (fun _ U o U' => ∃ v L, o = .returned v ∧ Q v U'.heap L ∧ FrameEnd U o U' L rm.cells rm.slots)
theorem own_body {Z : State} {y : MethodName} {bytes : ByteArray} {maxL : Nat} {ret : Option FieldType} {rm : Room} {as : Array Value} {h0 : Heap} {Q : Option Value → Heap → List Loc → Prop} (hpl : plainFor y = true)
    (body : ∀ (p : Program) (e : Env) (s : State) (m : MethodId) (below : List Frame) (meth : Method) (c : Code) (T : State), Z.Warmed39 s.vm → p.tables.exec = Jvm.exec → c.code = bytes → c.maxLocals = maxL → s.vm.findClass y.cls = some m.cls → meth.name = y.name → meth.sig.returnType = ret → meth.locks = false →
      Stand p l e rm s m as below meth c T [] 0 0 → T.heap = h0 → ∀ F : State → Outcome → Prop, F = own_F s below Q rm.cells rm.slots → own_Go p e below F T (entryFrame m as maxL)) : own_Met l Z y bytes maxL ret rm as h0 Q := by
  intro ws
  refine MetFree.of_bodySF hpl hisR ?_
  intro p e s m args below meth c s₁ Bd hml0 hP hK
  obtain ⟨rfl, hZ, hh⟩ := hP
  obtain ⟨t, o, h1, h2, h3, h4⟩ := body p e s m below meth c s₁ hZ Bd.exec Bd.bytes hml0 (findClass_of_methodNamed Bd.named) (name_of_methodNamed Bd.named Bd.method).1 Bd.returns (BodyLoose.notSynchronized Bd) (Stand.of_body Bd) (by rw [← hh, Bd.state]; rfl) _ rfl
  exact ⟨t, o, h1, h2, h3, h4⟩
theorem own_back {Z : State} {a0 : Array Value} {y : MethodName} {bytes : ByteArray} {maxL : Nat} {ret : Option FieldType} {rm : Room} {len W : Nat} {as' : Array Value} {h : Heap} {Q : Option Value → Heap → List Loc → Prop} (hM : own_Met l Z y bytes maxL ret rm as' h Q)
    (hZ : Z.Warmed39 s.vm) (wc : (Cond.code y bytes maxL ret).before a0 Z = true) (wz : (Cond.initialized y.cls).before a0 Z = true) (hf : rm.frames + 1 ≤ R.frames) (hl : W + (maxL + 11) + rm.locals ≤ R.locals) :
    Back l R p e below s args y len W (fun A a => a = as' ∧ A.U.heap = h ∧ A.cells + rm.cells ≤ R.cells ∧ A.slots + rm.slots ≤ R.slots)
      (fun A _ v B => ∃ L, Q v B.U.heap L ∧ B.locs = A.locs ++ L ∧ B.cells = A.cells + rm.cells ∧ B.slots = A.slots + rm.slots) := backOf (Q := Q) (rm := rm) (hM []) hZ wc wz hf hl
theorem own_selP {Z : State} {a0 : Array Value} {y : MethodName} {n : Nat} (hZ : Z.Warmed39 s.vm) (wi : (Cond.instantiable y.cls n).before a0 Z = true) (hpriv : s.PrivateAt y) (hinst : (Cond.instanceMethod y).before args s = true) (hy : y.cls ≠ "java/lang/invoke/MethodHandle" ∧ y.cls ≠ "java/lang/invoke/VarHandle") : (Cond.selects y.cls y y).before args s = true := by
  obtain ⟨c, k, h1, h2, h3, h4, -, -⟩ := Cond.instantiable_spec (mvT (args := args) hZ wi)
  exact selects_self_of_private h1 h2 (by cases hi : k.isInterface <;> simp [hi] at h4 ⊢) hpriv hinst hy
theorem own_fresh {Z : State} {h : Heap} {b : Addr} (g : b = h.size) {n : Nat} (q : n ≤ h.size) : n ≤ b := g ▸ q
theorem own_ne {h : Heap} {a b : Addr} (g : b = h.size) (q : a < h.size) : a ≠ b := Nat.ne_of_lt (g ▸ q)
end New
end Jvm.RoadKit
namespace Jvm.Pilot.@@N@@
open Jvm Jvm.ClassFile Sem Op Lib Jvm.Free Jvm.Stand Jvm.LawKit Jvm.RoadKit Bundle Jvm.Pilot.@@N@@.Jvm.D

def own_B (z : Int32) (P : Prop) : Prop := (z = 1 ∧ P) ∨ (z = 0 ∧ ¬ P)
theorem own_B.eq {z y : Int32} {P R : Prop} (h : own_B z P) (k : own_B y R) (q : P ↔ R) : z = y := by
  rcases h with ⟨rfl, h⟩ | ⟨rfl, h⟩ <;> rcases k with ⟨rfl, k⟩ | ⟨rfl, k⟩
  · rfl
  · exact absurd (q.mp h) k
  · exact absurd (q.mpr k) h
  · rfl
theorem own_B.yes {z : Int32} {P : Prop} (h : own_B z P) (q : ¬ z = 0) : P := h.elim (fun r => r.2) (fun r => absurd r.1 q)
theorem own_B.no {z : Int32} {P : Prop} (h : own_B z P) (q : z = 0) : ¬ P := h.elim (fun r => absurd (r.1.symm.trans q) (by decide)) (fun r => r.2)
def own_w (x : Int32) : Prop := x = 32 ∨ x = 9 ∨ x = 13
def own_xs (b0 b1 b2 b3 : Int32) : Nat → Int32
  | 0 => b0.toInt8.toInt32
  | 1 => b1.toInt8.toInt32
  | 2 => b2.toInt8.toInt32
  | 3 => b3.toInt8.toInt32
  | _ => 0
theorem own_bb (x : Int32) : x.toInt8.toInt32.toInt8.toInt32 = x.toInt8.toInt32 := by simp
theorem own_one (i : Nat) : Int32.ofNat i + (1 : Int32) = Int32.ofNat (i + 1) := (Int32.ofNat_add i 1).symm
theorem own_lt {i n : Nat} (h : i < n) (hn : n ≤ 9) : Int32.ofNat i < Int32.ofNat n := by
  rw [Int32.lt_iff_toInt_lt, Int32.toInt_ofNat_of_lt (by omega), Int32.toInt_ofNat_of_lt (by omega)]
  omega
theorem own_nat {i : Nat} (h : i ≤ 4) : (Int32.ofNat i).toNatClampNeg = i ∧ ¬ Int32.ofNat i < 0 := by
  match i, h with
  | 0, _ => decide
  | 1, _ => decide
  | 2, _ => decide
  | 3, _ => decide
  | 4, _ => decide
theorem own_five (x kk : Int32) (e : kk = (x &&& (2147483647 : Int32)) % (6 : Int32)) (h0 : ¬ kk = 0) (h1 : ¬ kk = 1) (h2 : ¬ kk = 2) (h3 : ¬ kk = 3) (h4 : ¬ kk = 4) : kk = 5 := by
  have m := c_mask x (2147483647 : Int32) 31 (by decide) (by decide)
  have r := (c_irem (x &&& (2147483647 : Int32)) (6 : Int32) 6 (by decide)).1 (by rw [m]; omega)
  rw [← e] at r
  have n0 : kk.toInt ≠ 0 := fun q => h0 (Int32.toInt_inj.mp (by rw [q]; decide))
  have n1 : kk.toInt ≠ 1 := fun q => h1 (Int32.toInt_inj.mp (by rw [q]; decide))
  have n2 : kk.toInt ≠ 2 := fun q => h2 (Int32.toInt_inj.mp (by rw [q]; decide))
  have n3 : kk.toInt ≠ 3 := fun q => h3 (Int32.toInt_inj.mp (by rw [q]; decide))
  have n4 : kk.toInt ≠ 4 := fun q => h4 (Int32.toInt_inj.mp (by rw [q]; decide))
  apply Int32.toInt_inj.mp
  have k5 : (5 : Int32).toInt = 5 := by decide
  rw [k5]
  omega

theorem pd_0 : parseMethodDescriptor "(I)Z" = some ⟨[.int], some .boolean⟩ := by decide +kernel
theorem pd_1 : parseMethodDescriptor "(J[B)V" = some ⟨[.long, (.array .byte)], none⟩ := by decide +kernel
theorem pd_2 : parseMethodDescriptor "()V" = some ⟨[], none⟩ := by decide +kernel
theorem pd_3 : parseMethodDescriptor "()Z" = some ⟨[], some .boolean⟩ := by decide +kernel
theorem d1_0 : decode method_2_code 0 = .ok (.iload_n 0, 1) := by decide +kernel
theorem d1_1 : decode method_2_code 1 = .ok (.i2b, 1) := by decide +kernel
theorem d1_2 : decode method_2_code 2 = .ok (.istore_n 1, 1) := by decide +kernel
theorem d1_3 : decode method_2_code 3 = .ok (.iload_n 1, 1) := by decide +kernel
theorem d1_4 : decode method_2_code 4 = .ok (.bipush 32, 2) := by decide +kernel
theorem d1_6 : decode method_2_code 6 = .ok (.if_icmp .eq 15, 3) := by decide +kernel
theorem d1_9 : decode method_2_code 9 = .ok (.iload_n 1, 1) := by decide +kernel
theorem d1_10 : decode method_2_code 10 = .ok (.bipush 9, 2) := by decide +kernel
theorem d1_12 : decode method_2_code 12 = .ok (.if_icmp .eq 9, 3) := by decide +kernel
theorem d1_15 : decode method_2_code 15 = .ok (.iload_n 1, 1) := by decide +kernel
theorem d1_16 : decode method_2_code 16 = .ok (.bipush 13, 2) := by decide +kernel
theorem d1_18 : decode method_2_code 18 = .ok (.if_icmp .ne 7, 3) := by decide +kernel
theorem d1_21 : decode method_2_code 21 = .ok (.iconst 1, 1) := by decide +kernel
theorem d1_22 : decode method_2_code 22 = .ok (.goto 4, 3) := by decide +kernel
theorem d1_25 : decode method_2_code 25 = .ok (.iconst 0, 1) := by decide +kernel
theorem d1_26 : decode method_2_code 26 = .ok (.ireturn, 1) := by decide +kernel
theorem pn_1 : plainFor (⟨"com/example/stockbook/stockbook/server/LineIsBlankPinLaw", "ws", "(I)Z"⟩ : MethodName) = true := plainFor_of_name (by first | (simp [plainName, overriddenIn]; done) | decide +kernel)
set_option maxRecDepth 65536 in
set_option maxHeartbeats 40000000 in
theorem rm1 (l : Launch) (Z : State) (a0 : Array Value) (hw : ∀ d ∈ tables_1, d.before a0 Z = true) (p1 : Int32) (h0 : Heap) (n0 : Nat) (Z0 : n0 ≤ h0.size)  :
    own_Met l Z (⟨"com/example/stockbook/stockbook/server/LineIsBlankPinLaw", "ws", "(I)Z"⟩ : MethodName) method_2_code 2 (some .boolean) ({ frames := 0, cells := 0, slots := 0, locals := 0 } : Room) #[(.int p1)] h0 (fun v h L => ∃ z, v = some (.int z) ∧ Fr n0 L ∧ h = h0 ∧ own_B z (own_w (p1.toInt8.toInt32))) := by
  refine own_body pn_1 ?_
  intro p e s m below meth c T0 hZ hx hby hml hown hnm hret hlk X0 e0 F hF
  have N0 := Fr.nil n0
  have K0 := Keep.refl h0 []
  refine own_cast (g' := (mkF m 0 #[.val (.int p1), .unset] [])) (by first | rfl | simp [entryFrame, mkF, argsToLocals, Value.category]) ?_
  refine own_st (T' := T0) (g' := (mkF m 1 #[.val (.int p1), .unset] [(.int p1)])) (fun t9 k9 => XS.iloadN X0.here hx rfl (hb hby d1_0) rfl k9) ?_
  refine own_st (T' := T0) (g' := (mkF m 2 #[.val (.int p1), .unset] [(.int (p1.toInt8.toInt32))])) (fun t9 k9 => XS.i2b X0.here hx rfl (hb hby d1_1) rfl k9) ?_
  refine own_st (T' := T0) (g' := (mkF m 3 #[.val (.int p1), .val (.int (p1.toInt8.toInt32))] [])) (fun t9 k9 => XS.istoreN X0.here hx rfl (hb hby d1_2) rfl (l' := #[.val (.int p1), .val (.int (p1.toInt8.toInt32))]) rfl k9) ?_
  refine own_st (T' := T0) (g' := (mkF m 4 #[.val (.int p1), .val (.int (p1.toInt8.toInt32))] [(.int (p1.toInt8.toInt32))])) (fun t9 k9 => XS.iloadN X0.here hx rfl (hb hby d1_3) rfl k9) ?_
  refine own_st (T' := T0) (g' := (mkF m 6 #[.val (.int p1), .val (.int (p1.toInt8.toInt32))] [(.int (32 : Int32)), (.int (p1.toInt8.toInt32))])) (fun t9 k9 => XS.bipush X0.here hx rfl (hb hby d1_4) k9) ?_
  by_cases h1 : (p1.toInt8.toInt32) = (32 : Int32)
  · refine own_st (T' := T0) (g' := (mkF m 21 #[.val (.int p1), .val (.int (p1.toInt8.toInt32))] [])) (fun t9 k9 => XS.icmpYes X0.here hx rfl (pc0 := 6) (pc' := 21) rfl (hb hby d1_6) rfl (teq h1).1 (by decide) (by decide) k9) ?_
    refine own_st (T' := T0) (g' := (mkF m 22 #[.val (.int p1), .val (.int (p1.toInt8.toInt32))] [(.int (1 : Int32))])) (fun t9 k9 => XS.iconst X0.here hx rfl (hb hby d1_21) k9) ?_
    refine own_st (T' := T0) (g' := (mkF m 26 #[.val (.int p1), .val (.int (p1.toInt8.toInt32))] [(.int (1 : Int32))])) (fun t9 k9 => XS.goto X0.here hx rfl (pc0 := 22) (pc' := 26) rfl (hb hby d1_22) (by decide) (by decide) k9) ?_
    refine own_ret (v := some (.int (1 : Int32))) hF X0 (own_some hret) hlk (fun fs hr => retN X0 hx (t := .boolean) hret (by simp) (hb hby d1_26) hr) ?_ (by decide) (by decide)
    try rw [e0]
    exact ⟨_, rfl, N0, rfl, Or.inl ⟨rfl, Or.inl h1⟩⟩
  · refine own_st (T' := T0) (g' := (mkF m 9 #[.val (.int p1), .val (.int (p1.toInt8.toInt32))] [])) (fun t9 k9 => XS.icmpNo X0.here hx rfl (hb hby d1_6) rfl (feq h1).1 k9) ?_
    refine own_st (T' := T0) (g' := (mkF m 10 #[.val (.int p1), .val (.int (p1.toInt8.toInt32))] [(.int (p1.toInt8.toInt32))])) (fun t9 k9 => XS.iloadN X0.here hx rfl (hb hby d1_9) rfl k9) ?_
    refine own_st (T' := T0) (g' := (mkF m 12 #[.val (.int p1), .val (.int (p1.toInt8.toInt32))] [(.int (9 : Int32)), (.int (p1.toInt8.toInt32))])) (fun t9 k9 => XS.bipush X0.here hx rfl (hb hby d1_10) k9) ?_
    by_cases h2 : (p1.toInt8.toInt32) = (9 : Int32)
    · refine own_st (T' := T0) (g' := (mkF m 21 #[.val (.int p1), .val (.int (p1.toInt8.toInt32))] [])) (fun t9 k9 => XS.icmpYes X0.here hx rfl (pc0 := 12) (pc' := 21) rfl (hb hby d1_12) rfl (teq h2).1 (by decide) (by decide) k9) ?_
      refine own_st (T' := T0) (g' := (mkF m 22 #[.val (.int p1), .val (.int (p1.toInt8.toInt32))] [(.int (1 : Int32))])) (fun t9 k9 => XS.iconst X0.here hx rfl (hb hby d1_21) k9) ?_
      refine own_st (T' := T0) (g' := (mkF m 26 #[.val (.int p1), .val (.int (p1.toInt8.toInt32))] [(.int (1 : Int32))])) (fun t9 k9 => XS.goto X0.here hx rfl (pc0 := 22) (pc' := 26) rfl (hb hby d1_22) (by decide) (by decide) k9) ?_
      refine own_ret (v := some (.int (1 : Int32))) hF X0 (own_some hret) hlk (fun fs hr => retN X0 hx (t := .boolean) hret (by simp) (hb hby d1_26) hr) ?_ (by decide) (by decide)
      try rw [e0]
      exact ⟨_, rfl, N0, rfl, Or.inl ⟨rfl, Or.inr (Or.inl h2)⟩⟩
    · refine own_st (T' := T0) (g' := (mkF m 15 #[.val (.int p1), .val (.int (p1.toInt8.toInt32))] [])) (fun t9 k9 => XS.icmpNo X0.here hx rfl (hb hby d1_12) rfl (feq h2).1 k9) ?_
      refine own_st (T' := T0) (g' := (mkF m 16 #[.val (.int p1), .val (.int (p1.toInt8.toInt32))] [(.int (p1.toInt8.toInt32))])) (fun t9 k9 => XS.iloadN X0.here hx rfl (hb hby d1_15) rfl k9) ?_
      refine own_st (T' := T0) (g' := (mkF m 18 #[.val (.int p1), .val (.int (p1.toInt8.toInt32))] [(.int (13 : Int32)), (.int (p1.toInt8.toInt32))])) (fun t9 k9 => XS.bipush X0.here hx rfl (hb hby d1_16) k9) ?_
      by_cases h3 : (p1.toInt8.toInt32) = (13 : Int32)
      · refine own_st (T' := T0) (g' := (mkF m 21 #[.val (.int p1), .val (.int (p1.toInt8.toInt32))] [])) (fun t9 k9 => XS.icmpNo X0.here hx rfl (hb hby d1_18) rfl (teq h3).2 k9) ?_
        refine own_st (T' := T0) (g' := (mkF m 22 #[.val (.int p1), .val (.int (p1.toInt8.toInt32))] [(.int (1 : Int32))])) (fun t9 k9 => XS.iconst X0.here hx rfl (hb hby d1_21) k9) ?_
        refine own_st (T' := T0) (g' := (mkF m 26 #[.val (.int p1), .val (.int (p1.toInt8.toInt32))] [(.int (1 : Int32))])) (fun t9 k9 => XS.goto X0.here hx rfl (pc0 := 22) (pc' := 26) rfl (hb hby d1_22) (by decide) (by decide) k9) ?_
        refine own_ret (v := some (.int (1 : Int32))) hF X0 (own_some hret) hlk (fun fs hr => retN X0 hx (t := .boolean) hret (by simp) (hb hby d1_26) hr) ?_ (by decide) (by decide)
        try rw [e0]
        exact ⟨_, rfl, N0, rfl, Or.inl ⟨rfl, Or.inr (Or.inr h3)⟩⟩
      · refine own_st (T' := T0) (g' := (mkF m 25 #[.val (.int p1), .val (.int (p1.toInt8.toInt32))] [])) (fun t9 k9 => XS.icmpYes X0.here hx rfl (pc0 := 18) (pc' := 25) rfl (hb hby d1_18) rfl (feq h3).2 (by decide) (by decide) k9) ?_
        refine own_st (T' := T0) (g' := (mkF m 26 #[.val (.int p1), .val (.int (p1.toInt8.toInt32))] [(.int (0 : Int32))])) (fun t9 k9 => XS.iconst X0.here hx rfl (hb hby d1_25) k9) ?_
        refine own_ret (v := some (.int (0 : Int32))) hF X0 (own_some hret) hlk (fun fs hr => retN X0 hx (t := .boolean) hret (by simp) (hb hby d1_26) hr) ?_ (by decide) (by decide)
        try rw [e0]
        exact ⟨_, rfl, N0, rfl, Or.inr ⟨rfl, fun q => q.elim h1 (fun q => q.elim h2 h3)⟩⟩
theorem d3_0 : decode jdk_30_method_1_code 0 = .ok (.aload_n 0, 1) := by decide +kernel
theorem d3_1 : decode jdk_30_method_1_code 1 = .ok (.invokespecial 1, 3) := by decide +kernel
theorem d3_4 : decode jdk_30_method_1_code 4 = .ok (.return_, 1) := by decide +kernel
theorem pn_3 : plainFor (⟨"java/lang/Record", "<init>", "()V"⟩ : MethodName) = true := plainFor_of_name (by first | (simp [plainName, overriddenIn]; done) | decide +kernel)
set_option maxRecDepth 65536 in
set_option maxHeartbeats 40000000 in
theorem rm3 (l : Launch) (Z : State) (a0 : Array Value) (hw : ∀ d ∈ tables_1, d.before a0 Z = true) (a1 : Addr) (h0 : Heap) (n0 : Nat) (Z0 : n0 ≤ h0.size)  :
    own_Met l Z (⟨"java/lang/Record", "<init>", "()V"⟩ : MethodName) jdk_30_method_1_code 1 none ({ frames := 1, cells := 0, slots := 0, locals := 12 } : Room) #[(.ref a1)] h0 (fun v h L => v = none ∧ Fr n0 L ∧ h = h0) := by
  refine own_body pn_3 ?_
  intro p e s m below meth c T0 hZ hx hby hml hown hnm hret hlk X0 e0 F hF
  have N0 := Fr.nil n0
  have K0 := Keep.refl h0 []
  refine own_cast (g' := (mkF m 0 #[.val (.ref a1)] [])) (by first | rfl | simp [entryFrame, mkF, argsToLocals, Value.category]) ?_
  refine own_st (T' := T0) (g' := (mkF m 1 #[.val (.ref a1)] [(.ref a1)])) (fun t9 k9 => XS.aloadN X0.here hx rfl (hb hby d3_0) rfl rfl k9) ?_
  obtain ⟨T1, X1, e1, st1⟩ := initO X0 hx hZ hown (hw _ (List.mem_of_getElem? (i := 17) rfl)) (hw _ (List.mem_of_getElem? (i := 18) rfl)) (hw _ (List.mem_of_getElem? (i := 19) rfl)) e0 (g := (mkF m 1 #[.val (.ref a1)] [(.ref a1)])) rfl (by rw [hml]; rfl) rfl (hb hby d3_1) (by decide) (W := 0) (by show 2 * 0 + _ ≤ _; exact Nat.le_of_eq rfl) (by decide)
  refine own_st (T' := T1) (g' := (mkF m 4 #[.val (.ref a1)] [])) (fun t9 k9 => st1 t9 k9) ?_
  refine own_ret (v := none) hF X1 (fun _ => rfl) hlk (fun fs hr => X1.returnOut hx hret (hb hby d3_4) hr) ?_ (by decide) (by decide)
  try rw [e1]
  exact ⟨rfl, N0, rfl⟩
theorem d2_0 : decode prog_32_method_1_code 0 = .ok (.aload_n 0, 1) := by decide +kernel
theorem d2_1 : decode prog_32_method_1_code 1 = .ok (.invokespecial 1, 3) := by decide +kernel
theorem d2_4 : decode prog_32_method_1_code 4 = .ok (.aload_n 0, 1) := by decide +kernel
theorem d2_5 : decode prog_32_method_1_code 5 = .ok (.lload_n 1, 1) := by decide +kernel
theorem d2_6 : decode prog_32_method_1_code 6 = .ok (.putfield 7, 3) := by decide +kernel
theorem d2_9 : decode prog_32_method_1_code 9 = .ok (.aload_n 0, 1) := by decide +kernel
theorem d2_10 : decode prog_32_method_1_code 10 = .ok (.aload_n 3, 1) := by decide +kernel
theorem d2_11 : decode prog_32_method_1_code 11 = .ok (.putfield 13, 3) := by decide +kernel
theorem d2_14 : decode prog_32_method_1_code 14 = .ok (.return_, 1) := by decide +kernel
theorem pn_2 : plainFor (⟨"com/example/stockbook/stockbook/server/JsonLines$Line", "<init>", "(J[B)V"⟩ : MethodName) = true := plainFor_of_name (by first | (simp [plainName, overriddenIn]; done) | decide +kernel)
set_option maxRecDepth 65536 in
set_option maxHeartbeats 40000000 in
theorem rmIa (l : Launch) (Z : State) (a0 : Array Value) (hw : ∀ d ∈ tables_1, d.before a0 Z = true) (a1 : Addr) (q : Int64) (d1 : Addr) (u1 u2 : Value) (h0 : Heap) (n0 : Nat) (Z0 : n0 ≤ h0.size) (E1 : Exa Z h0 a1 "com/example/stockbook/stockbook/server/JsonLines$Line") (F1 : Fld Z h0 a1 "com/example/stockbook/stockbook/server/JsonLines$Line" "number" "J" u1) (F2 : Fld Z h0 a1 "com/example/stockbook/stockbook/server/JsonLines$Line" "bytes" "[B" u2) (g_a1 : n0 ≤ a1) :
    own_Met l Z (⟨"com/example/stockbook/stockbook/server/JsonLines$Line", "<init>", "(J[B)V"⟩ : MethodName) prog_32_method_1_code 4 none ({ frames := 2, cells := 0, slots := 0, locals := 24 } : Room) #[(.ref a1), (.long q), (.ref d1)] h0 (fun v h L => v = none ∧ Fr n0 L ∧ Keep h0 h [a1] ∧ Exa Z h a1 "com/example/stockbook/stockbook/server/JsonLines$Line" ∧ Fld Z h a1 "com/example/stockbook/stockbook/server/JsonLines$Line" "bytes" "[B" (.ref d1)) := by
  refine own_body pn_2 ?_
  intro p e s m below meth c T0 hZ hx hby hml hown hnm hret hlk X0 e0 F hF
  have N0 := Fr.nil n0
  have K0 := Keep.refl h0 [a1]
  refine own_cast (g' := (mkF m 0 #[.val (.ref a1), .val (.long q), .second, .val (.ref d1)] [])) (by first | rfl | simp [entryFrame, mkF, argsToLocals, Value.category]) ?_
  refine own_st (T' := T0) (g' := (mkF m 1 #[.val (.ref a1), .val (.long q), .second, .val (.ref d1)] [(.ref a1)])) (fun t9 k9 => XS.aloadN X0.here hx rfl (hb hby d2_0) rfl rfl k9) ?_
  obtain ⟨_, _, ⟨T1, L1, k1, n1⟩, -, X1, ⟨Lc1, hQ1, l1, y1, z1⟩, st1⟩ := X0.specialBack hx (y := (⟨"java/lang/Record", "<init>", "()V"⟩ : MethodName)) rfl hown (mvT hZ (hw _ (List.mem_of_getElem? (i := 12) rfl))) (mvT hZ (hw _ (List.mem_of_getElem? (i := 13) rfl))) (mvT hZ (hw _ (List.mem_of_getElem? (i := 16) rfl))) (by decide) (own_back (W := 0) (rm3 l Z a0 hw a1 h0 n0 Z0) hZ (hw _ (List.mem_of_getElem? (i := 16) rfl)) (hw _ (List.mem_of_getElem? (i := 15) rfl)) (by decide) (by decide)) (g := (mkF m 1 #[.val (.ref a1), .val (.long q), .second, .val (.ref d1)] [(.ref a1)])) rfl (by rw [hml]; rfl) (Steps.refl _) (a := a1) (argsL := []) (rest := []) (lenOf pd_2 rfl) rfl (by show 2 * 0 + _ ≤ _; exact Nat.le_of_eq rfl) (hb hby d2_1) (fun _ _ => ⟨rfl, e0, (Nat.le_of_ble_eq_true rfl), (Nat.le_of_ble_eq_true rfl)⟩)
  dsimp only [Pt.U, Pt.locs, Pt.cells, Pt.slots] at X1 l1 y1 z1 st1 hQ1
  subst l1 y1 z1
  obtain ⟨rfl, Nq1, he1⟩ := hQ1
  have N1 := Fr.app N0 Nq1
  have e1 : T1.heap = h0 := he1
  refine own_st (T' := T1) (g' := (mkF m 4 #[.val (.ref a1), .val (.long q), .second, .val (.ref d1)] [])) (fun t9 k9 => st1.trans k9) ?_
  refine own_st (T' := T1) (g' := (mkF m 5 #[.val (.ref a1), .val (.long q), .second, .val (.ref d1)] [(.ref a1)])) (fun t9 k9 => XS.aloadN X1.here hx rfl (hb hby d2_4) rfl rfl k9) ?_
  refine own_st (T' := T1) (g' := (mkF m 6 #[.val (.ref a1), .val (.long q), .second, .val (.ref d1)] [(.long q), (.ref a1)])) (fun t9 k9 => XS.lloadN X1.here hx rfl (hb hby d2_5) rfl k9) ?_
  obtain ⟨T2, h2, X2, e2, W2, st2⟩ := putF X1 hx hZ hown (host := "") (Or.inl (hw _ (List.mem_of_getElem? (i := 20) rfl))) Via.refl e1 F1 E1 (Or.inr ⟨(hw _ (List.mem_of_getElem? (i := 21) rfl)), rfl, hnm⟩) (hw _ (List.mem_of_getElem? (i := 7) rfl)) (ty := .long) (by decide) rfl rfl (g := (mkF m 6 #[.val (.ref a1), .val (.long q), .second, .val (.ref d1)] [(.long q), (.ref a1)])) rfl rfl (hb hby d2_6)
  have Fw2 := F1.same W2
  have E1_3 := E1.wr W2
  have F2_4 := F2.other W2 (Or.inr (slot_ne (Or.inr (hw _ (List.mem_of_getElem? (i := 23) rfl))) (Or.inr (hw _ (List.mem_of_getElem? (i := 21) rfl))) (by decide) (t := (.array .byte)) (t' := .long) (by decide) (by decide)))
  have K2 := K0.wr W2 (Or.inl (by simp))
  have N2 := Fr.snoc X2 N1 g_a1
  have Z2 : n0 ≤ h2.size := by rw [W2.size]; exact Z0
  refine own_st (T' := T2) (g' := (mkF m 9 #[.val (.ref a1), .val (.long q), .second, .val (.ref d1)] [])) (fun t9 k9 => st2 t9 k9) ?_
  refine own_st (T' := T2) (g' := (mkF m 10 #[.val (.ref a1), .val (.long q), .second, .val (.ref d1)] [(.ref a1)])) (fun t9 k9 => XS.aloadN X2.here hx rfl (hb hby d2_9) rfl rfl k9) ?_
  refine own_st (T' := T2) (g' := (mkF m 11 #[.val (.ref a1), .val (.long q), .second, .val (.ref d1)] [(.ref d1), (.ref a1)])) (fun t9 k9 => XS.aloadN X2.here hx rfl (hb hby d2_10) rfl rfl k9) ?_
  obtain ⟨T5, h5, X5, e5, W5, st5⟩ := putF X2 hx hZ hown (host := "") (Or.inl (hw _ (List.mem_of_getElem? (i := 22) rfl))) Via.refl e2 F2_4 E1_3 (Or.inr ⟨(hw _ (List.mem_of_getElem? (i := 23) rfl)), rfl, hnm⟩) (hw _ (List.mem_of_getElem? (i := 7) rfl)) (ty := (.array .byte)) (by decide) rfl rfl (g := (mkF m 11 #[.val (.ref a1), .val (.long q), .second, .val (.ref d1)] [(.ref d1), (.ref a1)])) rfl rfl (hb hby d2_11)
  have Fw5 := F2_4.same W5
  have E1_6 := E1_3.wr W5
  have Fw2_7 := Fw2.other W5 (Or.inr (slot_ne (Or.inr (hw _ (List.mem_of_getElem? (i := 21) rfl))) (Or.inr (hw _ (List.mem_of_getElem? (i := 23) rfl))) (by decide) (t := .long) (t' := (.array .byte)) (by decide) (by decide)))
  have K5 := K2.wr W5 (Or.inl (by simp))
  have N5 := Fr.snoc X5 N2 g_a1
  have Z5 : n0 ≤ h5.size := by rw [W5.size]; exact Z2
  refine own_st (T' := T5) (g' := (mkF m 14 #[.val (.ref a1), .val (.long q), .second, .val (.ref d1)] [])) (fun t9 k9 => st5 t9 k9) ?_
  refine own_ret (v := none) hF X5 (fun _ => rfl) hlk (fun fs hr => X5.returnOut hx hret (hb hby d2_14) hr) ?_ (by decide) (by decide)
  try rw [e5]
  exact ⟨rfl, N5, K5, E1_6, Fw5⟩
set_option maxRecDepth 65536 in
set_option maxHeartbeats 40000000 in
theorem rmIn (l : Launch) (Z : State) (a0 : Array Value) (hw : ∀ d ∈ tables_1, d.before a0 Z = true) (a1 : Addr) (q : Int64) (u1 u2 : Value) (h0 : Heap) (n0 : Nat) (Z0 : n0 ≤ h0.size) (E1 : Exa Z h0 a1 "com/example/stockbook/stockbook/server/JsonLines$Line") (F1 : Fld Z h0 a1 "com/example/stockbook/stockbook/server/JsonLines$Line" "number" "J" u1) (F2 : Fld Z h0 a1 "com/example/stockbook/stockbook/server/JsonLines$Line" "bytes" "[B" u2) (g_a1 : n0 ≤ a1) :
    own_Met l Z (⟨"com/example/stockbook/stockbook/server/JsonLines$Line", "<init>", "(J[B)V"⟩ : MethodName) prog_32_method_1_code 4 none ({ frames := 2, cells := 0, slots := 0, locals := 24 } : Room) #[(.ref a1), (.long q), .null] h0 (fun v h L => v = none ∧ Fr n0 L ∧ Keep h0 h [a1] ∧ Exa Z h a1 "com/example/stockbook/stockbook/server/JsonLines$Line" ∧ Fld Z h a1 "com/example/stockbook/stockbook/server/JsonLines$Line" "bytes" "[B" .null) := by
  refine own_body pn_2 ?_
  intro p e s m below meth c T0 hZ hx hby hml hown hnm hret hlk X0 e0 F hF
  have N0 := Fr.nil n0
  have K0 := Keep.refl h0 [a1]
  refine own_cast (g' := (mkF m 0 #[.val (.ref a1), .val (.long q), .second, .val .null] [])) (by first | rfl | simp [entryFrame, mkF, argsToLocals, Value.category]) ?_
  refine own_st (T' := T0) (g' := (mkF m 1 #[.val (.ref a1), .val (.long q), .second, .val .null] [(.ref a1)])) (fun t9 k9 => XS.aloadN X0.here hx rfl (hb hby d2_0) rfl rfl k9) ?_
  obtain ⟨_, _, ⟨T1, L1, k1, n1⟩, -, X1, ⟨Lc1, hQ1, l1, y1, z1⟩, st1⟩ := X0.specialBack hx (y := (⟨"java/lang/Record", "<init>", "()V"⟩ : MethodName)) rfl hown (mvT hZ (hw _ (List.mem_of_getElem? (i := 12) rfl))) (mvT hZ (hw _ (List.mem_of_getElem? (i := 13) rfl))) (mvT hZ (hw _ (List.mem_of_getElem? (i := 16) rfl))) (by decide) (own_back (W := 0) (rm3 l Z a0 hw a1 h0 n0 Z0) hZ (hw _ (List.mem_of_getElem? (i := 16) rfl)) (hw _ (List.mem_of_getElem? (i := 15) rfl)) (by decide) (by decide)) (g := (mkF m 1 #[.val (.ref a1), .val (.long q), .second, .val .null] [(.ref a1)])) rfl (by rw [hml]; rfl) (Steps.refl _) (a := a1) (argsL := []) (rest := []) (lenOf pd_2 rfl) rfl (by show 2 * 0 + _ ≤ _; exact Nat.le_of_eq rfl) (hb hby d2_1) (fun _ _ => ⟨rfl, e0, (Nat.le_of_ble_eq_true rfl), (Nat.le_of_ble_eq_true rfl)⟩)
  dsimp only [Pt.U, Pt.locs, Pt.cells, Pt.slots] at X1 l1 y1 z1 st1 hQ1
  subst l1 y1 z1
  obtain ⟨rfl, Nq1, he1⟩ := hQ1
  have N1 := Fr.app N0 Nq1
  have e1 : T1.heap = h0 := he1
  refine own_st (T' := T1) (g' := (mkF m 4 #[.val (.ref a1), .val (.long q), .second, .val .null] [])) (fun t9 k9 => st1.trans k9) ?_
  refine own_st (T' := T1) (g' := (mkF m 5 #[.val (.ref a1), .val (.long q), .second, .val .null] [(.ref a1)])) (fun t9 k9 => XS.aloadN X1.here hx rfl (hb hby d2_4) rfl rfl k9) ?_
  refine own_st (T' := T1) (g' := (mkF m 6 #[.val (.ref a1), .val (.long q), .second, .val .null] [(.long q), (.ref a1)])) (fun t9 k9 => XS.lloadN X1.here hx rfl (hb hby d2_5) rfl k9) ?_
  obtain ⟨T2, h2, X2, e2, W2, st2⟩ := putF X1 hx hZ hown (host := "") (Or.inl (hw _ (List.mem_of_getElem? (i := 20) rfl))) Via.refl e1 F1 E1 (Or.inr ⟨(hw _ (List.mem_of_getElem? (i := 21) rfl)), rfl, hnm⟩) (hw _ (List.mem_of_getElem? (i := 7) rfl)) (ty := .long) (by decide) rfl rfl (g := (mkF m 6 #[.val (.ref a1), .val (.long q), .second, .val .null] [(.long q), (.ref a1)])) rfl rfl (hb hby d2_6)
  have Fw2 := F1.same W2
  have E1_3 := E1.wr W2
  have F2_4 := F2.other W2 (Or.inr (slot_ne (Or.inr (hw _ (List.mem_of_getElem? (i := 23) rfl))) (Or.inr (hw _ (List.mem_of_getElem? (i := 21) rfl))) (by decide) (t := (.array .byte)) (t' := .long) (by decide) (by decide)))
  have K2 := K0.wr W2 (Or.inl (by simp))
  have N2 := Fr.snoc X2 N1 g_a1
  have Z2 : n0 ≤ h2.size := by rw [W2.size]; exact Z0
  refine own_st (T' := T2) (g' := (mkF m 9 #[.val (.ref a1), .val (.long q), .second, .val .null] [])) (fun t9 k9 => st2 t9 k9) ?_
  refine own_st (T' := T2) (g' := (mkF m 10 #[.val (.ref a1), .val (.long q), .second, .val .null] [(.ref a1)])) (fun t9 k9 => XS.aloadN X2.here hx rfl (hb hby d2_9) rfl rfl k9) ?_
  refine own_st (T' := T2) (g' := (mkF m 11 #[.val (.ref a1), .val (.long q), .second, .val .null] [.null, (.ref a1)])) (fun t9 k9 => XS.aloadN X2.here hx rfl (hb hby d2_10) rfl rfl k9) ?_
  obtain ⟨T5, h5, X5, e5, W5, st5⟩ := putF X2 hx hZ hown (host := "") (Or.inl (hw _ (List.mem_of_getElem? (i := 22) rfl))) Via.refl e2 F2_4 E1_3 (Or.inr ⟨(hw _ (List.mem_of_getElem? (i := 23) rfl)), rfl, hnm⟩) (hw _ (List.mem_of_getElem? (i := 7) rfl)) (ty := (.array .byte)) (by decide) rfl rfl (g := (mkF m 11 #[.val (.ref a1), .val (.long q), .second, .val .null] [.null, (.ref a1)])) rfl rfl (hb hby d2_11)
  have Fw5 := F2_4.same W5
  have E1_6 := E1_3.wr W5
  have Fw2_7 := Fw2.other W5 (Or.inr (slot_ne (Or.inr (hw _ (List.mem_of_getElem? (i := 21) rfl))) (Or.inr (hw _ (List.mem_of_getElem? (i := 23) rfl))) (by decide) (t := .long) (t' := (.array .byte)) (by decide) (by decide)))
  have K5 := K2.wr W5 (Or.inl (by simp))
  have N5 := Fr.snoc X5 N2 g_a1
  have Z5 : n0 ≤ h5.size := by rw [W5.size]; exact Z2
  refine own_st (T' := T5) (g' := (mkF m 14 #[.val (.ref a1), .val (.long q), .second, .val .null] [])) (fun t9 k9 => st5 t9 k9) ?_
  refine own_ret (v := none) hF X5 (fun _ => rfl) hlk (fun fs hr => X5.returnOut hx hret (hb hby d2_14) hr) ?_ (by decide) (by decide)
  try rw [e5]
  exact ⟨rfl, N5, K5, E1_6, Fw5⟩
theorem d5_0 : decode prog_32_method_2_code 0 = .ok (.aload_n 0, 1) := by decide +kernel
theorem d5_1 : decode prog_32_method_2_code 1 = .ok (.getfield 13, 3) := by decide +kernel
theorem d5_4 : decode prog_32_method_2_code 4 = .ok (.ifnonnull 5, 3) := by decide +kernel
theorem d5_7 : decode prog_32_method_2_code 7 = .ok (.iconst 0, 1) := by decide +kernel
theorem d5_8 : decode prog_32_method_2_code 8 = .ok (.ireturn, 1) := by decide +kernel
theorem d5_9 : decode prog_32_method_2_code 9 = .ok (.aload_n 0, 1) := by decide +kernel
theorem d5_10 : decode prog_32_method_2_code 10 = .ok (.getfield 13, 3) := by decide +kernel
theorem d5_13 : decode prog_32_method_2_code 13 = .ok (.astore_n 1, 1) := by decide +kernel
theorem d5_14 : decode prog_32_method_2_code 14 = .ok (.aload_n 1, 1) := by decide +kernel
theorem d5_15 : decode prog_32_method_2_code 15 = .ok (.arraylength, 1) := by decide +kernel
theorem d5_16 : decode prog_32_method_2_code 16 = .ok (.istore_n 2, 1) := by decide +kernel
theorem d5_17 : decode prog_32_method_2_code 17 = .ok (.iconst 0, 1) := by decide +kernel
theorem d5_18 : decode prog_32_method_2_code 18 = .ok (.istore_n 3, 1) := by decide +kernel
theorem d5_19 : decode prog_32_method_2_code 19 = .ok (.iload_n 3, 1) := by decide +kernel
theorem d5_20 : decode prog_32_method_2_code 20 = .ok (.iload_n 2, 1) := by decide +kernel
theorem d5_21 : decode prog_32_method_2_code 21 = .ok (.if_icmp .ge 37, 3) := by decide +kernel
theorem d5_24 : decode prog_32_method_2_code 24 = .ok (.aload_n 1, 1) := by decide +kernel
theorem d5_25 : decode prog_32_method_2_code 25 = .ok (.iload_n 3, 1) := by decide +kernel
theorem d5_26 : decode prog_32_method_2_code 26 = .ok (.baload, 1) := by decide +kernel
theorem d5_27 : decode prog_32_method_2_code 27 = .ok (.istore 4, 2) := by decide +kernel
theorem d5_29 : decode prog_32_method_2_code 29 = .ok (.iload 4, 2) := by decide +kernel
theorem d5_31 : decode prog_32_method_2_code 31 = .ok (.bipush 32, 2) := by decide +kernel
theorem d5_33 : decode prog_32_method_2_code 33 = .ok (.if_icmp .eq 19, 3) := by decide +kernel
theorem d5_36 : decode prog_32_method_2_code 36 = .ok (.iload 4, 2) := by decide +kernel
theorem d5_38 : decode prog_32_method_2_code 38 = .ok (.bipush 9, 2) := by decide +kernel
theorem d5_40 : decode prog_32_method_2_code 40 = .ok (.if_icmp .eq 12, 3) := by decide +kernel
theorem d5_43 : decode prog_32_method_2_code 43 = .ok (.iload 4, 2) := by decide +kernel
theorem d5_45 : decode prog_32_method_2_code 45 = .ok (.bipush 13, 2) := by decide +kernel
theorem d5_47 : decode prog_32_method_2_code 47 = .ok (.if_icmp .eq 5, 3) := by decide +kernel
theorem d5_50 : decode prog_32_method_2_code 50 = .ok (.iconst 0, 1) := by decide +kernel
theorem d5_51 : decode prog_32_method_2_code 51 = .ok (.ireturn, 1) := by decide +kernel
theorem d5_52 : decode prog_32_method_2_code 52 = .ok (.iinc 3 1, 3) := by decide +kernel
theorem d5_55 : decode prog_32_method_2_code 55 = .ok (.goto (-36), 3) := by decide +kernel
theorem d5_58 : decode prog_32_method_2_code 58 = .ok (.iconst 1, 1) := by decide +kernel
theorem d5_59 : decode prog_32_method_2_code 59 = .ok (.ireturn, 1) := by decide +kernel
theorem pn_5 : plainFor (⟨"com/example/stockbook/stockbook/server/JsonLines$Line", "isBlank", "()Z"⟩ : MethodName) = true := plainFor_of_name (by first | (simp [plainName, overriddenIn]; done) | decide +kernel)
set_option maxRecDepth 65536 in
set_option maxHeartbeats 40000000 in
theorem rmBn (l : Launch) (Z : State) (a0 : Array Value) (hw : ∀ d ∈ tables_1, d.before a0 Z = true) (a1 : Addr) (h0 : Heap) (n0 : Nat) (Z0 : n0 ≤ h0.size) (F1 : Fld Z h0 a1 "com/example/stockbook/stockbook/server/JsonLines$Line" "bytes" "[B" .null) :
    own_Met l Z (⟨"com/example/stockbook/stockbook/server/JsonLines$Line", "isBlank", "()Z"⟩ : MethodName) prog_32_method_2_code 5 (some .boolean) ({ frames := 0, cells := 0, slots := 0, locals := 0 } : Room) #[(.ref a1)] h0 (fun v h L => v = some (.int (0 : Int32)) ∧ Fr n0 L ∧ h = h0) := by
  refine own_body pn_5 ?_
  intro p e s m below meth c T0 hZ hx hby hml hown hnm hret hlk X0 e0 F hF
  have N0 := Fr.nil n0
  have K0 := Keep.refl h0 []
  refine own_cast (g' := (mkF m 0 #[.val (.ref a1), .unset, .unset, .unset, .unset] [])) (by first | rfl | simp [entryFrame, mkF, argsToLocals, Value.category]) ?_
  refine own_st (T' := T0) (g' := (mkF m 1 #[.val (.ref a1), .unset, .unset, .unset, .unset] [(.ref a1)])) (fun t9 k9 => XS.aloadN X0.here hx rfl (hb hby d5_0) rfl rfl k9) ?_
  obtain ⟨T1, X1, e1, st1⟩ := getF X0 hx hZ hown (host := "") (Or.inl (hw _ (List.mem_of_getElem? (i := 22) rfl))) Via.refl e0 F1 (g := (mkF m 1 #[.val (.ref a1), .unset, .unset, .unset, .unset] [(.ref a1)])) rfl rfl (hb hby d5_1)
  refine own_st (T' := T1) (g' := (mkF m 4 #[.val (.ref a1), .unset, .unset, .unset, .unset] [.null])) (fun t9 k9 => st1 t9 k9) ?_
  refine own_st (T' := T1) (g' := (mkF m 7 #[.val (.ref a1), .unset, .unset, .unset, .unset] [])) (fun t9 k9 => XS.ifnonnullNo X1.here hx rfl (hb hby d5_4) rfl k9) ?_
  refine own_st (T' := T1) (g' := (mkF m 8 #[.val (.ref a1), .unset, .unset, .unset, .unset] [(.int (0 : Int32))])) (fun t9 k9 => XS.iconst X1.here hx rfl (hb hby d5_7) k9) ?_
  refine own_ret (v := some (.int (0 : Int32))) hF X1 (own_some hret) hlk (fun fs hr => retN X1 hx (t := .boolean) hret (by simp) (hb hby d5_8) hr) ?_ (by decide) (by decide)
  try rw [e1]
  exact ⟨rfl, N0, rfl⟩
theorem own_os {x0 x1 x2 x3 : Value} {s4 : Slot} {v : Int32} (h : One s4) : storeLocals #[.val x0, .val x1, .val x2, .val x3, s4] 4 (.int v) = some #[.val x0, .val x1, .val x2, .val x3, .val (.int v)] := by
  rcases h with rfl | ⟨w, rfl, hw⟩
  · rfl
  · cases w <;> first | rfl | (simp [Value.category] at hw)
set_option maxRecDepth 65536 in
set_option maxHeartbeats 40000000 in
theorem rmBa (l : Launch) (Z : State) (a0 : Array Value) (hw : ∀ d ∈ tables_1, d.before a0 Z = true) (a1 d1 : Addr) (kc : ClassId) (z : Int32) (vs : List Value) (xs : Nat → Int32) (n : Nat) (h0 : Heap) (n0 : Nat) (Z0 : n0 ≤ h0.size) (F1 : Fld Z h0 a1 "com/example/stockbook/stockbook/server/JsonLines$Line" "bytes" "[B" (.ref d1)) (hz : z = Int32.ofNat n) (hn : n ≤ 4) (V1 : Arv Z h0 d1 kc .byte z vs (.int (0 : Int32))) (hv : ∀ i, i < n → vs.getD i (.int (0 : Int32)) = .int (xs i)) :
    own_Met l Z (⟨"com/example/stockbook/stockbook/server/JsonLines$Line", "isBlank", "()Z"⟩ : MethodName) prog_32_method_2_code 5 (some .boolean) ({ frames := 0, cells := 0, slots := 0, locals := 0 } : Room) #[(.ref a1)] h0 (fun v h L => ∃ z, v = some (.int z) ∧ Fr n0 L ∧ h = h0 ∧ own_B z (∀ i, i < n → own_w (xs i))) := by
  refine own_body pn_5 ?_
  intro p e s m below meth c T0 hZ hx hby hml hown hnm hret hlk X0 e0 F hF
  have N0 := Fr.nil n0
  have K0 := Keep.refl h0 []
  refine own_cast (g' := (mkF m 0 #[.val (.ref a1), .unset, .unset, .unset, .unset] [])) (by first | rfl | simp [entryFrame, mkF, argsToLocals, Value.category]) ?_
  subst hz
  refine own_st (T' := T0) (g' := (mkF m 1 #[.val (.ref a1), .unset, .unset, .unset, .unset] [(.ref a1)])) (fun t9 k9 => XS.aloadN X0.here hx rfl (hb hby d5_0) rfl rfl k9) ?_
  obtain ⟨T1, X1, e1, st1⟩ := getF X0 hx hZ hown (host := "") (Or.inl (hw _ (List.mem_of_getElem? (i := 22) rfl))) Via.refl e0 F1 (g := (mkF m 1 #[.val (.ref a1), .unset, .unset, .unset, .unset] [(.ref a1)])) rfl rfl (hb hby d5_1)
  refine own_st (T' := T1) (g' := (mkF m 4 #[.val (.ref a1), .unset, .unset, .unset, .unset] [(.ref d1)])) (fun t9 k9 => st1 t9 k9) ?_
  refine own_st (T' := T1) (g' := (mkF m 9 #[.val (.ref a1), .unset, .unset, .unset, .unset] [])) (fun t9 k9 => XS.ifnonnullYes X1.here hx rfl (pc0 := 4) (pc' := 9) rfl (hb hby d5_4) rfl (by decide) (by decide) k9) ?_
  refine own_st (T' := T1) (g' := (mkF m 10 #[.val (.ref a1), .unset, .unset, .unset, .unset] [(.ref a1)])) (fun t9 k9 => XS.aloadN X1.here hx rfl (hb hby d5_9) rfl rfl k9) ?_
  obtain ⟨T2, X2, e2, st2⟩ := getF X1 hx hZ hown (host := "") (Or.inl (hw _ (List.mem_of_getElem? (i := 22) rfl))) Via.refl e1 F1 (g := (mkF m 10 #[.val (.ref a1), .unset, .unset, .unset, .unset] [(.ref a1)])) rfl rfl (hb hby d5_10)
  refine own_st (T' := T2) (g' := (mkF m 13 #[.val (.ref a1), .unset, .unset, .unset, .unset] [(.ref d1)])) (fun t9 k9 => st2 t9 k9) ?_
  refine own_st (T' := T2) (g' := (mkF m 14 #[.val (.ref a1), .val (.ref d1), .unset, .unset, .unset] [])) (fun t9 k9 => XS.astoreN X2.here hx rfl (hb hby d5_13) rfl rfl (l' := #[.val (.ref a1), .val (.ref d1), .unset, .unset, .unset]) rfl k9) ?_
  refine own_st (T' := T2) (g' := (mkF m 15 #[.val (.ref a1), .val (.ref d1), .unset, .unset, .unset] [(.ref d1)])) (fun t9 k9 => XS.aloadN X2.here hx rfl (hb hby d5_14) rfl rfl k9) ?_
  obtain ⟨clu3, Aru3, qu3, Su3, Nu3, Hu3, Gu3⟩ := (id V1)
  refine own_st (T' := T2) (g' := (mkF m 16 #[.val (.ref a1), .val (.ref d1), .unset, .unset, .unset] [(.int (Int32.ofNat n))])) (fun t9 k9 => X2.arraylength hx (by rw [e2]; exact Aru3.1) (State.isArrayOf_alike hZ.alike Aru3.2.1) (g := (mkF m 15 #[.val (.ref a1), .val (.ref d1), .unset, .unset, .unset] [(.ref d1)])) rfl rfl (hb hby d5_15) t9 (by rw [len_of Su3 Nu3]; exact k9)) ?_
  refine own_st (T' := T2) (g' := (mkF m 17 #[.val (.ref a1), .val (.ref d1), .val (.int (Int32.ofNat n)), .unset, .unset] [])) (fun t9 k9 => XS.istoreN X2.here hx rfl (hb hby d5_16) rfl (l' := #[.val (.ref a1), .val (.ref d1), .val (.int (Int32.ofNat n)), .unset, .unset]) rfl k9) ?_
  refine own_st (T' := T2) (g' := (mkF m 18 #[.val (.ref a1), .val (.ref d1), .val (.int (Int32.ofNat n)), .unset, .unset] [(.int (0 : Int32))])) (fun t9 k9 => XS.iconst X2.here hx rfl (hb hby d5_17) k9) ?_
  refine own_st (T' := T2) (g' := (mkF m 19 #[.val (.ref a1), .val (.ref d1), .val (.int (Int32.ofNat n)), .val (.int (0 : Int32)), .unset] [])) (fun t9 k9 => XS.istoreN X2.here hx rfl (hb hby d5_18) rfl (l' := #[.val (.ref a1), .val (.ref d1), .val (.int (Int32.ofNat n)), .val (.int (0 : Int32)), .unset]) rfl k9) ?_
  have lp : ∀ (k : Nat) (T4 : State) (L4 : List Loc) (i : Nat) (s4 : Slot), Stand p l e ({ frames := 0, cells := 0, slots := 0, locals := 0 } : Room) s m #[(.ref a1)] below meth c T4 L4 (0) (0) → T4.heap = h0 → Fr n0 L4 → (i + k = n) → (One s4) → (∀ j, j < i → own_w (xs j)) → own_Go p e below F T4 (mkF m 19 #[.val (.ref a1), .val (.ref d1), .val (.int (Int32.ofNat n)), .val (.int (Int32.ofNat i)), s4] []) := by
    intro k
    induction k with
    | zero =>
      intro T4 L4 i s4 X4 e4 N4 hi ho ha
      obtain rfl : i = n := by omega
      refine own_st (T' := T4) (g' := (mkF m 20 #[.val (.ref a1), .val (.ref d1), .val (.int (Int32.ofNat i)), .val (.int (Int32.ofNat i)), s4] [(.int (Int32.ofNat i))])) (fun t9 k9 => XS.iloadN X4.here hx rfl (hb hby d5_19) rfl k9) ?_
      refine own_st (T' := T4) (g' := (mkF m 21 #[.val (.ref a1), .val (.ref d1), .val (.int (Int32.ofNat i)), .val (.int (Int32.ofNat i)), s4] [(.int (Int32.ofNat i)), (.int (Int32.ofNat i))])) (fun t9 k9 => XS.iloadN X4.here hx rfl (hb hby d5_20) rfl k9) ?_
      refine own_st (T' := T4) (g' := (mkF m 58 #[.val (.ref a1), .val (.ref d1), .val (.int (Int32.ofNat i)), .val (.int (Int32.ofNat i)), s4] [])) (fun t9 k9 => XS.icmpYes X4.here hx rfl (pc0 := 21) (pc' := 58) rfl (hb hby d5_21) rfl (flt (Int32.lt_irrefl)).2.1 (by decide) (by decide) k9) ?_
      refine own_st (T' := T4) (g' := (mkF m 59 #[.val (.ref a1), .val (.ref d1), .val (.int (Int32.ofNat i)), .val (.int (Int32.ofNat i)), s4] [(.int (1 : Int32))])) (fun t9 k9 => XS.iconst X4.here hx rfl (hb hby d5_58) k9) ?_
      refine own_ret (v := some (.int (1 : Int32))) hF X4 (own_some hret) hlk (fun fs hr => retN X4 hx (t := .boolean) hret (by simp) (hb hby d5_59) hr) ?_ (by decide) (by decide)
      try rw [e4]
      exact ⟨_, rfl, N4, rfl, Or.inl ⟨rfl, ha⟩⟩
    | succ k ih =>
      intro T4 L4 i s4 X4 e4 N4 hi ho ha
      obtain ⟨q1, q2⟩ := own_nat (i := i) (by omega)
      refine own_st (T' := T4) (g' := (mkF m 20 #[.val (.ref a1), .val (.ref d1), .val (.int (Int32.ofNat n)), .val (.int (Int32.ofNat i)), s4] [(.int (Int32.ofNat i))])) (fun t9 k9 => XS.iloadN X4.here hx rfl (hb hby d5_19) rfl k9) ?_
      refine own_st (T' := T4) (g' := (mkF m 21 #[.val (.ref a1), .val (.ref d1), .val (.int (Int32.ofNat n)), .val (.int (Int32.ofNat i)), s4] [(.int (Int32.ofNat n)), (.int (Int32.ofNat i))])) (fun t9 k9 => XS.iloadN X4.here hx rfl (hb hby d5_20) rfl k9) ?_
      refine own_st (T' := T4) (g' := (mkF m 24 #[.val (.ref a1), .val (.ref d1), .val (.int (Int32.ofNat n)), .val (.int (Int32.ofNat i)), s4] [])) (fun t9 k9 => XS.icmpNo X4.here hx rfl (hb hby d5_21) rfl (tlt (own_lt (by omega) (by omega))).2.1 k9) ?_
      refine own_st (T' := T4) (g' := (mkF m 25 #[.val (.ref a1), .val (.ref d1), .val (.int (Int32.ofNat n)), .val (.int (Int32.ofNat i)), s4] [(.ref d1)])) (fun t9 k9 => XS.aloadN X4.here hx rfl (hb hby d5_24) rfl rfl k9) ?_
      refine own_st (T' := T4) (g' := (mkF m 26 #[.val (.ref a1), .val (.ref d1), .val (.int (Int32.ofNat n)), .val (.int (Int32.ofNat i)), s4] [(.int (Int32.ofNat i)), (.ref d1)])) (fun t9 k9 => XS.iloadN X4.here hx rfl (hb hby d5_25) rfl k9) ?_
      obtain ⟨clu5, Aru5, qu5, Su5, Nu5, Hu5, Gu5⟩ := (id V1)
      have hinu5 := inb_of Su5 (j := (Int32.ofNat i)) ⟨q2, own_lt (by omega) (by omega)⟩
      refine own_st (T' := T4) (g' := (mkF m 27 #[.val (.ref a1), .val (.ref d1), .val (.int (Int32.ofNat n)), .val (.int (Int32.ofNat i)), s4] [(.int (xs i))])) (fun t9 k9 => X4.baloadBytes hx (j := (Int32.ofNat i)) (v := (.int (xs i))) (by rw [e4]; exact Aru5.1) (State.isArrayOf_alike hZ.alike Aru5.2.1) Aru5.2.2 hinu5 (Hu5.at hinu5 (by rw [q1]; exact hv _ (by omega))) (g := (mkF m 26 #[.val (.ref a1), .val (.ref d1), .val (.int (Int32.ofNat n)), .val (.int (Int32.ofNat i)), s4] [(.int (Int32.ofNat i)), (.ref d1)])) rfl rfl (hb hby d5_26) t9 k9) ?_
      refine own_st (T' := T4) (g' := (mkF m 29 #[.val (.ref a1), .val (.ref d1), .val (.int (Int32.ofNat n)), .val (.int (Int32.ofNat i)), .val (.int (xs i))] [])) (fun t9 k9 => XS.istore X4.here hx rfl (hb hby d5_27) rfl (l' := #[.val (.ref a1), .val (.ref d1), .val (.int (Int32.ofNat n)), .val (.int (Int32.ofNat i)), .val (.int (xs i))]) (own_os ho) k9) ?_
      have j52 : ∀ (hw4 : own_w (xs i)), own_Go p e below F T4 (mkF m 52 #[.val (.ref a1), .val (.ref d1), .val (.int (Int32.ofNat n)), .val (.int (Int32.ofNat i)), .val (.int (xs i))] []) := by
        intro hw4
        refine own_st (T' := T4) (g' := (mkF m 55 #[.val (.ref a1), .val (.ref d1), .val (.int (Int32.ofNat n)), .val (.int ((Int32.ofNat i) + (1 : Int32))), .val (.int (xs i))] [])) (fun t9 k9 => XS.iinc X4.here hx rfl (hb hby d5_52) rfl (l' := #[.val (.ref a1), .val (.ref d1), .val (.int (Int32.ofNat n)), .val (.int ((Int32.ofNat i) + (1 : Int32))), .val (.int (xs i))]) rfl k9) ?_
        rw [own_one i]
        refine own_st (T' := T4) (g' := (mkF m 19 #[.val (.ref a1), .val (.ref d1), .val (.int (Int32.ofNat n)), .val (.int (Int32.ofNat (i + 1))), .val (.int (xs i))] [])) (fun t9 k9 => XS.goto X4.here hx rfl (pc0 := 55) (pc' := 19) rfl (hb hby d5_55) (by decide) (by decide) k9) ?_
        exact ih _ _ (i + 1) _ X4 e4 N4 (by omega) (One.val rfl) (fun j hj => (Nat.lt_succ_iff_lt_or_eq.mp hj).elim (ha j) (fun q => q ▸ hw4))
      refine own_st (T' := T4) (g' := (mkF m 31 #[.val (.ref a1), .val (.ref d1), .val (.int (Int32.ofNat n)), .val (.int (Int32.ofNat i)), .val (.int (xs i))] [(.int (xs i))])) (fun t9 k9 => XS.iload X4.here hx rfl (hb hby d5_29) rfl k9) ?_
      refine own_st (T' := T4) (g' := (mkF m 33 #[.val (.ref a1), .val (.ref d1), .val (.int (Int32.ofNat n)), .val (.int (Int32.ofNat i)), .val (.int (xs i))] [(.int (32 : Int32)), (.int (xs i))])) (fun t9 k9 => XS.bipush X4.here hx rfl (hb hby d5_31) k9) ?_
      by_cases h1 : (xs i) = (32 : Int32)
      · refine own_st (T' := T4) (g' := (mkF m 52 #[.val (.ref a1), .val (.ref d1), .val (.int (Int32.ofNat n)), .val (.int (Int32.ofNat i)), .val (.int (xs i))] [])) (fun t9 k9 => XS.icmpYes X4.here hx rfl (pc0 := 33) (pc' := 52) rfl (hb hby d5_33) rfl (teq h1).1 (by decide) (by decide) k9) ?_
        exact j52 (Or.inl h1)
      · refine own_st (T' := T4) (g' := (mkF m 36 #[.val (.ref a1), .val (.ref d1), .val (.int (Int32.ofNat n)), .val (.int (Int32.ofNat i)), .val (.int (xs i))] [])) (fun t9 k9 => XS.icmpNo X4.here hx rfl (hb hby d5_33) rfl (feq h1).1 k9) ?_
        refine own_st (T' := T4) (g' := (mkF m 38 #[.val (.ref a1), .val (.ref d1), .val (.int (Int32.ofNat n)), .val (.int (Int32.ofNat i)), .val (.int (xs i))] [(.int (xs i))])) (fun t9 k9 => XS.iload X4.here hx rfl (hb hby d5_36) rfl k9) ?_
        refine own_st (T' := T4) (g' := (mkF m 40 #[.val (.ref a1), .val (.ref d1), .val (.int (Int32.ofNat n)), .val (.int (Int32.ofNat i)), .val (.int (xs i))] [(.int (9 : Int32)), (.int (xs i))])) (fun t9 k9 => XS.bipush X4.here hx rfl (hb hby d5_38) k9) ?_
        by_cases h2 : (xs i) = (9 : Int32)
        · refine own_st (T' := T4) (g' := (mkF m 52 #[.val (.ref a1), .val (.ref d1), .val (.int (Int32.ofNat n)), .val (.int (Int32.ofNat i)), .val (.int (xs i))] [])) (fun t9 k9 => XS.icmpYes X4.here hx rfl (pc0 := 40) (pc' := 52) rfl (hb hby d5_40) rfl (teq h2).1 (by decide) (by decide) k9) ?_
          exact j52 (Or.inr (Or.inl h2))
        · refine own_st (T' := T4) (g' := (mkF m 43 #[.val (.ref a1), .val (.ref d1), .val (.int (Int32.ofNat n)), .val (.int (Int32.ofNat i)), .val (.int (xs i))] [])) (fun t9 k9 => XS.icmpNo X4.here hx rfl (hb hby d5_40) rfl (feq h2).1 k9) ?_
          refine own_st (T' := T4) (g' := (mkF m 45 #[.val (.ref a1), .val (.ref d1), .val (.int (Int32.ofNat n)), .val (.int (Int32.ofNat i)), .val (.int (xs i))] [(.int (xs i))])) (fun t9 k9 => XS.iload X4.here hx rfl (hb hby d5_43) rfl k9) ?_
          refine own_st (T' := T4) (g' := (mkF m 47 #[.val (.ref a1), .val (.ref d1), .val (.int (Int32.ofNat n)), .val (.int (Int32.ofNat i)), .val (.int (xs i))] [(.int (13 : Int32)), (.int (xs i))])) (fun t9 k9 => XS.bipush X4.here hx rfl (hb hby d5_45) k9) ?_
          by_cases h3 : (xs i) = (13 : Int32)
          · refine own_st (T' := T4) (g' := (mkF m 52 #[.val (.ref a1), .val (.ref d1), .val (.int (Int32.ofNat n)), .val (.int (Int32.ofNat i)), .val (.int (xs i))] [])) (fun t9 k9 => XS.icmpYes X4.here hx rfl (pc0 := 47) (pc' := 52) rfl (hb hby d5_47) rfl (teq h3).1 (by decide) (by decide) k9) ?_
            exact j52 (Or.inr (Or.inr h3))
          · refine own_st (T' := T4) (g' := (mkF m 50 #[.val (.ref a1), .val (.ref d1), .val (.int (Int32.ofNat n)), .val (.int (Int32.ofNat i)), .val (.int (xs i))] [])) (fun t9 k9 => XS.icmpNo X4.here hx rfl (hb hby d5_47) rfl (feq h3).1 k9) ?_
            refine own_st (T' := T4) (g' := (mkF m 51 #[.val (.ref a1), .val (.ref d1), .val (.int (Int32.ofNat n)), .val (.int (Int32.ofNat i)), .val (.int (xs i))] [(.int (0 : Int32))])) (fun t9 k9 => XS.iconst X4.here hx rfl (hb hby d5_50) k9) ?_
            refine own_ret (v := some (.int (0 : Int32))) hF X4 (own_some hret) hlk (fun fs hr => retN X4 hx (t := .boolean) hret (by simp) (hb hby d5_51) hr) ?_ (by decide) (by decide)
            try rw [e4]
            exact ⟨_, rfl, N4, rfl, Or.inr ⟨rfl, fun q => (q i (by omega)).elim h1 (fun q => q.elim h2 h3)⟩⟩
  exact lp n _ _ 0 _ X2 e2 N0 (Nat.zero_add n) One.u (fun j hj => absurd hj (Nat.not_lt_zero j))
theorem pn_0 : plainFor (⟨"com/example/stockbook/stockbook/server/LineIsBlankPinLaw", "law", "(JIIIII)Z"⟩ : MethodName) = true := plainFor_of_name (by first | (simp [plainName, overriddenIn]; done) | decide +kernel)
set_option maxRecDepth 65536 in
set_option maxHeartbeats 40000000 in
theorem rm0 (l : Launch) (Z : State) (a0 : Array Value) (hw : ∀ d ∈ tables_1, d.before a0 Z = true) (q1 : Int64) (p2 p3 p4 p5 p6 : Int32) (h0 : Heap) (n0 : Nat) (Z0 : n0 ≤ h0.size)  :
    own_Met l Z x code maxLocals ret room_1 #[(.long q1), (.int p2), (.int p3), (.int p4), (.int p5), (.int p6)] h0 (fun v h L => v = some (.int (1 : Int32)) ∧ Fr n0 L) := by
  refine own_body pn_0 ?_
  intro p e s m below meth c T0 hZ hx hby hml hown hnm hret hlk X0 e0 F hF
  have N0 := Fr.nil n0
  have K0 := Keep.refl h0 []
  refine own_cast (g' := (mkF m 0 #[.val (.long q1), .second, .val (.int p2), .val (.int p3), .val (.int p4), .val (.int p5), .val (.int p6), .unset, .unset, .unset, .unset] [])) (by first | rfl | simp [entryFrame, mkF, argsToLocals, Value.category, maxLocals]) ?_
  refine own_st (T' := T0) (g' := (mkF m 1 #[.val (.long q1), .second, .val (.int p2), .val (.int p3), .val (.int p4), .val (.int p5), .val (.int p6), .unset, .unset, .unset, .unset] [(.int p2)])) (fun t9 k9 => XS.iloadN X0.here hx rfl (hb hby at_0) rfl k9) ?_
  refine own_st (T' := T0) (g' := (mkF m 3 #[.val (.long q1), .second, .val (.int p2), .val (.int p3), .val (.int p4), .val (.int p5), .val (.int p6), .unset, .unset, .unset, .unset] [(.int (2147483647 : Int32)), (.int p2)])) (fun t9 k9 => X0.ldcInt hx hown (mvT hZ (hw _ (List.mem_of_getElem? (i := 0) rfl))) (g := (mkF m 1 #[.val (.long q1), .second, .val (.int p2), .val (.int p3), .val (.int p4), .val (.int p5), .val (.int p6), .unset, .unset, .unset, .unset] [(.int p2)])) rfl (hb hby at_1) t9 k9) ?_
  refine own_st (T' := T0) (g' := (mkF m 4 #[.val (.long q1), .second, .val (.int p2), .val (.int p3), .val (.int p4), .val (.int p5), .val (.int p6), .unset, .unset, .unset, .unset] [(.int (p2 &&& (2147483647 : Int32)))])) (fun t9 k9 => XS.iand X0.here hx rfl (hb hby at_3) rfl k9) ?_
  refine own_st (T' := T0) (g' := (mkF m 6 #[.val (.long q1), .second, .val (.int p2), .val (.int p3), .val (.int p4), .val (.int p5), .val (.int p6), .unset, .unset, .unset, .unset] [(.int (6 : Int32)), (.int (p2 &&& (2147483647 : Int32)))])) (fun t9 k9 => XS.bipush X0.here hx rfl (hb hby at_4) k9) ?_
  refine own_st (T' := T0) (g' := (mkF m 7 #[.val (.long q1), .second, .val (.int p2), .val (.int p3), .val (.int p4), .val (.int p5), .val (.int p6), .unset, .unset, .unset, .unset] [(.int ((p2 &&& (2147483647 : Int32)) % (6 : Int32)))])) (fun t9 k9 => iremM X0 hx (g := (mkF m 6 #[.val (.long q1), .second, .val (.int p2), .val (.int p3), .val (.int p4), .val (.int p5), .val (.int p6), .unset, .unset, .unset, .unset] [(.int (6 : Int32)), (.int (p2 &&& (2147483647 : Int32)))])) rfl (hb hby at_6) rfl (by decide) k9) ?_
  refine own_st (T' := T0) (g' := (mkF m 9 #[.val (.long q1), .second, .val (.int p2), .val (.int p3), .val (.int p4), .val (.int p5), .val (.int p6), .val (.int ((p2 &&& (2147483647 : Int32)) % (6 : Int32))), .unset, .unset, .unset] [])) (fun t9 k9 => XS.istore X0.here hx rfl (hb hby at_7) rfl (l' := #[.val (.long q1), .second, .val (.int p2), .val (.int p3), .val (.int p4), .val (.int p5), .val (.int p6), .val (.int ((p2 &&& (2147483647 : Int32)) % (6 : Int32))), .unset, .unset, .unset]) rfl k9) ?_
  obtain ⟨kk, hkk⟩ : ∃ z, z = ((p2 &&& (2147483647 : Int32)) % (6 : Int32)) := ⟨_, rfl⟩
  rw [← hkk]
  refine own_st (T' := T0) (g' := (mkF m 11 #[.val (.long q1), .second, .val (.int p2), .val (.int p3), .val (.int p4), .val (.int p5), .val (.int p6), .val (.int kk), .unset, .unset, .unset] [(.int kk)])) (fun t9 k9 => XS.iload X0.here hx rfl (hb hby at_9) rfl k9) ?_
  by_cases hk0 : kk = (0 : Int32)
  · refine own_st (T' := T0) (g' := (mkF m 14 #[.val (.long q1), .second, .val (.int p2), .val (.int p3), .val (.int p4), .val (.int p5), .val (.int p6), .val (.int kk), .unset, .unset, .unset] [])) (fun t9 k9 => XS.ifNo X0.here hx rfl (hb hby at_11) rfl ((if0 _ _).trans (teq hk0).2) k9) ?_
    subst hk0
    show own_Go p e below F T0 (mkF m 14 #[.val (.long q1), .second, .val (.int p2), .val (.int p3), .val (.int p4), .val (.int p5), .val (.int p6), .val (.int (0 : Int32)), .unset, .unset, .unset] [])
    refine own_st (T' := T0) (g' := (mkF m 15 #[.val (.long q1), .second, .val (.int p2), .val (.int p3), .val (.int p4), .val (.int p5), .val (.int p6), .val (.int (0 : Int32)), .unset, .unset, .unset] [(.int (0 : Int32))])) (fun t9 k9 => XS.iconst X0.here hx rfl (hb hby at_14) k9) ?_
    obtain ⟨T1, h1, k1, X1, e1, E1, A1, st1⟩ := newP X0 hx hZ (hw _ (List.mem_of_getElem? (i := 1) rfl)) e0 (g := (mkF m 15 #[.val (.long q1), .second, .val (.int p2), .val (.int p3), .val (.int p4), .val (.int p5), .val (.int p6), .val (.int (0 : Int32)), .unset, .unset, .unset] [(.int (0 : Int32))])) rfl (hb hby at_15) rfl (by decide) (cap := 0) (by decide) (by decide) (by decide) (by decide)
    obtain ⟨b1, gb1⟩ : ∃ z, z = h0.size := ⟨_, rfl⟩
    have g_b1 : n0 ≤ b1 := gb1 ▸ Z0
    have sz_b1 : h0.size ≤ b1 := gb1 ▸ K0.1
    rw [← gb1] at A1 st1
    have K1 := K0.ext E1
    have Z1 : n0 ≤ h1.size := Nat.le_trans Z0 E1.1
    have V_b1 : Arv Z h1 b1 k1 .byte (0 : Int32) [] (.int (0 : Int32)) := (Arv.new A1 (by decide)).pad (pad_rep [] (.int (0 : Int32)) 0)
    refine own_st (T' := T1) (g' := (mkF m 17 #[.val (.long q1), .second, .val (.int p2), .val (.int p3), .val (.int p4), .val (.int p5), .val (.int p6), .val (.int (0 : Int32)), .unset, .unset, .unset] [(.ref b1)])) (fun t9 k9 => st1 t9 k9) ?_
    refine own_st (T' := T1) (g' := (mkF m 19 #[.val (.long q1), .second, .val (.int p2), .val (.int p3), .val (.int p4), .val (.int p5), .val (.int p6), .val (.int (0 : Int32)), .val (.ref b1), .unset, .unset] [])) (fun t9 k9 => XS.astore X1.here hx rfl (hb hby at_17) rfl rfl (l' := #[.val (.long q1), .second, .val (.int p2), .val (.int p3), .val (.int p4), .val (.int p5), .val (.int p6), .val (.int (0 : Int32)), .val (.ref b1), .unset, .unset]) rfl k9) ?_
    refine own_st (T' := T1) (g' := (mkF m 137 #[.val (.long q1), .second, .val (.int p2), .val (.int p3), .val (.int p4), .val (.int p5), .val (.int p6), .val (.int (0 : Int32)), .val (.ref b1), .unset, .unset] [])) (fun t9 k9 => XS.goto X1.here hx rfl (pc0 := 19) (pc' := 137) rfl (hb hby at_19) (by decide) (by decide) k9) ?_
    have j209 : ∀ (T2 : State) (L2 : List Loc) (y9 : Int32), Stand p l e room_1 s m #[(.long q1), (.int p2), (.int p3), (.int p4), (.int p5), (.int p6)] below meth c T2 L2 (0 + 1) (0 + 0) → T2.heap = h1 → Fr n0 L2 → (own_B y9 (∀ i, i < 0 → own_w (own_xs p3 p4 p5 p6 i))) → own_Go p e below F T2 (mkF m 209 #[.val (.long q1), .second, .val (.int p2), .val (.int p3), .val (.int p4), .val (.int p5), .val (.int p6), .val (.int (0 : Int32)), .val (.ref b1), .unset, .unset] [(.int y9)]) := by
      intro T2 L2 y9 X2 e2 N2 hy
      refine own_st (T' := T2) (g' := (mkF m 211 #[.val (.long q1), .second, .val (.int p2), .val (.int p3), .val (.int p4), .val (.int p5), .val (.int p6), .val (.int (0 : Int32)), .val (.ref b1), .val (.int y9), .unset] [])) (fun t9 k9 => XS.istore X2.here hx rfl (hb hby at_209) rfl (l' := #[.val (.long q1), .second, .val (.int p2), .val (.int p3), .val (.int p4), .val (.int p5), .val (.int p6), .val (.int (0 : Int32)), .val (.ref b1), .val (.int y9), .unset]) rfl k9) ?_
      obtain ⟨T3, h3, X3, e3, E3, A3, D3, -, st3⟩ := newO X2 hx hZ hown (hw _ (List.mem_of_getElem? (i := 6) rfl)) (hw _ (List.mem_of_getElem? (i := 7) rfl)) (hw _ (List.mem_of_getElem? (i := 8) rfl)) e2 (g := (mkF m 211 #[.val (.long q1), .second, .val (.int p2), .val (.int p3), .val (.int p4), .val (.int p5), .val (.int p6), .val (.int (0 : Int32)), .val (.ref b1), .val (.int y9), .unset] [])) rfl (hb hby at_211) (by decide) (by decide)
      obtain ⟨b3, gb3⟩ : ∃ z, z = h1.size := ⟨_, rfl⟩
      have ne_b1_b3 : b1 ≠ b3 := own_ne gb3 V_b1.lt
      have g_b3 : n0 ≤ b3 := gb3 ▸ Z1
      have sz_b3 : h0.size ≤ b3 := gb3 ▸ K1.1
      rw [← gb3] at A3 D3 st3
      have V_b1_4 := V_b1.ext E3
      have K3 := K1.ext E3
      have Z3 : n0 ≤ h3.size := Nat.le_trans Z1 E3.1
      have F_number_b3 : Fld Z h3 b3 "com/example/stockbook/stockbook/server/JsonLines$Line" "number" "J" (.long (0 : Int64)) := D3 (Or.inr (hw _ (List.mem_of_getElem? (i := 21) rfl))) (ty := .long) (by decide)
      have F_bytes_b3 : Fld Z h3 b3 "com/example/stockbook/stockbook/server/JsonLines$Line" "bytes" "[B" .null := D3 (Or.inr (hw _ (List.mem_of_getElem? (i := 23) rfl))) (ty := (.array .byte)) (by decide)
      refine own_st (T' := T3) (g' := (mkF m 214 #[.val (.long q1), .second, .val (.int p2), .val (.int p3), .val (.int p4), .val (.int p5), .val (.int p6), .val (.int (0 : Int32)), .val (.ref b1), .val (.int y9), .unset] [(.ref b3)])) (fun t9 k9 => st3 t9 k9) ?_
      refine own_st (T' := T3) (g' := (mkF m 215 #[.val (.long q1), .second, .val (.int p2), .val (.int p3), .val (.int p4), .val (.int p5), .val (.int p6), .val (.int (0 : Int32)), .val (.ref b1), .val (.int y9), .unset] [(.ref b3), (.ref b3)])) (fun t9 k9 => XS.dup X3.here hx rfl (hb hby at_214) rfl rfl k9) ?_
      refine own_st (T' := T3) (g' := (mkF m 216 #[.val (.long q1), .second, .val (.int p2), .val (.int p3), .val (.int p4), .val (.int p5), .val (.int p6), .val (.int (0 : Int32)), .val (.ref b1), .val (.int y9), .unset] [(.long q1), (.ref b3), (.ref b3)])) (fun t9 k9 => XS.lloadN X3.here hx rfl (hb hby at_215) rfl k9) ?_
      refine own_st (T' := T3) (g' := (mkF m 218 #[.val (.long q1), .second, .val (.int p2), .val (.int p3), .val (.int p4), .val (.int p5), .val (.int p6), .val (.int (0 : Int32)), .val (.ref b1), .val (.int y9), .unset] [(.ref b1), (.long q1), (.ref b3), (.ref b3)])) (fun t9 k9 => XS.aload X3.here hx rfl (hb hby at_216) rfl rfl k9) ?_
      obtain ⟨_, _, ⟨T5, L5, k5, n5⟩, -, X5, ⟨Lc5, hQ5, l5, y5, z5⟩, st5⟩ := X3.specialBack hx (y := (⟨"com/example/stockbook/stockbook/server/JsonLines$Line", "<init>", "(J[B)V"⟩ : MethodName)) rfl hown (mvT hZ (hw _ (List.mem_of_getElem? (i := 9) rfl))) (mvT hZ (hw _ (List.mem_of_getElem? (i := 10) rfl))) (mvT hZ (hw _ (List.mem_of_getElem? (i := 11) rfl))) (by decide) (own_back (W := 1) (rmIa l Z a0 hw b3 q1 b1 (.long 0) .null h3 n0 Z3 A3 F_number_b3 F_bytes_b3 g_b3) hZ (hw _ (List.mem_of_getElem? (i := 11) rfl)) (hw _ (List.mem_of_getElem? (i := 8) rfl)) (by decide) (by decide)) (g := (mkF m 218 #[.val (.long q1), .second, .val (.int p2), .val (.int p3), .val (.int p4), .val (.int p5), .val (.int p6), .val (.int (0 : Int32)), .val (.ref b1), .val (.int y9), .unset] [(.ref b1), (.long q1), (.ref b3), (.ref b3)])) rfl (by rw [hml]; rfl) (Steps.refl _) (a := b3) (argsL := [(.long q1), (.ref b1)]) (rest := [(.ref b3)]) (lenOf pd_1 rfl) rfl (by show 2 * 0 + _ ≤ _; exact Nat.le_of_eq rfl) (hb hby at_218) (fun _ _ => ⟨rfl, e3, (Nat.le_of_ble_eq_true rfl), (Nat.le_of_ble_eq_true rfl)⟩)
      dsimp only [Pt.U, Pt.locs, Pt.cells, Pt.slots] at X5 l5 y5 z5 st5 hQ5
      subst l5 y5 z5
      obtain ⟨rfl, Nq5, Kq5, Eq5, Fb5⟩ := hQ5
      have N5 := Fr.app N2 Nq5
      obtain ⟨h5, e5⟩ : ∃ z, T5.heap = z := ⟨_, rfl⟩
      rw [e5] at Kq5 Eq5 Fb5
      have V_b1_6 := V_b1_4.keep Kq5 (ninS ne_b1_b3 nin0)
      have A3_7 := A3.keep Kq5
      have K5 := K3.trans Kq5 (allS (Or.inr sz_b3) all0)
      have Z5 : n0 ≤ h5.size := Nat.le_trans Z3 Kq5.1
      refine own_st (T' := T5) (g' := (mkF m 221 #[.val (.long q1), .second, .val (.int p2), .val (.int p3), .val (.int p4), .val (.int p5), .val (.int p6), .val (.int (0 : Int32)), .val (.ref b1), .val (.int y9), .unset] [(.ref b3)])) (fun t9 k9 => st5.trans k9) ?_
      refine own_st (T' := T5) (g' := (mkF m 223 #[.val (.long q1), .second, .val (.int p2), .val (.int p3), .val (.int p4), .val (.int p5), .val (.int p6), .val (.int (0 : Int32)), .val (.ref b1), .val (.int y9), .val (.ref b3)] [])) (fun t9 k9 => XS.astore X5.here hx rfl (hb hby at_221) rfl rfl (l' := #[.val (.long q1), .second, .val (.int p2), .val (.int p3), .val (.int p4), .val (.int p5), .val (.int p6), .val (.int (0 : Int32)), .val (.ref b1), .val (.int y9), .val (.ref b3)]) rfl k9) ?_
      refine own_st (T' := T5) (g' := (mkF m 225 #[.val (.long q1), .second, .val (.int p2), .val (.int p3), .val (.int p4), .val (.int p5), .val (.int p6), .val (.int (0 : Int32)), .val (.ref b1), .val (.int y9), .val (.ref b3)] [(.ref b3)])) (fun t9 k9 => XS.aload X5.here hx rfl (hb hby at_223) rfl rfl k9) ?_
      obtain ⟨cq8, kq8, qa8, qb8, qc8⟩ := isOf hZ e5 A3_7
      obtain ⟨_, _, ⟨T8, L8, k8, n8⟩, -, X8, ⟨Lc8, hQ8, l8, y8, z8⟩, st8⟩ := X5.virtualBack hx (y := (⟨"com/example/stockbook/stockbook/server/JsonLines$Line", "isBlank", "()Z"⟩ : MethodName)) (z := (⟨"com/example/stockbook/stockbook/server/JsonLines$Line", "isBlank", "()Z"⟩ : MethodName)) hown (mvT hZ (hw _ (List.mem_of_getElem? (i := 24) rfl))) (mvT hZ (hw _ (List.mem_of_getElem? (i := 25) rfl))) (notFace_of_selects (args := #[]) (mvT hZ (hw _ (List.mem_of_getElem? (i := 27) rfl)))) (mvT hZ (hw _ (List.mem_of_getElem? (i := 27) rfl))) (mvT hZ (hw _ (List.mem_of_getElem? (i := 26) rfl))) (by decide) (own_back (W := 0) (rmBa l Z a0 hw b3 b1 k1 (0 : Int32) _ (own_xs p3 p4 p5 p6) 0 h5 n0 Z5 Fb5 (by decide) (by decide) V_b1_6 (fun i hi => absurd hi (Nat.not_lt_zero i))) hZ (hw _ (List.mem_of_getElem? (i := 28) rfl)) (hw _ (List.mem_of_getElem? (i := 8) rfl)) (by decide) (by decide)) qa8 qc8 (g := (mkF m 225 #[.val (.long q1), .second, .val (.int p2), .val (.int p3), .val (.int p4), .val (.int p5), .val (.int p6), .val (.int (0 : Int32)), .val (.ref b1), .val (.int y9), .val (.ref b3)] [(.ref b3)])) rfl (by rw [hml]; rfl) (Steps.refl _) (argsL := []) (rest := []) (lenOf pd_3 rfl) rfl (by show 2 * 0 + _ ≤ _; exact Nat.le_of_eq rfl) (hb hby at_225) (fun _ _ => ⟨rfl, e5, (Nat.le_of_ble_eq_true rfl), (Nat.le_of_ble_eq_true rfl)⟩)
      dsimp only [Pt.U, Pt.locs, Pt.cells, Pt.slots] at X8 l8 y8 z8 st8 hQ8
      subst l8 y8 z8
      obtain ⟨z8, rfl, Nq8, he8, hB8⟩ := hQ8
      have N8 := Fr.app N5 Nq8
      have e8 : T8.heap = h5 := he8
      refine own_st (T' := T8) (g' := (mkF m 228 #[.val (.long q1), .second, .val (.int p2), .val (.int p3), .val (.int p4), .val (.int p5), .val (.int p6), .val (.int (0 : Int32)), .val (.ref b1), .val (.int y9), .val (.ref b3)] [(.int z8)])) (fun t9 k9 => st8.trans k9) ?_
      refine own_st (T' := T8) (g' := (mkF m 230 #[.val (.long q1), .second, .val (.int p2), .val (.int p3), .val (.int p4), .val (.int p5), .val (.int p6), .val (.int (0 : Int32)), .val (.ref b1), .val (.int y9), .val (.ref b3)] [(.int y9), (.int z8)])) (fun t9 k9 => XS.iload X8.here hx rfl (hb hby at_228) rfl k9) ?_
      refine own_st (T' := T8) (g' := (mkF m 233 #[.val (.long q1), .second, .val (.int p2), .val (.int p3), .val (.int p4), .val (.int p5), .val (.int p6), .val (.int (0 : Int32)), .val (.ref b1), .val (.int y9), .val (.ref b3)] [])) (fun t9 k9 => XS.icmpNo X8.here hx rfl (hb hby at_230) rfl (teq (own_B.eq hB8 hy Iff.rfl)).2 k9) ?_
      refine own_st (T' := T8) (g' := (mkF m 234 #[.val (.long q1), .second, .val (.int p2), .val (.int p3), .val (.int p4), .val (.int p5), .val (.int p6), .val (.int (0 : Int32)), .val (.ref b1), .val (.int y9), .val (.ref b3)] [(.int (1 : Int32))])) (fun t9 k9 => XS.iconst X8.here hx rfl (hb hby at_233) k9) ?_
      refine own_st (T' := T8) (g' := (mkF m 238 #[.val (.long q1), .second, .val (.int p2), .val (.int p3), .val (.int p4), .val (.int p5), .val (.int p6), .val (.int (0 : Int32)), .val (.ref b1), .val (.int y9), .val (.ref b3)] [(.int (1 : Int32))])) (fun t9 k9 => XS.goto X8.here hx rfl (pc0 := 234) (pc' := 238) rfl (hb hby at_234) (by decide) (by decide) k9) ?_
      refine own_ret (v := some (.int (1 : Int32))) hF X8 (own_some hret) hlk (fun fs hr => retN X8 hx (t := .boolean) hret (by simp) (hb hby at_238) hr) ?_ (by decide) (by decide)
      try rw [e8]
      exact ⟨rfl, N8⟩
    refine own_st (T' := T1) (g' := (mkF m 139 #[.val (.long q1), .second, .val (.int p2), .val (.int p3), .val (.int p4), .val (.int p5), .val (.int p6), .val (.int (0 : Int32)), .val (.ref b1), .unset, .unset] [(.int (0 : Int32))])) (fun t9 k9 => XS.iload X1.here hx rfl (hb hby at_137) rfl k9) ?_
    refine own_st (T' := T1) (g' := (mkF m 140 #[.val (.long q1), .second, .val (.int p2), .val (.int p3), .val (.int p4), .val (.int p5), .val (.int p6), .val (.int (0 : Int32)), .val (.ref b1), .unset, .unset] [(.int (5 : Int32)), (.int (0 : Int32))])) (fun t9 k9 => XS.iconst X1.here hx rfl (hb hby at_139) k9) ?_
    refine own_st (T' := T1) (g' := (mkF m 149 #[.val (.long q1), .second, .val (.int p2), .val (.int p3), .val (.int p4), .val (.int p5), .val (.int p6), .val (.int (0 : Int32)), .val (.ref b1), .unset, .unset] [])) (fun t9 k9 => XS.icmpYes X1.here hx rfl (pc0 := 140) (pc' := 149) rfl (hb hby at_140) rfl (feq (by decide)).2 (by decide) (by decide) k9) ?_
    refine own_st (T' := T1) (g' := (mkF m 151 #[.val (.long q1), .second, .val (.int p2), .val (.int p3), .val (.int p4), .val (.int p5), .val (.int p6), .val (.int (0 : Int32)), .val (.ref b1), .unset, .unset] [(.int (0 : Int32))])) (fun t9 k9 => XS.iload X1.here hx rfl (hb hby at_149) rfl k9) ?_
    refine own_st (T' := T1) (g' := (mkF m 152 #[.val (.long q1), .second, .val (.int p2), .val (.int p3), .val (.int p4), .val (.int p5), .val (.int p6), .val (.int (0 : Int32)), .val (.ref b1), .unset, .unset] [(.int (1 : Int32)), (.int (0 : Int32))])) (fun t9 k9 => XS.iconst X1.here hx rfl (hb hby at_151) k9) ?_
    refine own_st (T' := T1) (g' := (mkF m 162 #[.val (.long q1), .second, .val (.int p2), .val (.int p3), .val (.int p4), .val (.int p5), .val (.int p6), .val (.int (0 : Int32)), .val (.ref b1), .unset, .unset] [])) (fun t9 k9 => XS.icmpYes X1.here hx rfl (pc0 := 152) (pc' := 162) rfl (hb hby at_152) rfl (tlt (by decide)).1 (by decide) (by decide) k9) ?_
    refine own_st (T' := T1) (g' := (mkF m 164 #[.val (.long q1), .second, .val (.int p2), .val (.int p3), .val (.int p4), .val (.int p5), .val (.int p6), .val (.int (0 : Int32)), .val (.ref b1), .unset, .unset] [(.int (0 : Int32))])) (fun t9 k9 => XS.iload X1.here hx rfl (hb hby at_162) rfl k9) ?_
    refine own_st (T' := T1) (g' := (mkF m 165 #[.val (.long q1), .second, .val (.int p2), .val (.int p3), .val (.int p4), .val (.int p5), .val (.int p6), .val (.int (0 : Int32)), .val (.ref b1), .unset, .unset] [(.int (2 : Int32)), (.int (0 : Int32))])) (fun t9 k9 => XS.iconst X1.here hx rfl (hb hby at_164) k9) ?_
    refine own_st (T' := T1) (g' := (mkF m 176 #[.val (.long q1), .second, .val (.int p2), .val (.int p3), .val (.int p4), .val (.int p5), .val (.int p6), .val (.int (0 : Int32)), .val (.ref b1), .unset, .unset] [])) (fun t9 k9 => XS.icmpYes X1.here hx rfl (pc0 := 165) (pc' := 176) rfl (hb hby at_165) rfl (tlt (by decide)).1 (by decide) (by decide) k9) ?_
    refine own_st (T' := T1) (g' := (mkF m 178 #[.val (.long q1), .second, .val (.int p2), .val (.int p3), .val (.int p4), .val (.int p5), .val (.int p6), .val (.int (0 : Int32)), .val (.ref b1), .unset, .unset] [(.int (0 : Int32))])) (fun t9 k9 => XS.iload X1.here hx rfl (hb hby at_176) rfl k9) ?_
    refine own_st (T' := T1) (g' := (mkF m 179 #[.val (.long q1), .second, .val (.int p2), .val (.int p3), .val (.int p4), .val (.int p5), .val (.int p6), .val (.int (0 : Int32)), .val (.ref b1), .unset, .unset] [(.int (3 : Int32)), (.int (0 : Int32))])) (fun t9 k9 => XS.iconst X1.here hx rfl (hb hby at_178) k9) ?_
    refine own_st (T' := T1) (g' := (mkF m 190 #[.val (.long q1), .second, .val (.int p2), .val (.int p3), .val (.int p4), .val (.int p5), .val (.int p6), .val (.int (0 : Int32)), .val (.ref b1), .unset, .unset] [])) (fun t9 k9 => XS.icmpYes X1.here hx rfl (pc0 := 179) (pc' := 190) rfl (hb hby at_179) rfl (tlt (by decide)).1 (by decide) (by decide) k9) ?_
    refine own_st (T' := T1) (g' := (mkF m 192 #[.val (.long q1), .second, .val (.int p2), .val (.int p3), .val (.int p4), .val (.int p5), .val (.int p6), .val (.int (0 : Int32)), .val (.ref b1), .unset, .unset] [(.int (0 : Int32))])) (fun t9 k9 => XS.iload X1.here hx rfl (hb hby at_190) rfl k9) ?_
    refine own_st (T' := T1) (g' := (mkF m 193 #[.val (.long q1), .second, .val (.int p2), .val (.int p3), .val (.int p4), .val (.int p5), .val (.int p6), .val (.int (0 : Int32)), .val (.ref b1), .unset, .unset] [(.int (4 : Int32)), (.int (0 : Int32))])) (fun t9 k9 => XS.iconst X1.here hx rfl (hb hby at_192) k9) ?_
    refine own_st (T' := T1) (g' := (mkF m 204 #[.val (.long q1), .second, .val (.int p2), .val (.int p3), .val (.int p4), .val (.int p5), .val (.int p6), .val (.int (0 : Int32)), .val (.ref b1), .unset, .unset] [])) (fun t9 k9 => XS.icmpYes X1.here hx rfl (pc0 := 193) (pc' := 204) rfl (hb hby at_193) rfl (tlt (by decide)).1 (by decide) (by decide) k9) ?_
    refine own_st (T' := T1) (g' := (mkF m 205 #[.val (.long q1), .second, .val (.int p2), .val (.int p3), .val (.int p4), .val (.int p5), .val (.int p6), .val (.int (0 : Int32)), .val (.ref b1), .unset, .unset] [(.int (1 : Int32))])) (fun t9 k9 => XS.iconst X1.here hx rfl (hb hby at_204) k9) ?_
    refine own_st (T' := T1) (g' := (mkF m 209 #[.val (.long q1), .second, .val (.int p2), .val (.int p3), .val (.int p4), .val (.int p5), .val (.int p6), .val (.int (0 : Int32)), .val (.ref b1), .unset, .unset] [(.int (1 : Int32))])) (fun t9 k9 => XS.goto X1.here hx rfl (pc0 := 205) (pc' := 209) rfl (hb hby at_205) (by decide) (by decide) k9) ?_
    exact j209 _ _ _ X1 e1 N0 (Or.inl ⟨rfl, (fun i hi => absurd hi (Nat.not_lt_zero i))⟩)
  · refine own_st (T' := T0) (g' := (mkF m 22 #[.val (.long q1), .second, .val (.int p2), .val (.int p3), .val (.int p4), .val (.int p5), .val (.int p6), .val (.int kk), .unset, .unset, .unset] [])) (fun t9 k9 => XS.ifYes X0.here hx rfl (pc0 := 11) (pc' := 22) rfl (hb hby at_11) rfl ((if0 _ _).trans (feq hk0).2) (by decide) (by decide) k9) ?_
    refine own_st (T' := T0) (g' := (mkF m 24 #[.val (.long q1), .second, .val (.int p2), .val (.int p3), .val (.int p4), .val (.int p5), .val (.int p6), .val (.int kk), .unset, .unset, .unset] [(.int kk)])) (fun t9 k9 => XS.iload X0.here hx rfl (hb hby at_22) rfl k9) ?_
    refine own_st (T' := T0) (g' := (mkF m 25 #[.val (.long q1), .second, .val (.int p2), .val (.int p3), .val (.int p4), .val (.int p5), .val (.int p6), .val (.int kk), .unset, .unset, .unset] [(.int (1 : Int32)), (.int kk)])) (fun t9 k9 => XS.iconst X0.here hx rfl (hb hby at_24) k9) ?_
    by_cases hk1 : kk = (1 : Int32)
    · refine own_st (T' := T0) (g' := (mkF m 28 #[.val (.long q1), .second, .val (.int p2), .val (.int p3), .val (.int p4), .val (.int p5), .val (.int p6), .val (.int kk), .unset, .unset, .unset] [])) (fun t9 k9 => XS.icmpNo X0.here hx rfl (hb hby at_25) rfl (teq hk1).2 k9) ?_
      subst hk1
      show own_Go p e below F T0 (mkF m 28 #[.val (.long q1), .second, .val (.int p2), .val (.int p3), .val (.int p4), .val (.int p5), .val (.int p6), .val (.int (1 : Int32)), .unset, .unset, .unset] [])
      refine own_st (T' := T0) (g' := (mkF m 29 #[.val (.long q1), .second, .val (.int p2), .val (.int p3), .val (.int p4), .val (.int p5), .val (.int p6), .val (.int (1 : Int32)), .unset, .unset, .unset] [(.int (1 : Int32))])) (fun t9 k9 => XS.iconst X0.here hx rfl (hb hby at_28) k9) ?_
      obtain ⟨T9, h9, k9, X9, e9, E9, A9, st9⟩ := newP X0 hx hZ (hw _ (List.mem_of_getElem? (i := 1) rfl)) e0 (g := (mkF m 29 #[.val (.long q1), .second, .val (.int p2), .val (.int p3), .val (.int p4), .val (.int p5), .val (.int p6), .val (.int (1 : Int32)), .unset, .unset, .unset] [(.int (1 : Int32))])) rfl (hb hby at_29) rfl (by decide) (cap := 1) (by decide) (by decide) (by decide) (by decide)
      obtain ⟨b9, gb9⟩ : ∃ z, z = h0.size := ⟨_, rfl⟩
      have g_b9 : n0 ≤ b9 := gb9 ▸ Z0
      have sz_b9 : h0.size ≤ b9 := gb9 ▸ K0.1
      rw [← gb9] at A9 st9
      have K9 := K0.ext E9
      have Z9 : n0 ≤ h9.size := Nat.le_trans Z0 E9.1
      have V_b9 : Arv Z h9 b9 k9 .byte (1 : Int32) [(.int (0 : Int32))] (.int (0 : Int32)) := (Arv.new A9 (by decide)).pad (pad_rep [] (.int (0 : Int32)) 1)
      refine own_st (T' := T9) (g' := (mkF m 31 #[.val (.long q1), .second, .val (.int p2), .val (.int p3), .val (.int p4), .val (.int p5), .val (.int p6), .val (.int (1 : Int32)), .unset, .unset, .unset] [(.ref b9)])) (fun t9 k9 => st9 t9 k9) ?_
      refine own_st (T' := T9) (g' := (mkF m 32 #[.val (.long q1), .second, .val (.int p2), .val (.int p3), .val (.int p4), .val (.int p5), .val (.int p6), .val (.int (1 : Int32)), .unset, .unset, .unset] [(.ref b9), (.ref b9)])) (fun t9 k9 => XS.dup X9.here hx rfl (hb hby at_31) rfl rfl k9) ?_
      refine own_st (T' := T9) (g' := (mkF m 33 #[.val (.long q1), .second, .val (.int p2), .val (.int p3), .val (.int p4), .val (.int p5), .val (.int p6), .val (.int (1 : Int32)), .unset, .unset, .unset] [(.int (0 : Int32)), (.ref b9), (.ref b9)])) (fun t9 k9 => XS.iconst X9.here hx rfl (hb hby at_32) k9) ?_
      refine own_st (T' := T9) (g' := (mkF m 34 #[.val (.long q1), .second, .val (.int p2), .val (.int p3), .val (.int p4), .val (.int p5), .val (.int p6), .val (.int (1 : Int32)), .unset, .unset, .unset] [(.int p3), (.int (0 : Int32)), (.ref b9), (.ref b9)])) (fun t9 k9 => XS.iloadN X9.here hx rfl (hb hby at_33) rfl k9) ?_
      refine own_st (T' := T9) (g' := (mkF m 35 #[.val (.long q1), .second, .val (.int p2), .val (.int p3), .val (.int p4), .val (.int p5), .val (.int p6), .val (.int (1 : Int32)), .unset, .unset, .unset] [(.int (p3.toInt8.toInt32)), (.int (0 : Int32)), (.ref b9), (.ref b9)])) (fun t9 k9 => XS.i2b X9.here hx rfl (hb hby at_34) rfl k9) ?_
      obtain ⟨clu10, Aru10, qu10, Su10, Nu10, Hu10, Gu10⟩ := (id V_b9)
      obtain ⟨T11, h11, X11, e11, W11, st11⟩ := stB X9 hx hZ e9 Aru10 (j := (0 : Int32)) (inb_of Su10 ⟨by decide, by decide⟩) (g := (mkF m 35 #[.val (.long q1), .second, .val (.int p2), .val (.int p3), .val (.int p4), .val (.int p5), .val (.int p6), .val (.int (1 : Int32)), .unset, .unset, .unset] [(.int (p3.toInt8.toInt32)), (.int (0 : Int32)), (.ref b9), (.ref b9)])) rfl rfl (hb hby at_35)
      have V11 := Arv.set Aru10 qu10 Su10 Nu10 Hu10 Gu10 (fits_nar_byte _) W11 0 rfl (Nat.le_of_ble_eq_true rfl)
      have K11 := K9.wr W11 (Or.inr sz_b9)
      have N11 := Fr.snoc X11 N0 g_b9
      have Z11 : n0 ≤ h11.size := by rw [W11.size]; exact Z9
      refine own_st (T' := T11) (g' := (mkF m 36 #[.val (.long q1), .second, .val (.int p2), .val (.int p3), .val (.int p4), .val (.int p5), .val (.int p6), .val (.int (1 : Int32)), .unset, .unset, .unset] [(.ref b9)])) (fun t9 k9 => st11 t9 k9) ?_
      refine own_st (T' := T11) (g' := (mkF m 38 #[.val (.long q1), .second, .val (.int p2), .val (.int p3), .val (.int p4), .val (.int p5), .val (.int p6), .val (.int (1 : Int32)), .val (.ref b9), .unset, .unset] [])) (fun t9 k9 => XS.astore X11.here hx rfl (hb hby at_36) rfl rfl (l' := #[.val (.long q1), .second, .val (.int p2), .val (.int p3), .val (.int p4), .val (.int p5), .val (.int p6), .val (.int (1 : Int32)), .val (.ref b9), .unset, .unset]) rfl k9) ?_
      refine own_st (T' := T11) (g' := (mkF m 137 #[.val (.long q1), .second, .val (.int p2), .val (.int p3), .val (.int p4), .val (.int p5), .val (.int p6), .val (.int (1 : Int32)), .val (.ref b9), .unset, .unset] [])) (fun t9 k9 => XS.goto X11.here hx rfl (pc0 := 38) (pc' := 137) rfl (hb hby at_38) (by decide) (by decide) k9) ?_
      have j209 : ∀ (T12 : State) (L12 : List Loc) (y9 : Int32), Stand p l e room_1 s m #[(.long q1), (.int p2), (.int p3), (.int p4), (.int p5), (.int p6)] below meth c T12 L12 (0 + 1) (0 + 1) → T12.heap = h11 → Fr n0 L12 → (own_B y9 (∀ i, i < 1 → own_w (own_xs p3 p4 p5 p6 i))) → own_Go p e below F T12 (mkF m 209 #[.val (.long q1), .second, .val (.int p2), .val (.int p3), .val (.int p4), .val (.int p5), .val (.int p6), .val (.int (1 : Int32)), .val (.ref b9), .unset, .unset] [(.int y9)]) := by
        intro T12 L12 y9 X12 e12 N12 hy
        refine own_st (T' := T12) (g' := (mkF m 211 #[.val (.long q1), .second, .val (.int p2), .val (.int p3), .val (.int p4), .val (.int p5), .val (.int p6), .val (.int (1 : Int32)), .val (.ref b9), .val (.int y9), .unset] [])) (fun t9 k9 => XS.istore X12.here hx rfl (hb hby at_209) rfl (l' := #[.val (.long q1), .second, .val (.int p2), .val (.int p3), .val (.int p4), .val (.int p5), .val (.int p6), .val (.int (1 : Int32)), .val (.ref b9), .val (.int y9), .unset]) rfl k9) ?_
        obtain ⟨T13, h13, X13, e13, E13, A13, D13, -, st13⟩ := newO X12 hx hZ hown (hw _ (List.mem_of_getElem? (i := 6) rfl)) (hw _ (List.mem_of_getElem? (i := 7) rfl)) (hw _ (List.mem_of_getElem? (i := 8) rfl)) e12 (g := (mkF m 211 #[.val (.long q1), .second, .val (.int p2), .val (.int p3), .val (.int p4), .val (.int p5), .val (.int p6), .val (.int (1 : Int32)), .val (.ref b9), .val (.int y9), .unset] [])) rfl (hb hby at_211) (by decide) (by decide)
        obtain ⟨b13, gb13⟩ : ∃ z, z = h11.size := ⟨_, rfl⟩
        have ne_b9_b13 : b9 ≠ b13 := own_ne gb13 V11.lt
        have g_b13 : n0 ≤ b13 := gb13 ▸ Z11
        have sz_b13 : h0.size ≤ b13 := gb13 ▸ K11.1
        rw [← gb13] at A13 D13 st13
        have V11_14 := V11.ext E13
        have K13 := K11.ext E13
        have Z13 : n0 ≤ h13.size := Nat.le_trans Z11 E13.1
        have F_number_b13 : Fld Z h13 b13 "com/example/stockbook/stockbook/server/JsonLines$Line" "number" "J" (.long (0 : Int64)) := D13 (Or.inr (hw _ (List.mem_of_getElem? (i := 21) rfl))) (ty := .long) (by decide)
        have F_bytes_b13 : Fld Z h13 b13 "com/example/stockbook/stockbook/server/JsonLines$Line" "bytes" "[B" .null := D13 (Or.inr (hw _ (List.mem_of_getElem? (i := 23) rfl))) (ty := (.array .byte)) (by decide)
        refine own_st (T' := T13) (g' := (mkF m 214 #[.val (.long q1), .second, .val (.int p2), .val (.int p3), .val (.int p4), .val (.int p5), .val (.int p6), .val (.int (1 : Int32)), .val (.ref b9), .val (.int y9), .unset] [(.ref b13)])) (fun t9 k9 => st13 t9 k9) ?_
        refine own_st (T' := T13) (g' := (mkF m 215 #[.val (.long q1), .second, .val (.int p2), .val (.int p3), .val (.int p4), .val (.int p5), .val (.int p6), .val (.int (1 : Int32)), .val (.ref b9), .val (.int y9), .unset] [(.ref b13), (.ref b13)])) (fun t9 k9 => XS.dup X13.here hx rfl (hb hby at_214) rfl rfl k9) ?_
        refine own_st (T' := T13) (g' := (mkF m 216 #[.val (.long q1), .second, .val (.int p2), .val (.int p3), .val (.int p4), .val (.int p5), .val (.int p6), .val (.int (1 : Int32)), .val (.ref b9), .val (.int y9), .unset] [(.long q1), (.ref b13), (.ref b13)])) (fun t9 k9 => XS.lloadN X13.here hx rfl (hb hby at_215) rfl k9) ?_
        refine own_st (T' := T13) (g' := (mkF m 218 #[.val (.long q1), .second, .val (.int p2), .val (.int p3), .val (.int p4), .val (.int p5), .val (.int p6), .val (.int (1 : Int32)), .val (.ref b9), .val (.int y9), .unset] [(.ref b9), (.long q1), (.ref b13), (.ref b13)])) (fun t9 k9 => XS.aload X13.here hx rfl (hb hby at_216) rfl rfl k9) ?_
        obtain ⟨_, _, ⟨T15, L15, k15, n15⟩, -, X15, ⟨Lc15, hQ15, l15, y15, z15⟩, st15⟩ := X13.specialBack hx (y := (⟨"com/example/stockbook/stockbook/server/JsonLines$Line", "<init>", "(J[B)V"⟩ : MethodName)) rfl hown (mvT hZ (hw _ (List.mem_of_getElem? (i := 9) rfl))) (mvT hZ (hw _ (List.mem_of_getElem? (i := 10) rfl))) (mvT hZ (hw _ (List.mem_of_getElem? (i := 11) rfl))) (by decide) (own_back (W := 1) (rmIa l Z a0 hw b13 q1 b9 (.long 0) .null h13 n0 Z13 A13 F_number_b13 F_bytes_b13 g_b13) hZ (hw _ (List.mem_of_getElem? (i := 11) rfl)) (hw _ (List.mem_of_getElem? (i := 8) rfl)) (by decide) (by decide)) (g := (mkF m 218 #[.val (.long q1), .second, .val (.int p2), .val (.int p3), .val (.int p4), .val (.int p5), .val (.int p6), .val (.int (1 : Int32)), .val (.ref b9), .val (.int y9), .unset] [(.ref b9), (.long q1), (.ref b13), (.ref b13)])) rfl (by rw [hml]; rfl) (Steps.refl _) (a := b13) (argsL := [(.long q1), (.ref b9)]) (rest := [(.ref b13)]) (lenOf pd_1 rfl) rfl (by show 2 * 0 + _ ≤ _; exact Nat.le_of_eq rfl) (hb hby at_218) (fun _ _ => ⟨rfl, e13, (Nat.le_of_ble_eq_true rfl), (Nat.le_of_ble_eq_true rfl)⟩)
        dsimp only [Pt.U, Pt.locs, Pt.cells, Pt.slots] at X15 l15 y15 z15 st15 hQ15
        subst l15 y15 z15
        obtain ⟨rfl, Nq15, Kq15, Eq15, Fb15⟩ := hQ15
        have N15 := Fr.app N12 Nq15
        obtain ⟨h15, e15⟩ : ∃ z, T15.heap = z := ⟨_, rfl⟩
        rw [e15] at Kq15 Eq15 Fb15
        have V11_16 := V11_14.keep Kq15 (ninS ne_b9_b13 nin0)
        have A13_17 := A13.keep Kq15
        have K15 := K13.trans Kq15 (allS (Or.inr sz_b13) all0)
        have Z15 : n0 ≤ h15.size := Nat.le_trans Z13 Kq15.1
        refine own_st (T' := T15) (g' := (mkF m 221 #[.val (.long q1), .second, .val (.int p2), .val (.int p3), .val (.int p4), .val (.int p5), .val (.int p6), .val (.int (1 : Int32)), .val (.ref b9), .val (.int y9), .unset] [(.ref b13)])) (fun t9 k9 => st15.trans k9) ?_
        refine own_st (T' := T15) (g' := (mkF m 223 #[.val (.long q1), .second, .val (.int p2), .val (.int p3), .val (.int p4), .val (.int p5), .val (.int p6), .val (.int (1 : Int32)), .val (.ref b9), .val (.int y9), .val (.ref b13)] [])) (fun t9 k9 => XS.astore X15.here hx rfl (hb hby at_221) rfl rfl (l' := #[.val (.long q1), .second, .val (.int p2), .val (.int p3), .val (.int p4), .val (.int p5), .val (.int p6), .val (.int (1 : Int32)), .val (.ref b9), .val (.int y9), .val (.ref b13)]) rfl k9) ?_
        refine own_st (T' := T15) (g' := (mkF m 225 #[.val (.long q1), .second, .val (.int p2), .val (.int p3), .val (.int p4), .val (.int p5), .val (.int p6), .val (.int (1 : Int32)), .val (.ref b9), .val (.int y9), .val (.ref b13)] [(.ref b13)])) (fun t9 k9 => XS.aload X15.here hx rfl (hb hby at_223) rfl rfl k9) ?_
        obtain ⟨cq18, kq18, qa18, qb18, qc18⟩ := isOf hZ e15 A13_17
        obtain ⟨_, _, ⟨T18, L18, k18, n18⟩, -, X18, ⟨Lc18, hQ18, l18, y18, z18⟩, st18⟩ := X15.virtualBack hx (y := (⟨"com/example/stockbook/stockbook/server/JsonLines$Line", "isBlank", "()Z"⟩ : MethodName)) (z := (⟨"com/example/stockbook/stockbook/server/JsonLines$Line", "isBlank", "()Z"⟩ : MethodName)) hown (mvT hZ (hw _ (List.mem_of_getElem? (i := 24) rfl))) (mvT hZ (hw _ (List.mem_of_getElem? (i := 25) rfl))) (notFace_of_selects (args := #[]) (mvT hZ (hw _ (List.mem_of_getElem? (i := 27) rfl)))) (mvT hZ (hw _ (List.mem_of_getElem? (i := 27) rfl))) (mvT hZ (hw _ (List.mem_of_getElem? (i := 26) rfl))) (by decide) (own_back (W := 0) (rmBa l Z a0 hw b13 b9 k9 (1 : Int32) _ (own_xs p3 p4 p5 p6) 1 h15 n0 Z15 Fb15 (by decide) (by decide) V11_16 (fun i hi => by
              match i, hi with
              | 0, _ => exact congrArg Value.int (own_bb _))) hZ (hw _ (List.mem_of_getElem? (i := 28) rfl)) (hw _ (List.mem_of_getElem? (i := 8) rfl)) (by decide) (by decide)) qa18 qc18 (g := (mkF m 225 #[.val (.long q1), .second, .val (.int p2), .val (.int p3), .val (.int p4), .val (.int p5), .val (.int p6), .val (.int (1 : Int32)), .val (.ref b9), .val (.int y9), .val (.ref b13)] [(.ref b13)])) rfl (by rw [hml]; rfl) (Steps.refl _) (argsL := []) (rest := []) (lenOf pd_3 rfl) rfl (by show 2 * 0 + _ ≤ _; exact Nat.le_of_eq rfl) (hb hby at_225) (fun _ _ => ⟨rfl, e15, (Nat.le_of_ble_eq_true rfl), (Nat.le_of_ble_eq_true rfl)⟩)
        dsimp only [Pt.U, Pt.locs, Pt.cells, Pt.slots] at X18 l18 y18 z18 st18 hQ18
        subst l18 y18 z18
        obtain ⟨z18, rfl, Nq18, he18, hB18⟩ := hQ18
        have N18 := Fr.app N15 Nq18
        have e18 : T18.heap = h15 := he18
        refine own_st (T' := T18) (g' := (mkF m 228 #[.val (.long q1), .second, .val (.int p2), .val (.int p3), .val (.int p4), .val (.int p5), .val (.int p6), .val (.int (1 : Int32)), .val (.ref b9), .val (.int y9), .val (.ref b13)] [(.int z18)])) (fun t9 k9 => st18.trans k9) ?_
        refine own_st (T' := T18) (g' := (mkF m 230 #[.val (.long q1), .second, .val (.int p2), .val (.int p3), .val (.int p4), .val (.int p5), .val (.int p6), .val (.int (1 : Int32)), .val (.ref b9), .val (.int y9), .val (.ref b13)] [(.int y9), (.int z18)])) (fun t9 k9 => XS.iload X18.here hx rfl (hb hby at_228) rfl k9) ?_
        refine own_st (T' := T18) (g' := (mkF m 233 #[.val (.long q1), .second, .val (.int p2), .val (.int p3), .val (.int p4), .val (.int p5), .val (.int p6), .val (.int (1 : Int32)), .val (.ref b9), .val (.int y9), .val (.ref b13)] [])) (fun t9 k9 => XS.icmpNo X18.here hx rfl (hb hby at_230) rfl (teq (own_B.eq hB18 hy Iff.rfl)).2 k9) ?_
        refine own_st (T' := T18) (g' := (mkF m 234 #[.val (.long q1), .second, .val (.int p2), .val (.int p3), .val (.int p4), .val (.int p5), .val (.int p6), .val (.int (1 : Int32)), .val (.ref b9), .val (.int y9), .val (.ref b13)] [(.int (1 : Int32))])) (fun t9 k9 => XS.iconst X18.here hx rfl (hb hby at_233) k9) ?_
        refine own_st (T' := T18) (g' := (mkF m 238 #[.val (.long q1), .second, .val (.int p2), .val (.int p3), .val (.int p4), .val (.int p5), .val (.int p6), .val (.int (1 : Int32)), .val (.ref b9), .val (.int y9), .val (.ref b13)] [(.int (1 : Int32))])) (fun t9 k9 => XS.goto X18.here hx rfl (pc0 := 234) (pc' := 238) rfl (hb hby at_234) (by decide) (by decide) k9) ?_
        refine own_ret (v := some (.int (1 : Int32))) hF X18 (own_some hret) hlk (fun fs hr => retN X18 hx (t := .boolean) hret (by simp) (hb hby at_238) hr) ?_ (by decide) (by decide)
        try rw [e18]
        exact ⟨rfl, N18⟩
      refine own_st (T' := T11) (g' := (mkF m 139 #[.val (.long q1), .second, .val (.int p2), .val (.int p3), .val (.int p4), .val (.int p5), .val (.int p6), .val (.int (1 : Int32)), .val (.ref b9), .unset, .unset] [(.int (1 : Int32))])) (fun t9 k9 => XS.iload X11.here hx rfl (hb hby at_137) rfl k9) ?_
      refine own_st (T' := T11) (g' := (mkF m 140 #[.val (.long q1), .second, .val (.int p2), .val (.int p3), .val (.int p4), .val (.int p5), .val (.int p6), .val (.int (1 : Int32)), .val (.ref b9), .unset, .unset] [(.int (5 : Int32)), (.int (1 : Int32))])) (fun t9 k9 => XS.iconst X11.here hx rfl (hb hby at_139) k9) ?_
      refine own_st (T' := T11) (g' := (mkF m 149 #[.val (.long q1), .second, .val (.int p2), .val (.int p3), .val (.int p4), .val (.int p5), .val (.int p6), .val (.int (1 : Int32)), .val (.ref b9), .unset, .unset] [])) (fun t9 k9 => XS.icmpYes X11.here hx rfl (pc0 := 140) (pc' := 149) rfl (hb hby at_140) rfl (feq (by decide)).2 (by decide) (by decide) k9) ?_
      refine own_st (T' := T11) (g' := (mkF m 151 #[.val (.long q1), .second, .val (.int p2), .val (.int p3), .val (.int p4), .val (.int p5), .val (.int p6), .val (.int (1 : Int32)), .val (.ref b9), .unset, .unset] [(.int (1 : Int32))])) (fun t9 k9 => XS.iload X11.here hx rfl (hb hby at_149) rfl k9) ?_
      refine own_st (T' := T11) (g' := (mkF m 152 #[.val (.long q1), .second, .val (.int p2), .val (.int p3), .val (.int p4), .val (.int p5), .val (.int p6), .val (.int (1 : Int32)), .val (.ref b9), .unset, .unset] [(.int (1 : Int32)), (.int (1 : Int32))])) (fun t9 k9 => XS.iconst X11.here hx rfl (hb hby at_151) k9) ?_
      refine own_st (T' := T11) (g' := (mkF m 155 #[.val (.long q1), .second, .val (.int p2), .val (.int p3), .val (.int p4), .val (.int p5), .val (.int p6), .val (.int (1 : Int32)), .val (.ref b9), .unset, .unset] [])) (fun t9 k9 => XS.icmpNo X11.here hx rfl (hb hby at_152) rfl (flt (by decide)).1 k9) ?_
      refine own_st (T' := T11) (g' := (mkF m 156 #[.val (.long q1), .second, .val (.int p2), .val (.int p3), .val (.int p4), .val (.int p5), .val (.int p6), .val (.int (1 : Int32)), .val (.ref b9), .unset, .unset] [(.int p3)])) (fun t9 k9 => XS.iloadN X11.here hx rfl (hb hby at_155) rfl k9) ?_
      obtain ⟨_, _, ⟨T19, L19, k19, n19⟩, -, X19, ⟨Lc19, hQ19, l19, y19, z19⟩, st19⟩ := Jvm.LawKit.callS X11 hx (y := (⟨"com/example/stockbook/stockbook/server/LineIsBlankPinLaw", "ws", "(I)Z"⟩ : MethodName)) hown (mvT hZ (hw _ (List.mem_of_getElem? (i := 2) rfl))) (mvT hZ (hw _ (List.mem_of_getElem? (i := 3) rfl))) (mvT hZ (hw _ (List.mem_of_getElem? (i := 4) rfl))) (mvT hZ (hw _ (List.mem_of_getElem? (i := 5) rfl))) (by decide) (own_back (W := 0) (rm1 l Z a0 hw p3 h11 n0 Z11) hZ (hw _ (List.mem_of_getElem? (i := 5) rfl)) (hw _ (List.mem_of_getElem? (i := 4) rfl)) (by decide) (by decide)) (g := (mkF m 156 #[.val (.long q1), .second, .val (.int p2), .val (.int p3), .val (.int p4), .val (.int p5), .val (.int p6), .val (.int (1 : Int32)), .val (.ref b9), .unset, .unset] [(.int p3)])) rfl (by rw [hml]; rfl) (argsL := [(.int p3)]) (rest := []) (lenOf pd_0 rfl) rfl (by show 2 * 0 + _ ≤ _; exact Nat.le_of_eq rfl) (hb hby at_156) (fun _ _ => ⟨rfl, e11, (Nat.le_of_ble_eq_true rfl), (Nat.le_of_ble_eq_true rfl)⟩)
      dsimp only [Pt.U, Pt.locs, Pt.cells, Pt.slots] at X19 l19 y19 z19 st19 hQ19
      subst l19 y19 z19
      obtain ⟨z19, rfl, Nq19, he19, hB19⟩ := hQ19
      have N19 := Fr.app N11 Nq19
      have e19 : T19.heap = h11 := he19
      refine own_st (T' := T19) (g' := (mkF m 159 #[.val (.long q1), .second, .val (.int p2), .val (.int p3), .val (.int p4), .val (.int p5), .val (.int p6), .val (.int (1 : Int32)), .val (.ref b9), .unset, .unset] [(.int z19)])) (fun t9 k9 => st19 t9 k9) ?_
      by_cases hz0 : z19 = (0 : Int32)
      · refine own_st (T' := T19) (g' := (mkF m 208 #[.val (.long q1), .second, .val (.int p2), .val (.int p3), .val (.int p4), .val (.int p5), .val (.int p6), .val (.int (1 : Int32)), .val (.ref b9), .unset, .unset] [])) (fun t9 k9 => XS.ifYes X19.here hx rfl (pc0 := 159) (pc' := 208) rfl (hb hby at_159) rfl ((if0 _ _).trans (teq hz0).1) (by decide) (by decide) k9) ?_
        refine own_st (T' := T19) (g' := (mkF m 209 #[.val (.long q1), .second, .val (.int p2), .val (.int p3), .val (.int p4), .val (.int p5), .val (.int p6), .val (.int (1 : Int32)), .val (.ref b9), .unset, .unset] [(.int (0 : Int32))])) (fun t9 k9 => XS.iconst X19.here hx rfl (hb hby at_208) k9) ?_
        exact j209 _ _ _ X19 e19 N19 (Or.inr ⟨rfl, fun q => (hB19.no hz0) (q 0 (by decide))⟩)
      · refine own_st (T' := T19) (g' := (mkF m 162 #[.val (.long q1), .second, .val (.int p2), .val (.int p3), .val (.int p4), .val (.int p5), .val (.int p6), .val (.int (1 : Int32)), .val (.ref b9), .unset, .unset] [])) (fun t9 k9 => XS.ifNo X19.here hx rfl (hb hby at_159) rfl ((if0 _ _).trans (feq hz0).1) k9) ?_
        refine own_st (T' := T19) (g' := (mkF m 164 #[.val (.long q1), .second, .val (.int p2), .val (.int p3), .val (.int p4), .val (.int p5), .val (.int p6), .val (.int (1 : Int32)), .val (.ref b9), .unset, .unset] [(.int (1 : Int32))])) (fun t9 k9 => XS.iload X19.here hx rfl (hb hby at_162) rfl k9) ?_
        refine own_st (T' := T19) (g' := (mkF m 165 #[.val (.long q1), .second, .val (.int p2), .val (.int p3), .val (.int p4), .val (.int p5), .val (.int p6), .val (.int (1 : Int32)), .val (.ref b9), .unset, .unset] [(.int (2 : Int32)), (.int (1 : Int32))])) (fun t9 k9 => XS.iconst X19.here hx rfl (hb hby at_164) k9) ?_
        refine own_st (T' := T19) (g' := (mkF m 176 #[.val (.long q1), .second, .val (.int p2), .val (.int p3), .val (.int p4), .val (.int p5), .val (.int p6), .val (.int (1 : Int32)), .val (.ref b9), .unset, .unset] [])) (fun t9 k9 => XS.icmpYes X19.here hx rfl (pc0 := 165) (pc' := 176) rfl (hb hby at_165) rfl (tlt (by decide)).1 (by decide) (by decide) k9) ?_
        refine own_st (T' := T19) (g' := (mkF m 178 #[.val (.long q1), .second, .val (.int p2), .val (.int p3), .val (.int p4), .val (.int p5), .val (.int p6), .val (.int (1 : Int32)), .val (.ref b9), .unset, .unset] [(.int (1 : Int32))])) (fun t9 k9 => XS.iload X19.here hx rfl (hb hby at_176) rfl k9) ?_
        refine own_st (T' := T19) (g' := (mkF m 179 #[.val (.long q1), .second, .val (.int p2), .val (.int p3), .val (.int p4), .val (.int p5), .val (.int p6), .val (.int (1 : Int32)), .val (.ref b9), .unset, .unset] [(.int (3 : Int32)), (.int (1 : Int32))])) (fun t9 k9 => XS.iconst X19.here hx rfl (hb hby at_178) k9) ?_
        refine own_st (T' := T19) (g' := (mkF m 190 #[.val (.long q1), .second, .val (.int p2), .val (.int p3), .val (.int p4), .val (.int p5), .val (.int p6), .val (.int (1 : Int32)), .val (.ref b9), .unset, .unset] [])) (fun t9 k9 => XS.icmpYes X19.here hx rfl (pc0 := 179) (pc' := 190) rfl (hb hby at_179) rfl (tlt (by decide)).1 (by decide) (by decide) k9) ?_
        refine own_st (T' := T19) (g' := (mkF m 192 #[.val (.long q1), .second, .val (.int p2), .val (.int p3), .val (.int p4), .val (.int p5), .val (.int p6), .val (.int (1 : Int32)), .val (.ref b9), .unset, .unset] [(.int (1 : Int32))])) (fun t9 k9 => XS.iload X19.here hx rfl (hb hby at_190) rfl k9) ?_
        refine own_st (T' := T19) (g' := (mkF m 193 #[.val (.long q1), .second, .val (.int p2), .val (.int p3), .val (.int p4), .val (.int p5), .val (.int p6), .val (.int (1 : Int32)), .val (.ref b9), .unset, .unset] [(.int (4 : Int32)), (.int (1 : Int32))])) (fun t9 k9 => XS.iconst X19.here hx rfl (hb hby at_192) k9) ?_
        refine own_st (T' := T19) (g' := (mkF m 204 #[.val (.long q1), .second, .val (.int p2), .val (.int p3), .val (.int p4), .val (.int p5), .val (.int p6), .val (.int (1 : Int32)), .val (.ref b9), .unset, .unset] [])) (fun t9 k9 => XS.icmpYes X19.here hx rfl (pc0 := 193) (pc' := 204) rfl (hb hby at_193) rfl (tlt (by decide)).1 (by decide) (by decide) k9) ?_
        refine own_st (T' := T19) (g' := (mkF m 205 #[.val (.long q1), .second, .val (.int p2), .val (.int p3), .val (.int p4), .val (.int p5), .val (.int p6), .val (.int (1 : Int32)), .val (.ref b9), .unset, .unset] [(.int (1 : Int32))])) (fun t9 k9 => XS.iconst X19.here hx rfl (hb hby at_204) k9) ?_
        refine own_st (T' := T19) (g' := (mkF m 209 #[.val (.long q1), .second, .val (.int p2), .val (.int p3), .val (.int p4), .val (.int p5), .val (.int p6), .val (.int (1 : Int32)), .val (.ref b9), .unset, .unset] [(.int (1 : Int32))])) (fun t9 k9 => XS.goto X19.here hx rfl (pc0 := 205) (pc' := 209) rfl (hb hby at_205) (by decide) (by decide) k9) ?_
        exact j209 _ _ _ X19 e19 N19 (Or.inl ⟨rfl, (fun i hi => by
              match i, hi with
              | 0, _ => exact hB19.yes hz0)⟩)
    · refine own_st (T' := T0) (g' := (mkF m 41 #[.val (.long q1), .second, .val (.int p2), .val (.int p3), .val (.int p4), .val (.int p5), .val (.int p6), .val (.int kk), .unset, .unset, .unset] [])) (fun t9 k9 => XS.icmpYes X0.here hx rfl (pc0 := 25) (pc' := 41) rfl (hb hby at_25) rfl (feq hk1).2 (by decide) (by decide) k9) ?_
      refine own_st (T' := T0) (g' := (mkF m 43 #[.val (.long q1), .second, .val (.int p2), .val (.int p3), .val (.int p4), .val (.int p5), .val (.int p6), .val (.int kk), .unset, .unset, .unset] [(.int kk)])) (fun t9 k9 => XS.iload X0.here hx rfl (hb hby at_41) rfl k9) ?_
      refine own_st (T' := T0) (g' := (mkF m 44 #[.val (.long q1), .second, .val (.int p2), .val (.int p3), .val (.int p4), .val (.int p5), .val (.int p6), .val (.int kk), .unset, .unset, .unset] [(.int (2 : Int32)), (.int kk)])) (fun t9 k9 => XS.iconst X0.here hx rfl (hb hby at_43) k9) ?_
      by_cases hk2 : kk = (2 : Int32)
      · refine own_st (T' := T0) (g' := (mkF m 47 #[.val (.long q1), .second, .val (.int p2), .val (.int p3), .val (.int p4), .val (.int p5), .val (.int p6), .val (.int kk), .unset, .unset, .unset] [])) (fun t9 k9 => XS.icmpNo X0.here hx rfl (hb hby at_44) rfl (teq hk2).2 k9) ?_
        subst hk2
        show own_Go p e below F T0 (mkF m 47 #[.val (.long q1), .second, .val (.int p2), .val (.int p3), .val (.int p4), .val (.int p5), .val (.int p6), .val (.int (2 : Int32)), .unset, .unset, .unset] [])
        refine own_st (T' := T0) (g' := (mkF m 48 #[.val (.long q1), .second, .val (.int p2), .val (.int p3), .val (.int p4), .val (.int p5), .val (.int p6), .val (.int (2 : Int32)), .unset, .unset, .unset] [(.int (2 : Int32))])) (fun t9 k9 => XS.iconst X0.here hx rfl (hb hby at_47) k9) ?_
        obtain ⟨T20, h20, k20, X20, e20, E20, A20, st20⟩ := newP X0 hx hZ (hw _ (List.mem_of_getElem? (i := 1) rfl)) e0 (g := (mkF m 48 #[.val (.long q1), .second, .val (.int p2), .val (.int p3), .val (.int p4), .val (.int p5), .val (.int p6), .val (.int (2 : Int32)), .unset, .unset, .unset] [(.int (2 : Int32))])) rfl (hb hby at_48) rfl (by decide) (cap := 2) (by decide) (by decide) (by decide) (by decide)
        obtain ⟨b20, gb20⟩ : ∃ z, z = h0.size := ⟨_, rfl⟩
        have g_b20 : n0 ≤ b20 := gb20 ▸ Z0
        have sz_b20 : h0.size ≤ b20 := gb20 ▸ K0.1
        rw [← gb20] at A20 st20
        have K20 := K0.ext E20
        have Z20 : n0 ≤ h20.size := Nat.le_trans Z0 E20.1
        have V_b20 : Arv Z h20 b20 k20 .byte (2 : Int32) [(.int (0 : Int32)), (.int (0 : Int32))] (.int (0 : Int32)) := (Arv.new A20 (by decide)).pad (pad_rep [] (.int (0 : Int32)) 2)
        refine own_st (T' := T20) (g' := (mkF m 50 #[.val (.long q1), .second, .val (.int p2), .val (.int p3), .val (.int p4), .val (.int p5), .val (.int p6), .val (.int (2 : Int32)), .unset, .unset, .unset] [(.ref b20)])) (fun t9 k9 => st20 t9 k9) ?_
        refine own_st (T' := T20) (g' := (mkF m 51 #[.val (.long q1), .second, .val (.int p2), .val (.int p3), .val (.int p4), .val (.int p5), .val (.int p6), .val (.int (2 : Int32)), .unset, .unset, .unset] [(.ref b20), (.ref b20)])) (fun t9 k9 => XS.dup X20.here hx rfl (hb hby at_50) rfl rfl k9) ?_
        refine own_st (T' := T20) (g' := (mkF m 52 #[.val (.long q1), .second, .val (.int p2), .val (.int p3), .val (.int p4), .val (.int p5), .val (.int p6), .val (.int (2 : Int32)), .unset, .unset, .unset] [(.int (0 : Int32)), (.ref b20), (.ref b20)])) (fun t9 k9 => XS.iconst X20.here hx rfl (hb hby at_51) k9) ?_
        refine own_st (T' := T20) (g' := (mkF m 53 #[.val (.long q1), .second, .val (.int p2), .val (.int p3), .val (.int p4), .val (.int p5), .val (.int p6), .val (.int (2 : Int32)), .unset, .unset, .unset] [(.int p3), (.int (0 : Int32)), (.ref b20), (.ref b20)])) (fun t9 k9 => XS.iloadN X20.here hx rfl (hb hby at_52) rfl k9) ?_
        refine own_st (T' := T20) (g' := (mkF m 54 #[.val (.long q1), .second, .val (.int p2), .val (.int p3), .val (.int p4), .val (.int p5), .val (.int p6), .val (.int (2 : Int32)), .unset, .unset, .unset] [(.int (p3.toInt8.toInt32)), (.int (0 : Int32)), (.ref b20), (.ref b20)])) (fun t9 k9 => XS.i2b X20.here hx rfl (hb hby at_53) rfl k9) ?_
        obtain ⟨clu21, Aru21, qu21, Su21, Nu21, Hu21, Gu21⟩ := (id V_b20)
        obtain ⟨T22, h22, X22, e22, W22, st22⟩ := stB X20 hx hZ e20 Aru21 (j := (0 : Int32)) (inb_of Su21 ⟨by decide, by decide⟩) (g := (mkF m 54 #[.val (.long q1), .second, .val (.int p2), .val (.int p3), .val (.int p4), .val (.int p5), .val (.int p6), .val (.int (2 : Int32)), .unset, .unset, .unset] [(.int (p3.toInt8.toInt32)), (.int (0 : Int32)), (.ref b20), (.ref b20)])) rfl rfl (hb hby at_54)
        have V22 := Arv.set Aru21 qu21 Su21 Nu21 Hu21 Gu21 (fits_nar_byte _) W22 0 rfl (Nat.le_of_ble_eq_true rfl)
        have K22 := K20.wr W22 (Or.inr sz_b20)
        have N22 := Fr.snoc X22 N0 g_b20
        have Z22 : n0 ≤ h22.size := by rw [W22.size]; exact Z20
        refine own_st (T' := T22) (g' := (mkF m 55 #[.val (.long q1), .second, .val (.int p2), .val (.int p3), .val (.int p4), .val (.int p5), .val (.int p6), .val (.int (2 : Int32)), .unset, .unset, .unset] [(.ref b20)])) (fun t9 k9 => st22 t9 k9) ?_
        refine own_st (T' := T22) (g' := (mkF m 56 #[.val (.long q1), .second, .val (.int p2), .val (.int p3), .val (.int p4), .val (.int p5), .val (.int p6), .val (.int (2 : Int32)), .unset, .unset, .unset] [(.ref b20), (.ref b20)])) (fun t9 k9 => XS.dup X22.here hx rfl (hb hby at_55) rfl rfl k9) ?_
        refine own_st (T' := T22) (g' := (mkF m 57 #[.val (.long q1), .second, .val (.int p2), .val (.int p3), .val (.int p4), .val (.int p5), .val (.int p6), .val (.int (2 : Int32)), .unset, .unset, .unset] [(.int (1 : Int32)), (.ref b20), (.ref b20)])) (fun t9 k9 => XS.iconst X22.here hx rfl (hb hby at_56) k9) ?_
        refine own_st (T' := T22) (g' := (mkF m 59 #[.val (.long q1), .second, .val (.int p2), .val (.int p3), .val (.int p4), .val (.int p5), .val (.int p6), .val (.int (2 : Int32)), .unset, .unset, .unset] [(.int p4), (.int (1 : Int32)), (.ref b20), (.ref b20)])) (fun t9 k9 => XS.iload X22.here hx rfl (hb hby at_57) rfl k9) ?_
        refine own_st (T' := T22) (g' := (mkF m 60 #[.val (.long q1), .second, .val (.int p2), .val (.int p3), .val (.int p4), .val (.int p5), .val (.int p6), .val (.int (2 : Int32)), .unset, .unset, .unset] [(.int (p4.toInt8.toInt32)), (.int (1 : Int32)), (.ref b20), (.ref b20)])) (fun t9 k9 => XS.i2b X22.here hx rfl (hb hby at_59) rfl k9) ?_
        obtain ⟨clu23, Aru23, qu23, Su23, Nu23, Hu23, Gu23⟩ := (id V22)
        obtain ⟨T24, h24, X24, e24, W24, st24⟩ := stB X22 hx hZ e22 Aru23 (j := (1 : Int32)) (inb_of Su23 ⟨by decide, by decide⟩) (g := (mkF m 60 #[.val (.long q1), .second, .val (.int p2), .val (.int p3), .val (.int p4), .val (.int p5), .val (.int p6), .val (.int (2 : Int32)), .unset, .unset, .unset] [(.int (p4.toInt8.toInt32)), (.int (1 : Int32)), (.ref b20), (.ref b20)])) rfl rfl (hb hby at_60)
        have V24 := Arv.set Aru23 qu23 Su23 Nu23 Hu23 Gu23 (fits_nar_byte _) W24 1 rfl (Nat.le_of_ble_eq_true rfl)
        have K24 := K22.wr W24 (Or.inr sz_b20)
        have N24 := Fr.snoc X24 N22 g_b20
        have Z24 : n0 ≤ h24.size := by rw [W24.size]; exact Z22
        refine own_st (T' := T24) (g' := (mkF m 61 #[.val (.long q1), .second, .val (.int p2), .val (.int p3), .val (.int p4), .val (.int p5), .val (.int p6), .val (.int (2 : Int32)), .unset, .unset, .unset] [(.ref b20)])) (fun t9 k9 => st24 t9 k9) ?_
        refine own_st (T' := T24) (g' := (mkF m 63 #[.val (.long q1), .second, .val (.int p2), .val (.int p3), .val (.int p4), .val (.int p5), .val (.int p6), .val (.int (2 : Int32)), .val (.ref b20), .unset, .unset] [])) (fun t9 k9 => XS.astore X24.here hx rfl (hb hby at_61) rfl rfl (l' := #[.val (.long q1), .second, .val (.int p2), .val (.int p3), .val (.int p4), .val (.int p5), .val (.int p6), .val (.int (2 : Int32)), .val (.ref b20), .unset, .unset]) rfl k9) ?_
        refine own_st (T' := T24) (g' := (mkF m 137 #[.val (.long q1), .second, .val (.int p2), .val (.int p3), .val (.int p4), .val (.int p5), .val (.int p6), .val (.int (2 : Int32)), .val (.ref b20), .unset, .unset] [])) (fun t9 k9 => XS.goto X24.here hx rfl (pc0 := 63) (pc' := 137) rfl (hb hby at_63) (by decide) (by decide) k9) ?_
        have j209 : ∀ (T25 : State) (L25 : List Loc) (y9 : Int32), Stand p l e room_1 s m #[(.long q1), (.int p2), (.int p3), (.int p4), (.int p5), (.int p6)] below meth c T25 L25 (0 + 1) (0 + 2) → T25.heap = h24 → Fr n0 L25 → (own_B y9 (∀ i, i < 2 → own_w (own_xs p3 p4 p5 p6 i))) → own_Go p e below F T25 (mkF m 209 #[.val (.long q1), .second, .val (.int p2), .val (.int p3), .val (.int p4), .val (.int p5), .val (.int p6), .val (.int (2 : Int32)), .val (.ref b20), .unset, .unset] [(.int y9)]) := by
          intro T25 L25 y9 X25 e25 N25 hy
          refine own_st (T' := T25) (g' := (mkF m 211 #[.val (.long q1), .second, .val (.int p2), .val (.int p3), .val (.int p4), .val (.int p5), .val (.int p6), .val (.int (2 : Int32)), .val (.ref b20), .val (.int y9), .unset] [])) (fun t9 k9 => XS.istore X25.here hx rfl (hb hby at_209) rfl (l' := #[.val (.long q1), .second, .val (.int p2), .val (.int p3), .val (.int p4), .val (.int p5), .val (.int p6), .val (.int (2 : Int32)), .val (.ref b20), .val (.int y9), .unset]) rfl k9) ?_
          obtain ⟨T26, h26, X26, e26, E26, A26, D26, -, st26⟩ := newO X25 hx hZ hown (hw _ (List.mem_of_getElem? (i := 6) rfl)) (hw _ (List.mem_of_getElem? (i := 7) rfl)) (hw _ (List.mem_of_getElem? (i := 8) rfl)) e25 (g := (mkF m 211 #[.val (.long q1), .second, .val (.int p2), .val (.int p3), .val (.int p4), .val (.int p5), .val (.int p6), .val (.int (2 : Int32)), .val (.ref b20), .val (.int y9), .unset] [])) rfl (hb hby at_211) (by decide) (by decide)
          obtain ⟨b26, gb26⟩ : ∃ z, z = h24.size := ⟨_, rfl⟩
          have ne_b20_b26 : b20 ≠ b26 := own_ne gb26 V24.lt
          have g_b26 : n0 ≤ b26 := gb26 ▸ Z24
          have sz_b26 : h0.size ≤ b26 := gb26 ▸ K24.1
          rw [← gb26] at A26 D26 st26
          have V24_27 := V24.ext E26
          have K26 := K24.ext E26
          have Z26 : n0 ≤ h26.size := Nat.le_trans Z24 E26.1
          have F_number_b26 : Fld Z h26 b26 "com/example/stockbook/stockbook/server/JsonLines$Line" "number" "J" (.long (0 : Int64)) := D26 (Or.inr (hw _ (List.mem_of_getElem? (i := 21) rfl))) (ty := .long) (by decide)
          have F_bytes_b26 : Fld Z h26 b26 "com/example/stockbook/stockbook/server/JsonLines$Line" "bytes" "[B" .null := D26 (Or.inr (hw _ (List.mem_of_getElem? (i := 23) rfl))) (ty := (.array .byte)) (by decide)
          refine own_st (T' := T26) (g' := (mkF m 214 #[.val (.long q1), .second, .val (.int p2), .val (.int p3), .val (.int p4), .val (.int p5), .val (.int p6), .val (.int (2 : Int32)), .val (.ref b20), .val (.int y9), .unset] [(.ref b26)])) (fun t9 k9 => st26 t9 k9) ?_
          refine own_st (T' := T26) (g' := (mkF m 215 #[.val (.long q1), .second, .val (.int p2), .val (.int p3), .val (.int p4), .val (.int p5), .val (.int p6), .val (.int (2 : Int32)), .val (.ref b20), .val (.int y9), .unset] [(.ref b26), (.ref b26)])) (fun t9 k9 => XS.dup X26.here hx rfl (hb hby at_214) rfl rfl k9) ?_
          refine own_st (T' := T26) (g' := (mkF m 216 #[.val (.long q1), .second, .val (.int p2), .val (.int p3), .val (.int p4), .val (.int p5), .val (.int p6), .val (.int (2 : Int32)), .val (.ref b20), .val (.int y9), .unset] [(.long q1), (.ref b26), (.ref b26)])) (fun t9 k9 => XS.lloadN X26.here hx rfl (hb hby at_215) rfl k9) ?_
          refine own_st (T' := T26) (g' := (mkF m 218 #[.val (.long q1), .second, .val (.int p2), .val (.int p3), .val (.int p4), .val (.int p5), .val (.int p6), .val (.int (2 : Int32)), .val (.ref b20), .val (.int y9), .unset] [(.ref b20), (.long q1), (.ref b26), (.ref b26)])) (fun t9 k9 => XS.aload X26.here hx rfl (hb hby at_216) rfl rfl k9) ?_
          obtain ⟨_, _, ⟨T28, L28, k28, n28⟩, -, X28, ⟨Lc28, hQ28, l28, y28, z28⟩, st28⟩ := X26.specialBack hx (y := (⟨"com/example/stockbook/stockbook/server/JsonLines$Line", "<init>", "(J[B)V"⟩ : MethodName)) rfl hown (mvT hZ (hw _ (List.mem_of_getElem? (i := 9) rfl))) (mvT hZ (hw _ (List.mem_of_getElem? (i := 10) rfl))) (mvT hZ (hw _ (List.mem_of_getElem? (i := 11) rfl))) (by decide) (own_back (W := 1) (rmIa l Z a0 hw b26 q1 b20 (.long 0) .null h26 n0 Z26 A26 F_number_b26 F_bytes_b26 g_b26) hZ (hw _ (List.mem_of_getElem? (i := 11) rfl)) (hw _ (List.mem_of_getElem? (i := 8) rfl)) (by decide) (by decide)) (g := (mkF m 218 #[.val (.long q1), .second, .val (.int p2), .val (.int p3), .val (.int p4), .val (.int p5), .val (.int p6), .val (.int (2 : Int32)), .val (.ref b20), .val (.int y9), .unset] [(.ref b20), (.long q1), (.ref b26), (.ref b26)])) rfl (by rw [hml]; rfl) (Steps.refl _) (a := b26) (argsL := [(.long q1), (.ref b20)]) (rest := [(.ref b26)]) (lenOf pd_1 rfl) rfl (by show 2 * 0 + _ ≤ _; exact Nat.le_of_eq rfl) (hb hby at_218) (fun _ _ => ⟨rfl, e26, (Nat.le_of_ble_eq_true rfl), (Nat.le_of_ble_eq_true rfl)⟩)
          dsimp only [Pt.U, Pt.locs, Pt.cells, Pt.slots] at X28 l28 y28 z28 st28 hQ28
          subst l28 y28 z28
          obtain ⟨rfl, Nq28, Kq28, Eq28, Fb28⟩ := hQ28
          have N28 := Fr.app N25 Nq28
          obtain ⟨h28, e28⟩ : ∃ z, T28.heap = z := ⟨_, rfl⟩
          rw [e28] at Kq28 Eq28 Fb28
          have V24_29 := V24_27.keep Kq28 (ninS ne_b20_b26 nin0)
          have A26_30 := A26.keep Kq28
          have K28 := K26.trans Kq28 (allS (Or.inr sz_b26) all0)
          have Z28 : n0 ≤ h28.size := Nat.le_trans Z26 Kq28.1
          refine own_st (T' := T28) (g' := (mkF m 221 #[.val (.long q1), .second, .val (.int p2), .val (.int p3), .val (.int p4), .val (.int p5), .val (.int p6), .val (.int (2 : Int32)), .val (.ref b20), .val (.int y9), .unset] [(.ref b26)])) (fun t9 k9 => st28.trans k9) ?_
          refine own_st (T' := T28) (g' := (mkF m 223 #[.val (.long q1), .second, .val (.int p2), .val (.int p3), .val (.int p4), .val (.int p5), .val (.int p6), .val (.int (2 : Int32)), .val (.ref b20), .val (.int y9), .val (.ref b26)] [])) (fun t9 k9 => XS.astore X28.here hx rfl (hb hby at_221) rfl rfl (l' := #[.val (.long q1), .second, .val (.int p2), .val (.int p3), .val (.int p4), .val (.int p5), .val (.int p6), .val (.int (2 : Int32)), .val (.ref b20), .val (.int y9), .val (.ref b26)]) rfl k9) ?_
          refine own_st (T' := T28) (g' := (mkF m 225 #[.val (.long q1), .second, .val (.int p2), .val (.int p3), .val (.int p4), .val (.int p5), .val (.int p6), .val (.int (2 : Int32)), .val (.ref b20), .val (.int y9), .val (.ref b26)] [(.ref b26)])) (fun t9 k9 => XS.aload X28.here hx rfl (hb hby at_223) rfl rfl k9) ?_
          obtain ⟨cq31, kq31, qa31, qb31, qc31⟩ := isOf hZ e28 A26_30
          obtain ⟨_, _, ⟨T31, L31, k31, n31⟩, -, X31, ⟨Lc31, hQ31, l31, y31, z31⟩, st31⟩ := X28.virtualBack hx (y := (⟨"com/example/stockbook/stockbook/server/JsonLines$Line", "isBlank", "()Z"⟩ : MethodName)) (z := (⟨"com/example/stockbook/stockbook/server/JsonLines$Line", "isBlank", "()Z"⟩ : MethodName)) hown (mvT hZ (hw _ (List.mem_of_getElem? (i := 24) rfl))) (mvT hZ (hw _ (List.mem_of_getElem? (i := 25) rfl))) (notFace_of_selects (args := #[]) (mvT hZ (hw _ (List.mem_of_getElem? (i := 27) rfl)))) (mvT hZ (hw _ (List.mem_of_getElem? (i := 27) rfl))) (mvT hZ (hw _ (List.mem_of_getElem? (i := 26) rfl))) (by decide) (own_back (W := 0) (rmBa l Z a0 hw b26 b20 k20 (2 : Int32) _ (own_xs p3 p4 p5 p6) 2 h28 n0 Z28 Fb28 (by decide) (by decide) V24_29 (fun i hi => by
                match i, hi with
                | 0, _ => exact congrArg Value.int (own_bb _)
                | 1, _ => exact congrArg Value.int (own_bb _))) hZ (hw _ (List.mem_of_getElem? (i := 28) rfl)) (hw _ (List.mem_of_getElem? (i := 8) rfl)) (by decide) (by decide)) qa31 qc31 (g := (mkF m 225 #[.val (.long q1), .second, .val (.int p2), .val (.int p3), .val (.int p4), .val (.int p5), .val (.int p6), .val (.int (2 : Int32)), .val (.ref b20), .val (.int y9), .val (.ref b26)] [(.ref b26)])) rfl (by rw [hml]; rfl) (Steps.refl _) (argsL := []) (rest := []) (lenOf pd_3 rfl) rfl (by show 2 * 0 + _ ≤ _; exact Nat.le_of_eq rfl) (hb hby at_225) (fun _ _ => ⟨rfl, e28, (Nat.le_of_ble_eq_true rfl), (Nat.le_of_ble_eq_true rfl)⟩)
          dsimp only [Pt.U, Pt.locs, Pt.cells, Pt.slots] at X31 l31 y31 z31 st31 hQ31
          subst l31 y31 z31
          obtain ⟨z31, rfl, Nq31, he31, hB31⟩ := hQ31
          have N31 := Fr.app N28 Nq31
          have e31 : T31.heap = h28 := he31
          refine own_st (T' := T31) (g' := (mkF m 228 #[.val (.long q1), .second, .val (.int p2), .val (.int p3), .val (.int p4), .val (.int p5), .val (.int p6), .val (.int (2 : Int32)), .val (.ref b20), .val (.int y9), .val (.ref b26)] [(.int z31)])) (fun t9 k9 => st31.trans k9) ?_
          refine own_st (T' := T31) (g' := (mkF m 230 #[.val (.long q1), .second, .val (.int p2), .val (.int p3), .val (.int p4), .val (.int p5), .val (.int p6), .val (.int (2 : Int32)), .val (.ref b20), .val (.int y9), .val (.ref b26)] [(.int y9), (.int z31)])) (fun t9 k9 => XS.iload X31.here hx rfl (hb hby at_228) rfl k9) ?_
          refine own_st (T' := T31) (g' := (mkF m 233 #[.val (.long q1), .second, .val (.int p2), .val (.int p3), .val (.int p4), .val (.int p5), .val (.int p6), .val (.int (2 : Int32)), .val (.ref b20), .val (.int y9), .val (.ref b26)] [])) (fun t9 k9 => XS.icmpNo X31.here hx rfl (hb hby at_230) rfl (teq (own_B.eq hB31 hy Iff.rfl)).2 k9) ?_
          refine own_st (T' := T31) (g' := (mkF m 234 #[.val (.long q1), .second, .val (.int p2), .val (.int p3), .val (.int p4), .val (.int p5), .val (.int p6), .val (.int (2 : Int32)), .val (.ref b20), .val (.int y9), .val (.ref b26)] [(.int (1 : Int32))])) (fun t9 k9 => XS.iconst X31.here hx rfl (hb hby at_233) k9) ?_
          refine own_st (T' := T31) (g' := (mkF m 238 #[.val (.long q1), .second, .val (.int p2), .val (.int p3), .val (.int p4), .val (.int p5), .val (.int p6), .val (.int (2 : Int32)), .val (.ref b20), .val (.int y9), .val (.ref b26)] [(.int (1 : Int32))])) (fun t9 k9 => XS.goto X31.here hx rfl (pc0 := 234) (pc' := 238) rfl (hb hby at_234) (by decide) (by decide) k9) ?_
          refine own_ret (v := some (.int (1 : Int32))) hF X31 (own_some hret) hlk (fun fs hr => retN X31 hx (t := .boolean) hret (by simp) (hb hby at_238) hr) ?_ (by decide) (by decide)
          try rw [e31]
          exact ⟨rfl, N31⟩
        refine own_st (T' := T24) (g' := (mkF m 139 #[.val (.long q1), .second, .val (.int p2), .val (.int p3), .val (.int p4), .val (.int p5), .val (.int p6), .val (.int (2 : Int32)), .val (.ref b20), .unset, .unset] [(.int (2 : Int32))])) (fun t9 k9 => XS.iload X24.here hx rfl (hb hby at_137) rfl k9) ?_
        refine own_st (T' := T24) (g' := (mkF m 140 #[.val (.long q1), .second, .val (.int p2), .val (.int p3), .val (.int p4), .val (.int p5), .val (.int p6), .val (.int (2 : Int32)), .val (.ref b20), .unset, .unset] [(.int (5 : Int32)), (.int (2 : Int32))])) (fun t9 k9 => XS.iconst X24.here hx rfl (hb hby at_139) k9) ?_
        refine own_st (T' := T24) (g' := (mkF m 149 #[.val (.long q1), .second, .val (.int p2), .val (.int p3), .val (.int p4), .val (.int p5), .val (.int p6), .val (.int (2 : Int32)), .val (.ref b20), .unset, .unset] [])) (fun t9 k9 => XS.icmpYes X24.here hx rfl (pc0 := 140) (pc' := 149) rfl (hb hby at_140) rfl (feq (by decide)).2 (by decide) (by decide) k9) ?_
        refine own_st (T' := T24) (g' := (mkF m 151 #[.val (.long q1), .second, .val (.int p2), .val (.int p3), .val (.int p4), .val (.int p5), .val (.int p6), .val (.int (2 : Int32)), .val (.ref b20), .unset, .unset] [(.int (2 : Int32))])) (fun t9 k9 => XS.iload X24.here hx rfl (hb hby at_149) rfl k9) ?_
        refine own_st (T' := T24) (g' := (mkF m 152 #[.val (.long q1), .second, .val (.int p2), .val (.int p3), .val (.int p4), .val (.int p5), .val (.int p6), .val (.int (2 : Int32)), .val (.ref b20), .unset, .unset] [(.int (1 : Int32)), (.int (2 : Int32))])) (fun t9 k9 => XS.iconst X24.here hx rfl (hb hby at_151) k9) ?_
        refine own_st (T' := T24) (g' := (mkF m 155 #[.val (.long q1), .second, .val (.int p2), .val (.int p3), .val (.int p4), .val (.int p5), .val (.int p6), .val (.int (2 : Int32)), .val (.ref b20), .unset, .unset] [])) (fun t9 k9 => XS.icmpNo X24.here hx rfl (hb hby at_152) rfl (flt (by decide)).1 k9) ?_
        refine own_st (T' := T24) (g' := (mkF m 156 #[.val (.long q1), .second, .val (.int p2), .val (.int p3), .val (.int p4), .val (.int p5), .val (.int p6), .val (.int (2 : Int32)), .val (.ref b20), .unset, .unset] [(.int p3)])) (fun t9 k9 => XS.iloadN X24.here hx rfl (hb hby at_155) rfl k9) ?_
        obtain ⟨_, _, ⟨T32, L32, k32, n32⟩, -, X32, ⟨Lc32, hQ32, l32, y32, z32⟩, st32⟩ := Jvm.LawKit.callS X24 hx (y := (⟨"com/example/stockbook/stockbook/server/LineIsBlankPinLaw", "ws", "(I)Z"⟩ : MethodName)) hown (mvT hZ (hw _ (List.mem_of_getElem? (i := 2) rfl))) (mvT hZ (hw _ (List.mem_of_getElem? (i := 3) rfl))) (mvT hZ (hw _ (List.mem_of_getElem? (i := 4) rfl))) (mvT hZ (hw _ (List.mem_of_getElem? (i := 5) rfl))) (by decide) (own_back (W := 0) (rm1 l Z a0 hw p3 h24 n0 Z24) hZ (hw _ (List.mem_of_getElem? (i := 5) rfl)) (hw _ (List.mem_of_getElem? (i := 4) rfl)) (by decide) (by decide)) (g := (mkF m 156 #[.val (.long q1), .second, .val (.int p2), .val (.int p3), .val (.int p4), .val (.int p5), .val (.int p6), .val (.int (2 : Int32)), .val (.ref b20), .unset, .unset] [(.int p3)])) rfl (by rw [hml]; rfl) (argsL := [(.int p3)]) (rest := []) (lenOf pd_0 rfl) rfl (by show 2 * 0 + _ ≤ _; exact Nat.le_of_eq rfl) (hb hby at_156) (fun _ _ => ⟨rfl, e24, (Nat.le_of_ble_eq_true rfl), (Nat.le_of_ble_eq_true rfl)⟩)
        dsimp only [Pt.U, Pt.locs, Pt.cells, Pt.slots] at X32 l32 y32 z32 st32 hQ32
        subst l32 y32 z32
        obtain ⟨z32, rfl, Nq32, he32, hB32⟩ := hQ32
        have N32 := Fr.app N24 Nq32
        have e32 : T32.heap = h24 := he32
        refine own_st (T' := T32) (g' := (mkF m 159 #[.val (.long q1), .second, .val (.int p2), .val (.int p3), .val (.int p4), .val (.int p5), .val (.int p6), .val (.int (2 : Int32)), .val (.ref b20), .unset, .unset] [(.int z32)])) (fun t9 k9 => st32 t9 k9) ?_
        by_cases hz0 : z32 = (0 : Int32)
        · refine own_st (T' := T32) (g' := (mkF m 208 #[.val (.long q1), .second, .val (.int p2), .val (.int p3), .val (.int p4), .val (.int p5), .val (.int p6), .val (.int (2 : Int32)), .val (.ref b20), .unset, .unset] [])) (fun t9 k9 => XS.ifYes X32.here hx rfl (pc0 := 159) (pc' := 208) rfl (hb hby at_159) rfl ((if0 _ _).trans (teq hz0).1) (by decide) (by decide) k9) ?_
          refine own_st (T' := T32) (g' := (mkF m 209 #[.val (.long q1), .second, .val (.int p2), .val (.int p3), .val (.int p4), .val (.int p5), .val (.int p6), .val (.int (2 : Int32)), .val (.ref b20), .unset, .unset] [(.int (0 : Int32))])) (fun t9 k9 => XS.iconst X32.here hx rfl (hb hby at_208) k9) ?_
          exact j209 _ _ _ X32 e32 N32 (Or.inr ⟨rfl, fun q => (hB32.no hz0) (q 0 (by decide))⟩)
        · refine own_st (T' := T32) (g' := (mkF m 162 #[.val (.long q1), .second, .val (.int p2), .val (.int p3), .val (.int p4), .val (.int p5), .val (.int p6), .val (.int (2 : Int32)), .val (.ref b20), .unset, .unset] [])) (fun t9 k9 => XS.ifNo X32.here hx rfl (hb hby at_159) rfl ((if0 _ _).trans (feq hz0).1) k9) ?_
          refine own_st (T' := T32) (g' := (mkF m 164 #[.val (.long q1), .second, .val (.int p2), .val (.int p3), .val (.int p4), .val (.int p5), .val (.int p6), .val (.int (2 : Int32)), .val (.ref b20), .unset, .unset] [(.int (2 : Int32))])) (fun t9 k9 => XS.iload X32.here hx rfl (hb hby at_162) rfl k9) ?_
          refine own_st (T' := T32) (g' := (mkF m 165 #[.val (.long q1), .second, .val (.int p2), .val (.int p3), .val (.int p4), .val (.int p5), .val (.int p6), .val (.int (2 : Int32)), .val (.ref b20), .unset, .unset] [(.int (2 : Int32)), (.int (2 : Int32))])) (fun t9 k9 => XS.iconst X32.here hx rfl (hb hby at_164) k9) ?_
          refine own_st (T' := T32) (g' := (mkF m 168 #[.val (.long q1), .second, .val (.int p2), .val (.int p3), .val (.int p4), .val (.int p5), .val (.int p6), .val (.int (2 : Int32)), .val (.ref b20), .unset, .unset] [])) (fun t9 k9 => XS.icmpNo X32.here hx rfl (hb hby at_165) rfl (flt (by decide)).1 k9) ?_
          refine own_st (T' := T32) (g' := (mkF m 170 #[.val (.long q1), .second, .val (.int p2), .val (.int p3), .val (.int p4), .val (.int p5), .val (.int p6), .val (.int (2 : Int32)), .val (.ref b20), .unset, .unset] [(.int p4)])) (fun t9 k9 => XS.iload X32.here hx rfl (hb hby at_168) rfl k9) ?_
          obtain ⟨_, _, ⟨T33, L33, k33, n33⟩, -, X33, ⟨Lc33, hQ33, l33, y33, z33⟩, st33⟩ := Jvm.LawKit.callS X32 hx (y := (⟨"com/example/stockbook/stockbook/server/LineIsBlankPinLaw", "ws", "(I)Z"⟩ : MethodName)) hown (mvT hZ (hw _ (List.mem_of_getElem? (i := 2) rfl))) (mvT hZ (hw _ (List.mem_of_getElem? (i := 3) rfl))) (mvT hZ (hw _ (List.mem_of_getElem? (i := 4) rfl))) (mvT hZ (hw _ (List.mem_of_getElem? (i := 5) rfl))) (by decide) (own_back (W := 0) (rm1 l Z a0 hw p4 h24 n0 Z24) hZ (hw _ (List.mem_of_getElem? (i := 5) rfl)) (hw _ (List.mem_of_getElem? (i := 4) rfl)) (by decide) (by decide)) (g := (mkF m 170 #[.val (.long q1), .second, .val (.int p2), .val (.int p3), .val (.int p4), .val (.int p5), .val (.int p6), .val (.int (2 : Int32)), .val (.ref b20), .unset, .unset] [(.int p4)])) rfl (by rw [hml]; rfl) (argsL := [(.int p4)]) (rest := []) (lenOf pd_0 rfl) rfl (by show 2 * 0 + _ ≤ _; exact Nat.le_of_eq rfl) (hb hby at_170) (fun _ _ => ⟨rfl, e32, (Nat.le_of_ble_eq_true rfl), (Nat.le_of_ble_eq_true rfl)⟩)
          dsimp only [Pt.U, Pt.locs, Pt.cells, Pt.slots] at X33 l33 y33 z33 st33 hQ33
          subst l33 y33 z33
          obtain ⟨z33, rfl, Nq33, he33, hB33⟩ := hQ33
          have N33 := Fr.app N32 Nq33
          have e33 : T33.heap = h24 := he33
          refine own_st (T' := T33) (g' := (mkF m 173 #[.val (.long q1), .second, .val (.int p2), .val (.int p3), .val (.int p4), .val (.int p5), .val (.int p6), .val (.int (2 : Int32)), .val (.ref b20), .unset, .unset] [(.int z33)])) (fun t9 k9 => st33 t9 k9) ?_
          by_cases hz1 : z33 = (0 : Int32)
          · refine own_st (T' := T33) (g' := (mkF m 208 #[.val (.long q1), .second, .val (.int p2), .val (.int p3), .val (.int p4), .val (.int p5), .val (.int p6), .val (.int (2 : Int32)), .val (.ref b20), .unset, .unset] [])) (fun t9 k9 => XS.ifYes X33.here hx rfl (pc0 := 173) (pc' := 208) rfl (hb hby at_173) rfl ((if0 _ _).trans (teq hz1).1) (by decide) (by decide) k9) ?_
            refine own_st (T' := T33) (g' := (mkF m 209 #[.val (.long q1), .second, .val (.int p2), .val (.int p3), .val (.int p4), .val (.int p5), .val (.int p6), .val (.int (2 : Int32)), .val (.ref b20), .unset, .unset] [(.int (0 : Int32))])) (fun t9 k9 => XS.iconst X33.here hx rfl (hb hby at_208) k9) ?_
            exact j209 _ _ _ X33 e33 N33 (Or.inr ⟨rfl, fun q => (hB33.no hz1) (q 1 (by decide))⟩)
          · refine own_st (T' := T33) (g' := (mkF m 176 #[.val (.long q1), .second, .val (.int p2), .val (.int p3), .val (.int p4), .val (.int p5), .val (.int p6), .val (.int (2 : Int32)), .val (.ref b20), .unset, .unset] [])) (fun t9 k9 => XS.ifNo X33.here hx rfl (hb hby at_173) rfl ((if0 _ _).trans (feq hz1).1) k9) ?_
            refine own_st (T' := T33) (g' := (mkF m 178 #[.val (.long q1), .second, .val (.int p2), .val (.int p3), .val (.int p4), .val (.int p5), .val (.int p6), .val (.int (2 : Int32)), .val (.ref b20), .unset, .unset] [(.int (2 : Int32))])) (fun t9 k9 => XS.iload X33.here hx rfl (hb hby at_176) rfl k9) ?_
            refine own_st (T' := T33) (g' := (mkF m 179 #[.val (.long q1), .second, .val (.int p2), .val (.int p3), .val (.int p4), .val (.int p5), .val (.int p6), .val (.int (2 : Int32)), .val (.ref b20), .unset, .unset] [(.int (3 : Int32)), (.int (2 : Int32))])) (fun t9 k9 => XS.iconst X33.here hx rfl (hb hby at_178) k9) ?_
            refine own_st (T' := T33) (g' := (mkF m 190 #[.val (.long q1), .second, .val (.int p2), .val (.int p3), .val (.int p4), .val (.int p5), .val (.int p6), .val (.int (2 : Int32)), .val (.ref b20), .unset, .unset] [])) (fun t9 k9 => XS.icmpYes X33.here hx rfl (pc0 := 179) (pc' := 190) rfl (hb hby at_179) rfl (tlt (by decide)).1 (by decide) (by decide) k9) ?_
            refine own_st (T' := T33) (g' := (mkF m 192 #[.val (.long q1), .second, .val (.int p2), .val (.int p3), .val (.int p4), .val (.int p5), .val (.int p6), .val (.int (2 : Int32)), .val (.ref b20), .unset, .unset] [(.int (2 : Int32))])) (fun t9 k9 => XS.iload X33.here hx rfl (hb hby at_190) rfl k9) ?_
            refine own_st (T' := T33) (g' := (mkF m 193 #[.val (.long q1), .second, .val (.int p2), .val (.int p3), .val (.int p4), .val (.int p5), .val (.int p6), .val (.int (2 : Int32)), .val (.ref b20), .unset, .unset] [(.int (4 : Int32)), (.int (2 : Int32))])) (fun t9 k9 => XS.iconst X33.here hx rfl (hb hby at_192) k9) ?_
            refine own_st (T' := T33) (g' := (mkF m 204 #[.val (.long q1), .second, .val (.int p2), .val (.int p3), .val (.int p4), .val (.int p5), .val (.int p6), .val (.int (2 : Int32)), .val (.ref b20), .unset, .unset] [])) (fun t9 k9 => XS.icmpYes X33.here hx rfl (pc0 := 193) (pc' := 204) rfl (hb hby at_193) rfl (tlt (by decide)).1 (by decide) (by decide) k9) ?_
            refine own_st (T' := T33) (g' := (mkF m 205 #[.val (.long q1), .second, .val (.int p2), .val (.int p3), .val (.int p4), .val (.int p5), .val (.int p6), .val (.int (2 : Int32)), .val (.ref b20), .unset, .unset] [(.int (1 : Int32))])) (fun t9 k9 => XS.iconst X33.here hx rfl (hb hby at_204) k9) ?_
            refine own_st (T' := T33) (g' := (mkF m 209 #[.val (.long q1), .second, .val (.int p2), .val (.int p3), .val (.int p4), .val (.int p5), .val (.int p6), .val (.int (2 : Int32)), .val (.ref b20), .unset, .unset] [(.int (1 : Int32))])) (fun t9 k9 => XS.goto X33.here hx rfl (pc0 := 205) (pc' := 209) rfl (hb hby at_205) (by decide) (by decide) k9) ?_
            exact j209 _ _ _ X33 e33 N33 (Or.inl ⟨rfl, (fun i hi => by
                  match i, hi with
                  | 0, _ => exact hB32.yes hz0
                  | 1, _ => exact hB33.yes hz1)⟩)
      · refine own_st (T' := T0) (g' := (mkF m 66 #[.val (.long q1), .second, .val (.int p2), .val (.int p3), .val (.int p4), .val (.int p5), .val (.int p6), .val (.int kk), .unset, .unset, .unset] [])) (fun t9 k9 => XS.icmpYes X0.here hx rfl (pc0 := 44) (pc' := 66) rfl (hb hby at_44) rfl (feq hk2).2 (by decide) (by decide) k9) ?_
        refine own_st (T' := T0) (g' := (mkF m 68 #[.val (.long q1), .second, .val (.int p2), .val (.int p3), .val (.int p4), .val (.int p5), .val (.int p6), .val (.int kk), .unset, .unset, .unset] [(.int kk)])) (fun t9 k9 => XS.iload X0.here hx rfl (hb hby at_66) rfl k9) ?_
        refine own_st (T' := T0) (g' := (mkF m 69 #[.val (.long q1), .second, .val (.int p2), .val (.int p3), .val (.int p4), .val (.int p5), .val (.int p6), .val (.int kk), .unset, .unset, .unset] [(.int (3 : Int32)), (.int kk)])) (fun t9 k9 => XS.iconst X0.here hx rfl (hb hby at_68) k9) ?_
        by_cases hk3 : kk = (3 : Int32)
        · refine own_st (T' := T0) (g' := (mkF m 72 #[.val (.long q1), .second, .val (.int p2), .val (.int p3), .val (.int p4), .val (.int p5), .val (.int p6), .val (.int kk), .unset, .unset, .unset] [])) (fun t9 k9 => XS.icmpNo X0.here hx rfl (hb hby at_69) rfl (teq hk3).2 k9) ?_
          subst hk3
          show own_Go p e below F T0 (mkF m 72 #[.val (.long q1), .second, .val (.int p2), .val (.int p3), .val (.int p4), .val (.int p5), .val (.int p6), .val (.int (3 : Int32)), .unset, .unset, .unset] [])
          refine own_st (T' := T0) (g' := (mkF m 73 #[.val (.long q1), .second, .val (.int p2), .val (.int p3), .val (.int p4), .val (.int p5), .val (.int p6), .val (.int (3 : Int32)), .unset, .unset, .unset] [(.int (3 : Int32))])) (fun t9 k9 => XS.iconst X0.here hx rfl (hb hby at_72) k9) ?_
          obtain ⟨T34, h34, k34, X34, e34, E34, A34, st34⟩ := newP X0 hx hZ (hw _ (List.mem_of_getElem? (i := 1) rfl)) e0 (g := (mkF m 73 #[.val (.long q1), .second, .val (.int p2), .val (.int p3), .val (.int p4), .val (.int p5), .val (.int p6), .val (.int (3 : Int32)), .unset, .unset, .unset] [(.int (3 : Int32))])) rfl (hb hby at_73) rfl (by decide) (cap := 3) (by decide) (by decide) (by decide) (by decide)
          obtain ⟨b34, gb34⟩ : ∃ z, z = h0.size := ⟨_, rfl⟩
          have g_b34 : n0 ≤ b34 := gb34 ▸ Z0
          have sz_b34 : h0.size ≤ b34 := gb34 ▸ K0.1
          rw [← gb34] at A34 st34
          have K34 := K0.ext E34
          have Z34 : n0 ≤ h34.size := Nat.le_trans Z0 E34.1
          have V_b34 : Arv Z h34 b34 k34 .byte (3 : Int32) [(.int (0 : Int32)), (.int (0 : Int32)), (.int (0 : Int32))] (.int (0 : Int32)) := (Arv.new A34 (by decide)).pad (pad_rep [] (.int (0 : Int32)) 3)
          refine own_st (T' := T34) (g' := (mkF m 75 #[.val (.long q1), .second, .val (.int p2), .val (.int p3), .val (.int p4), .val (.int p5), .val (.int p6), .val (.int (3 : Int32)), .unset, .unset, .unset] [(.ref b34)])) (fun t9 k9 => st34 t9 k9) ?_
          refine own_st (T' := T34) (g' := (mkF m 76 #[.val (.long q1), .second, .val (.int p2), .val (.int p3), .val (.int p4), .val (.int p5), .val (.int p6), .val (.int (3 : Int32)), .unset, .unset, .unset] [(.ref b34), (.ref b34)])) (fun t9 k9 => XS.dup X34.here hx rfl (hb hby at_75) rfl rfl k9) ?_
          refine own_st (T' := T34) (g' := (mkF m 77 #[.val (.long q1), .second, .val (.int p2), .val (.int p3), .val (.int p4), .val (.int p5), .val (.int p6), .val (.int (3 : Int32)), .unset, .unset, .unset] [(.int (0 : Int32)), (.ref b34), (.ref b34)])) (fun t9 k9 => XS.iconst X34.here hx rfl (hb hby at_76) k9) ?_
          refine own_st (T' := T34) (g' := (mkF m 78 #[.val (.long q1), .second, .val (.int p2), .val (.int p3), .val (.int p4), .val (.int p5), .val (.int p6), .val (.int (3 : Int32)), .unset, .unset, .unset] [(.int p3), (.int (0 : Int32)), (.ref b34), (.ref b34)])) (fun t9 k9 => XS.iloadN X34.here hx rfl (hb hby at_77) rfl k9) ?_
          refine own_st (T' := T34) (g' := (mkF m 79 #[.val (.long q1), .second, .val (.int p2), .val (.int p3), .val (.int p4), .val (.int p5), .val (.int p6), .val (.int (3 : Int32)), .unset, .unset, .unset] [(.int (p3.toInt8.toInt32)), (.int (0 : Int32)), (.ref b34), (.ref b34)])) (fun t9 k9 => XS.i2b X34.here hx rfl (hb hby at_78) rfl k9) ?_
          obtain ⟨clu35, Aru35, qu35, Su35, Nu35, Hu35, Gu35⟩ := (id V_b34)
          obtain ⟨T36, h36, X36, e36, W36, st36⟩ := stB X34 hx hZ e34 Aru35 (j := (0 : Int32)) (inb_of Su35 ⟨by decide, by decide⟩) (g := (mkF m 79 #[.val (.long q1), .second, .val (.int p2), .val (.int p3), .val (.int p4), .val (.int p5), .val (.int p6), .val (.int (3 : Int32)), .unset, .unset, .unset] [(.int (p3.toInt8.toInt32)), (.int (0 : Int32)), (.ref b34), (.ref b34)])) rfl rfl (hb hby at_79)
          have V36 := Arv.set Aru35 qu35 Su35 Nu35 Hu35 Gu35 (fits_nar_byte _) W36 0 rfl (Nat.le_of_ble_eq_true rfl)
          have K36 := K34.wr W36 (Or.inr sz_b34)
          have N36 := Fr.snoc X36 N0 g_b34
          have Z36 : n0 ≤ h36.size := by rw [W36.size]; exact Z34
          refine own_st (T' := T36) (g' := (mkF m 80 #[.val (.long q1), .second, .val (.int p2), .val (.int p3), .val (.int p4), .val (.int p5), .val (.int p6), .val (.int (3 : Int32)), .unset, .unset, .unset] [(.ref b34)])) (fun t9 k9 => st36 t9 k9) ?_
          refine own_st (T' := T36) (g' := (mkF m 81 #[.val (.long q1), .second, .val (.int p2), .val (.int p3), .val (.int p4), .val (.int p5), .val (.int p6), .val (.int (3 : Int32)), .unset, .unset, .unset] [(.ref b34), (.ref b34)])) (fun t9 k9 => XS.dup X36.here hx rfl (hb hby at_80) rfl rfl k9) ?_
          refine own_st (T' := T36) (g' := (mkF m 82 #[.val (.long q1), .second, .val (.int p2), .val (.int p3), .val (.int p4), .val (.int p5), .val (.int p6), .val (.int (3 : Int32)), .unset, .unset, .unset] [(.int (1 : Int32)), (.ref b34), (.ref b34)])) (fun t9 k9 => XS.iconst X36.here hx rfl (hb hby at_81) k9) ?_
          refine own_st (T' := T36) (g' := (mkF m 84 #[.val (.long q1), .second, .val (.int p2), .val (.int p3), .val (.int p4), .val (.int p5), .val (.int p6), .val (.int (3 : Int32)), .unset, .unset, .unset] [(.int p4), (.int (1 : Int32)), (.ref b34), (.ref b34)])) (fun t9 k9 => XS.iload X36.here hx rfl (hb hby at_82) rfl k9) ?_
          refine own_st (T' := T36) (g' := (mkF m 85 #[.val (.long q1), .second, .val (.int p2), .val (.int p3), .val (.int p4), .val (.int p5), .val (.int p6), .val (.int (3 : Int32)), .unset, .unset, .unset] [(.int (p4.toInt8.toInt32)), (.int (1 : Int32)), (.ref b34), (.ref b34)])) (fun t9 k9 => XS.i2b X36.here hx rfl (hb hby at_84) rfl k9) ?_
          obtain ⟨clu37, Aru37, qu37, Su37, Nu37, Hu37, Gu37⟩ := (id V36)
          obtain ⟨T38, h38, X38, e38, W38, st38⟩ := stB X36 hx hZ e36 Aru37 (j := (1 : Int32)) (inb_of Su37 ⟨by decide, by decide⟩) (g := (mkF m 85 #[.val (.long q1), .second, .val (.int p2), .val (.int p3), .val (.int p4), .val (.int p5), .val (.int p6), .val (.int (3 : Int32)), .unset, .unset, .unset] [(.int (p4.toInt8.toInt32)), (.int (1 : Int32)), (.ref b34), (.ref b34)])) rfl rfl (hb hby at_85)
          have V38 := Arv.set Aru37 qu37 Su37 Nu37 Hu37 Gu37 (fits_nar_byte _) W38 1 rfl (Nat.le_of_ble_eq_true rfl)
          have K38 := K36.wr W38 (Or.inr sz_b34)
          have N38 := Fr.snoc X38 N36 g_b34
          have Z38 : n0 ≤ h38.size := by rw [W38.size]; exact Z36
          refine own_st (T' := T38) (g' := (mkF m 86 #[.val (.long q1), .second, .val (.int p2), .val (.int p3), .val (.int p4), .val (.int p5), .val (.int p6), .val (.int (3 : Int32)), .unset, .unset, .unset] [(.ref b34)])) (fun t9 k9 => st38 t9 k9) ?_
          refine own_st (T' := T38) (g' := (mkF m 87 #[.val (.long q1), .second, .val (.int p2), .val (.int p3), .val (.int p4), .val (.int p5), .val (.int p6), .val (.int (3 : Int32)), .unset, .unset, .unset] [(.ref b34), (.ref b34)])) (fun t9 k9 => XS.dup X38.here hx rfl (hb hby at_86) rfl rfl k9) ?_
          refine own_st (T' := T38) (g' := (mkF m 88 #[.val (.long q1), .second, .val (.int p2), .val (.int p3), .val (.int p4), .val (.int p5), .val (.int p6), .val (.int (3 : Int32)), .unset, .unset, .unset] [(.int (2 : Int32)), (.ref b34), (.ref b34)])) (fun t9 k9 => XS.iconst X38.here hx rfl (hb hby at_87) k9) ?_
          refine own_st (T' := T38) (g' := (mkF m 90 #[.val (.long q1), .second, .val (.int p2), .val (.int p3), .val (.int p4), .val (.int p5), .val (.int p6), .val (.int (3 : Int32)), .unset, .unset, .unset] [(.int p5), (.int (2 : Int32)), (.ref b34), (.ref b34)])) (fun t9 k9 => XS.iload X38.here hx rfl (hb hby at_88) rfl k9) ?_
          refine own_st (T' := T38) (g' := (mkF m 91 #[.val (.long q1), .second, .val (.int p2), .val (.int p3), .val (.int p4), .val (.int p5), .val (.int p6), .val (.int (3 : Int32)), .unset, .unset, .unset] [(.int (p5.toInt8.toInt32)), (.int (2 : Int32)), (.ref b34), (.ref b34)])) (fun t9 k9 => XS.i2b X38.here hx rfl (hb hby at_90) rfl k9) ?_
          obtain ⟨clu39, Aru39, qu39, Su39, Nu39, Hu39, Gu39⟩ := (id V38)
          obtain ⟨T40, h40, X40, e40, W40, st40⟩ := stB X38 hx hZ e38 Aru39 (j := (2 : Int32)) (inb_of Su39 ⟨by decide, by decide⟩) (g := (mkF m 91 #[.val (.long q1), .second, .val (.int p2), .val (.int p3), .val (.int p4), .val (.int p5), .val (.int p6), .val (.int (3 : Int32)), .unset, .unset, .unset] [(.int (p5.toInt8.toInt32)), (.int (2 : Int32)), (.ref b34), (.ref b34)])) rfl rfl (hb hby at_91)
          have V40 := Arv.set Aru39 qu39 Su39 Nu39 Hu39 Gu39 (fits_nar_byte _) W40 2 rfl (Nat.le_of_ble_eq_true rfl)
          have K40 := K38.wr W40 (Or.inr sz_b34)
          have N40 := Fr.snoc X40 N38 g_b34
          have Z40 : n0 ≤ h40.size := by rw [W40.size]; exact Z38
          refine own_st (T' := T40) (g' := (mkF m 92 #[.val (.long q1), .second, .val (.int p2), .val (.int p3), .val (.int p4), .val (.int p5), .val (.int p6), .val (.int (3 : Int32)), .unset, .unset, .unset] [(.ref b34)])) (fun t9 k9 => st40 t9 k9) ?_
          refine own_st (T' := T40) (g' := (mkF m 94 #[.val (.long q1), .second, .val (.int p2), .val (.int p3), .val (.int p4), .val (.int p5), .val (.int p6), .val (.int (3 : Int32)), .val (.ref b34), .unset, .unset] [])) (fun t9 k9 => XS.astore X40.here hx rfl (hb hby at_92) rfl rfl (l' := #[.val (.long q1), .second, .val (.int p2), .val (.int p3), .val (.int p4), .val (.int p5), .val (.int p6), .val (.int (3 : Int32)), .val (.ref b34), .unset, .unset]) rfl k9) ?_
          refine own_st (T' := T40) (g' := (mkF m 137 #[.val (.long q1), .second, .val (.int p2), .val (.int p3), .val (.int p4), .val (.int p5), .val (.int p6), .val (.int (3 : Int32)), .val (.ref b34), .unset, .unset] [])) (fun t9 k9 => XS.goto X40.here hx rfl (pc0 := 94) (pc' := 137) rfl (hb hby at_94) (by decide) (by decide) k9) ?_
          have j209 : ∀ (T41 : State) (L41 : List Loc) (y9 : Int32), Stand p l e room_1 s m #[(.long q1), (.int p2), (.int p3), (.int p4), (.int p5), (.int p6)] below meth c T41 L41 (0 + 1) (0 + 3) → T41.heap = h40 → Fr n0 L41 → (own_B y9 (∀ i, i < 3 → own_w (own_xs p3 p4 p5 p6 i))) → own_Go p e below F T41 (mkF m 209 #[.val (.long q1), .second, .val (.int p2), .val (.int p3), .val (.int p4), .val (.int p5), .val (.int p6), .val (.int (3 : Int32)), .val (.ref b34), .unset, .unset] [(.int y9)]) := by
            intro T41 L41 y9 X41 e41 N41 hy
            refine own_st (T' := T41) (g' := (mkF m 211 #[.val (.long q1), .second, .val (.int p2), .val (.int p3), .val (.int p4), .val (.int p5), .val (.int p6), .val (.int (3 : Int32)), .val (.ref b34), .val (.int y9), .unset] [])) (fun t9 k9 => XS.istore X41.here hx rfl (hb hby at_209) rfl (l' := #[.val (.long q1), .second, .val (.int p2), .val (.int p3), .val (.int p4), .val (.int p5), .val (.int p6), .val (.int (3 : Int32)), .val (.ref b34), .val (.int y9), .unset]) rfl k9) ?_
            obtain ⟨T42, h42, X42, e42, E42, A42, D42, -, st42⟩ := newO X41 hx hZ hown (hw _ (List.mem_of_getElem? (i := 6) rfl)) (hw _ (List.mem_of_getElem? (i := 7) rfl)) (hw _ (List.mem_of_getElem? (i := 8) rfl)) e41 (g := (mkF m 211 #[.val (.long q1), .second, .val (.int p2), .val (.int p3), .val (.int p4), .val (.int p5), .val (.int p6), .val (.int (3 : Int32)), .val (.ref b34), .val (.int y9), .unset] [])) rfl (hb hby at_211) (by decide) (by decide)
            obtain ⟨b42, gb42⟩ : ∃ z, z = h40.size := ⟨_, rfl⟩
            have ne_b34_b42 : b34 ≠ b42 := own_ne gb42 V40.lt
            have g_b42 : n0 ≤ b42 := gb42 ▸ Z40
            have sz_b42 : h0.size ≤ b42 := gb42 ▸ K40.1
            rw [← gb42] at A42 D42 st42
            have V40_43 := V40.ext E42
            have K42 := K40.ext E42
            have Z42 : n0 ≤ h42.size := Nat.le_trans Z40 E42.1
            have F_number_b42 : Fld Z h42 b42 "com/example/stockbook/stockbook/server/JsonLines$Line" "number" "J" (.long (0 : Int64)) := D42 (Or.inr (hw _ (List.mem_of_getElem? (i := 21) rfl))) (ty := .long) (by decide)
            have F_bytes_b42 : Fld Z h42 b42 "com/example/stockbook/stockbook/server/JsonLines$Line" "bytes" "[B" .null := D42 (Or.inr (hw _ (List.mem_of_getElem? (i := 23) rfl))) (ty := (.array .byte)) (by decide)
            refine own_st (T' := T42) (g' := (mkF m 214 #[.val (.long q1), .second, .val (.int p2), .val (.int p3), .val (.int p4), .val (.int p5), .val (.int p6), .val (.int (3 : Int32)), .val (.ref b34), .val (.int y9), .unset] [(.ref b42)])) (fun t9 k9 => st42 t9 k9) ?_
            refine own_st (T' := T42) (g' := (mkF m 215 #[.val (.long q1), .second, .val (.int p2), .val (.int p3), .val (.int p4), .val (.int p5), .val (.int p6), .val (.int (3 : Int32)), .val (.ref b34), .val (.int y9), .unset] [(.ref b42), (.ref b42)])) (fun t9 k9 => XS.dup X42.here hx rfl (hb hby at_214) rfl rfl k9) ?_
            refine own_st (T' := T42) (g' := (mkF m 216 #[.val (.long q1), .second, .val (.int p2), .val (.int p3), .val (.int p4), .val (.int p5), .val (.int p6), .val (.int (3 : Int32)), .val (.ref b34), .val (.int y9), .unset] [(.long q1), (.ref b42), (.ref b42)])) (fun t9 k9 => XS.lloadN X42.here hx rfl (hb hby at_215) rfl k9) ?_
            refine own_st (T' := T42) (g' := (mkF m 218 #[.val (.long q1), .second, .val (.int p2), .val (.int p3), .val (.int p4), .val (.int p5), .val (.int p6), .val (.int (3 : Int32)), .val (.ref b34), .val (.int y9), .unset] [(.ref b34), (.long q1), (.ref b42), (.ref b42)])) (fun t9 k9 => XS.aload X42.here hx rfl (hb hby at_216) rfl rfl k9) ?_
            obtain ⟨_, _, ⟨T44, L44, k44, n44⟩, -, X44, ⟨Lc44, hQ44, l44, y44, z44⟩, st44⟩ := X42.specialBack hx (y := (⟨"com/example/stockbook/stockbook/server/JsonLines$Line", "<init>", "(J[B)V"⟩ : MethodName)) rfl hown (mvT hZ (hw _ (List.mem_of_getElem? (i := 9) rfl))) (mvT hZ (hw _ (List.mem_of_getElem? (i := 10) rfl))) (mvT hZ (hw _ (List.mem_of_getElem? (i := 11) rfl))) (by decide) (own_back (W := 1) (rmIa l Z a0 hw b42 q1 b34 (.long 0) .null h42 n0 Z42 A42 F_number_b42 F_bytes_b42 g_b42) hZ (hw _ (List.mem_of_getElem? (i := 11) rfl)) (hw _ (List.mem_of_getElem? (i := 8) rfl)) (by decide) (by decide)) (g := (mkF m 218 #[.val (.long q1), .second, .val (.int p2), .val (.int p3), .val (.int p4), .val (.int p5), .val (.int p6), .val (.int (3 : Int32)), .val (.ref b34), .val (.int y9), .unset] [(.ref b34), (.long q1), (.ref b42), (.ref b42)])) rfl (by rw [hml]; rfl) (Steps.refl _) (a := b42) (argsL := [(.long q1), (.ref b34)]) (rest := [(.ref b42)]) (lenOf pd_1 rfl) rfl (by show 2 * 0 + _ ≤ _; exact Nat.le_of_eq rfl) (hb hby at_218) (fun _ _ => ⟨rfl, e42, (Nat.le_of_ble_eq_true rfl), (Nat.le_of_ble_eq_true rfl)⟩)
            dsimp only [Pt.U, Pt.locs, Pt.cells, Pt.slots] at X44 l44 y44 z44 st44 hQ44
            subst l44 y44 z44
            obtain ⟨rfl, Nq44, Kq44, Eq44, Fb44⟩ := hQ44
            have N44 := Fr.app N41 Nq44
            obtain ⟨h44, e44⟩ : ∃ z, T44.heap = z := ⟨_, rfl⟩
            rw [e44] at Kq44 Eq44 Fb44
            have V40_45 := V40_43.keep Kq44 (ninS ne_b34_b42 nin0)
            have A42_46 := A42.keep Kq44
            have K44 := K42.trans Kq44 (allS (Or.inr sz_b42) all0)
            have Z44 : n0 ≤ h44.size := Nat.le_trans Z42 Kq44.1
            refine own_st (T' := T44) (g' := (mkF m 221 #[.val (.long q1), .second, .val (.int p2), .val (.int p3), .val (.int p4), .val (.int p5), .val (.int p6), .val (.int (3 : Int32)), .val (.ref b34), .val (.int y9), .unset] [(.ref b42)])) (fun t9 k9 => st44.trans k9) ?_
            refine own_st (T' := T44) (g' := (mkF m 223 #[.val (.long q1), .second, .val (.int p2), .val (.int p3), .val (.int p4), .val (.int p5), .val (.int p6), .val (.int (3 : Int32)), .val (.ref b34), .val (.int y9), .val (.ref b42)] [])) (fun t9 k9 => XS.astore X44.here hx rfl (hb hby at_221) rfl rfl (l' := #[.val (.long q1), .second, .val (.int p2), .val (.int p3), .val (.int p4), .val (.int p5), .val (.int p6), .val (.int (3 : Int32)), .val (.ref b34), .val (.int y9), .val (.ref b42)]) rfl k9) ?_
            refine own_st (T' := T44) (g' := (mkF m 225 #[.val (.long q1), .second, .val (.int p2), .val (.int p3), .val (.int p4), .val (.int p5), .val (.int p6), .val (.int (3 : Int32)), .val (.ref b34), .val (.int y9), .val (.ref b42)] [(.ref b42)])) (fun t9 k9 => XS.aload X44.here hx rfl (hb hby at_223) rfl rfl k9) ?_
            obtain ⟨cq47, kq47, qa47, qb47, qc47⟩ := isOf hZ e44 A42_46
            obtain ⟨_, _, ⟨T47, L47, k47, n47⟩, -, X47, ⟨Lc47, hQ47, l47, y47, z47⟩, st47⟩ := X44.virtualBack hx (y := (⟨"com/example/stockbook/stockbook/server/JsonLines$Line", "isBlank", "()Z"⟩ : MethodName)) (z := (⟨"com/example/stockbook/stockbook/server/JsonLines$Line", "isBlank", "()Z"⟩ : MethodName)) hown (mvT hZ (hw _ (List.mem_of_getElem? (i := 24) rfl))) (mvT hZ (hw _ (List.mem_of_getElem? (i := 25) rfl))) (notFace_of_selects (args := #[]) (mvT hZ (hw _ (List.mem_of_getElem? (i := 27) rfl)))) (mvT hZ (hw _ (List.mem_of_getElem? (i := 27) rfl))) (mvT hZ (hw _ (List.mem_of_getElem? (i := 26) rfl))) (by decide) (own_back (W := 0) (rmBa l Z a0 hw b42 b34 k34 (3 : Int32) _ (own_xs p3 p4 p5 p6) 3 h44 n0 Z44 Fb44 (by decide) (by decide) V40_45 (fun i hi => by
                  match i, hi with
                  | 0, _ => exact congrArg Value.int (own_bb _)
                  | 1, _ => exact congrArg Value.int (own_bb _)
                  | 2, _ => exact congrArg Value.int (own_bb _))) hZ (hw _ (List.mem_of_getElem? (i := 28) rfl)) (hw _ (List.mem_of_getElem? (i := 8) rfl)) (by decide) (by decide)) qa47 qc47 (g := (mkF m 225 #[.val (.long q1), .second, .val (.int p2), .val (.int p3), .val (.int p4), .val (.int p5), .val (.int p6), .val (.int (3 : Int32)), .val (.ref b34), .val (.int y9), .val (.ref b42)] [(.ref b42)])) rfl (by rw [hml]; rfl) (Steps.refl _) (argsL := []) (rest := []) (lenOf pd_3 rfl) rfl (by show 2 * 0 + _ ≤ _; exact Nat.le_of_eq rfl) (hb hby at_225) (fun _ _ => ⟨rfl, e44, (Nat.le_of_ble_eq_true rfl), (Nat.le_of_ble_eq_true rfl)⟩)
            dsimp only [Pt.U, Pt.locs, Pt.cells, Pt.slots] at X47 l47 y47 z47 st47 hQ47
            subst l47 y47 z47
            obtain ⟨z47, rfl, Nq47, he47, hB47⟩ := hQ47
            have N47 := Fr.app N44 Nq47
            have e47 : T47.heap = h44 := he47
            refine own_st (T' := T47) (g' := (mkF m 228 #[.val (.long q1), .second, .val (.int p2), .val (.int p3), .val (.int p4), .val (.int p5), .val (.int p6), .val (.int (3 : Int32)), .val (.ref b34), .val (.int y9), .val (.ref b42)] [(.int z47)])) (fun t9 k9 => st47.trans k9) ?_
            refine own_st (T' := T47) (g' := (mkF m 230 #[.val (.long q1), .second, .val (.int p2), .val (.int p3), .val (.int p4), .val (.int p5), .val (.int p6), .val (.int (3 : Int32)), .val (.ref b34), .val (.int y9), .val (.ref b42)] [(.int y9), (.int z47)])) (fun t9 k9 => XS.iload X47.here hx rfl (hb hby at_228) rfl k9) ?_
            refine own_st (T' := T47) (g' := (mkF m 233 #[.val (.long q1), .second, .val (.int p2), .val (.int p3), .val (.int p4), .val (.int p5), .val (.int p6), .val (.int (3 : Int32)), .val (.ref b34), .val (.int y9), .val (.ref b42)] [])) (fun t9 k9 => XS.icmpNo X47.here hx rfl (hb hby at_230) rfl (teq (own_B.eq hB47 hy Iff.rfl)).2 k9) ?_
            refine own_st (T' := T47) (g' := (mkF m 234 #[.val (.long q1), .second, .val (.int p2), .val (.int p3), .val (.int p4), .val (.int p5), .val (.int p6), .val (.int (3 : Int32)), .val (.ref b34), .val (.int y9), .val (.ref b42)] [(.int (1 : Int32))])) (fun t9 k9 => XS.iconst X47.here hx rfl (hb hby at_233) k9) ?_
            refine own_st (T' := T47) (g' := (mkF m 238 #[.val (.long q1), .second, .val (.int p2), .val (.int p3), .val (.int p4), .val (.int p5), .val (.int p6), .val (.int (3 : Int32)), .val (.ref b34), .val (.int y9), .val (.ref b42)] [(.int (1 : Int32))])) (fun t9 k9 => XS.goto X47.here hx rfl (pc0 := 234) (pc' := 238) rfl (hb hby at_234) (by decide) (by decide) k9) ?_
            refine own_ret (v := some (.int (1 : Int32))) hF X47 (own_some hret) hlk (fun fs hr => retN X47 hx (t := .boolean) hret (by simp) (hb hby at_238) hr) ?_ (by decide) (by decide)
            try rw [e47]
            exact ⟨rfl, N47⟩
          refine own_st (T' := T40) (g' := (mkF m 139 #[.val (.long q1), .second, .val (.int p2), .val (.int p3), .val (.int p4), .val (.int p5), .val (.int p6), .val (.int (3 : Int32)), .val (.ref b34), .unset, .unset] [(.int (3 : Int32))])) (fun t9 k9 => XS.iload X40.here hx rfl (hb hby at_137) rfl k9) ?_
          refine own_st (T' := T40) (g' := (mkF m 140 #[.val (.long q1), .second, .val (.int p2), .val (.int p3), .val (.int p4), .val (.int p5), .val (.int p6), .val (.int (3 : Int32)), .val (.ref b34), .unset, .unset] [(.int (5 : Int32)), (.int (3 : Int32))])) (fun t9 k9 => XS.iconst X40.here hx rfl (hb hby at_139) k9) ?_
          refine own_st (T' := T40) (g' := (mkF m 149 #[.val (.long q1), .second, .val (.int p2), .val (.int p3), .val (.int p4), .val (.int p5), .val (.int p6), .val (.int (3 : Int32)), .val (.ref b34), .unset, .unset] [])) (fun t9 k9 => XS.icmpYes X40.here hx rfl (pc0 := 140) (pc' := 149) rfl (hb hby at_140) rfl (feq (by decide)).2 (by decide) (by decide) k9) ?_
          refine own_st (T' := T40) (g' := (mkF m 151 #[.val (.long q1), .second, .val (.int p2), .val (.int p3), .val (.int p4), .val (.int p5), .val (.int p6), .val (.int (3 : Int32)), .val (.ref b34), .unset, .unset] [(.int (3 : Int32))])) (fun t9 k9 => XS.iload X40.here hx rfl (hb hby at_149) rfl k9) ?_
          refine own_st (T' := T40) (g' := (mkF m 152 #[.val (.long q1), .second, .val (.int p2), .val (.int p3), .val (.int p4), .val (.int p5), .val (.int p6), .val (.int (3 : Int32)), .val (.ref b34), .unset, .unset] [(.int (1 : Int32)), (.int (3 : Int32))])) (fun t9 k9 => XS.iconst X40.here hx rfl (hb hby at_151) k9) ?_
          refine own_st (T' := T40) (g' := (mkF m 155 #[.val (.long q1), .second, .val (.int p2), .val (.int p3), .val (.int p4), .val (.int p5), .val (.int p6), .val (.int (3 : Int32)), .val (.ref b34), .unset, .unset] [])) (fun t9 k9 => XS.icmpNo X40.here hx rfl (hb hby at_152) rfl (flt (by decide)).1 k9) ?_
          refine own_st (T' := T40) (g' := (mkF m 156 #[.val (.long q1), .second, .val (.int p2), .val (.int p3), .val (.int p4), .val (.int p5), .val (.int p6), .val (.int (3 : Int32)), .val (.ref b34), .unset, .unset] [(.int p3)])) (fun t9 k9 => XS.iloadN X40.here hx rfl (hb hby at_155) rfl k9) ?_
          obtain ⟨_, _, ⟨T48, L48, k48, n48⟩, -, X48, ⟨Lc48, hQ48, l48, y48, z48⟩, st48⟩ := Jvm.LawKit.callS X40 hx (y := (⟨"com/example/stockbook/stockbook/server/LineIsBlankPinLaw", "ws", "(I)Z"⟩ : MethodName)) hown (mvT hZ (hw _ (List.mem_of_getElem? (i := 2) rfl))) (mvT hZ (hw _ (List.mem_of_getElem? (i := 3) rfl))) (mvT hZ (hw _ (List.mem_of_getElem? (i := 4) rfl))) (mvT hZ (hw _ (List.mem_of_getElem? (i := 5) rfl))) (by decide) (own_back (W := 0) (rm1 l Z a0 hw p3 h40 n0 Z40) hZ (hw _ (List.mem_of_getElem? (i := 5) rfl)) (hw _ (List.mem_of_getElem? (i := 4) rfl)) (by decide) (by decide)) (g := (mkF m 156 #[.val (.long q1), .second, .val (.int p2), .val (.int p3), .val (.int p4), .val (.int p5), .val (.int p6), .val (.int (3 : Int32)), .val (.ref b34), .unset, .unset] [(.int p3)])) rfl (by rw [hml]; rfl) (argsL := [(.int p3)]) (rest := []) (lenOf pd_0 rfl) rfl (by show 2 * 0 + _ ≤ _; exact Nat.le_of_eq rfl) (hb hby at_156) (fun _ _ => ⟨rfl, e40, (Nat.le_of_ble_eq_true rfl), (Nat.le_of_ble_eq_true rfl)⟩)
          dsimp only [Pt.U, Pt.locs, Pt.cells, Pt.slots] at X48 l48 y48 z48 st48 hQ48
          subst l48 y48 z48
          obtain ⟨z48, rfl, Nq48, he48, hB48⟩ := hQ48
          have N48 := Fr.app N40 Nq48
          have e48 : T48.heap = h40 := he48
          refine own_st (T' := T48) (g' := (mkF m 159 #[.val (.long q1), .second, .val (.int p2), .val (.int p3), .val (.int p4), .val (.int p5), .val (.int p6), .val (.int (3 : Int32)), .val (.ref b34), .unset, .unset] [(.int z48)])) (fun t9 k9 => st48 t9 k9) ?_
          by_cases hz0 : z48 = (0 : Int32)
          · refine own_st (T' := T48) (g' := (mkF m 208 #[.val (.long q1), .second, .val (.int p2), .val (.int p3), .val (.int p4), .val (.int p5), .val (.int p6), .val (.int (3 : Int32)), .val (.ref b34), .unset, .unset] [])) (fun t9 k9 => XS.ifYes X48.here hx rfl (pc0 := 159) (pc' := 208) rfl (hb hby at_159) rfl ((if0 _ _).trans (teq hz0).1) (by decide) (by decide) k9) ?_
            refine own_st (T' := T48) (g' := (mkF m 209 #[.val (.long q1), .second, .val (.int p2), .val (.int p3), .val (.int p4), .val (.int p5), .val (.int p6), .val (.int (3 : Int32)), .val (.ref b34), .unset, .unset] [(.int (0 : Int32))])) (fun t9 k9 => XS.iconst X48.here hx rfl (hb hby at_208) k9) ?_
            exact j209 _ _ _ X48 e48 N48 (Or.inr ⟨rfl, fun q => (hB48.no hz0) (q 0 (by decide))⟩)
          · refine own_st (T' := T48) (g' := (mkF m 162 #[.val (.long q1), .second, .val (.int p2), .val (.int p3), .val (.int p4), .val (.int p5), .val (.int p6), .val (.int (3 : Int32)), .val (.ref b34), .unset, .unset] [])) (fun t9 k9 => XS.ifNo X48.here hx rfl (hb hby at_159) rfl ((if0 _ _).trans (feq hz0).1) k9) ?_
            refine own_st (T' := T48) (g' := (mkF m 164 #[.val (.long q1), .second, .val (.int p2), .val (.int p3), .val (.int p4), .val (.int p5), .val (.int p6), .val (.int (3 : Int32)), .val (.ref b34), .unset, .unset] [(.int (3 : Int32))])) (fun t9 k9 => XS.iload X48.here hx rfl (hb hby at_162) rfl k9) ?_
            refine own_st (T' := T48) (g' := (mkF m 165 #[.val (.long q1), .second, .val (.int p2), .val (.int p3), .val (.int p4), .val (.int p5), .val (.int p6), .val (.int (3 : Int32)), .val (.ref b34), .unset, .unset] [(.int (2 : Int32)), (.int (3 : Int32))])) (fun t9 k9 => XS.iconst X48.here hx rfl (hb hby at_164) k9) ?_
            refine own_st (T' := T48) (g' := (mkF m 168 #[.val (.long q1), .second, .val (.int p2), .val (.int p3), .val (.int p4), .val (.int p5), .val (.int p6), .val (.int (3 : Int32)), .val (.ref b34), .unset, .unset] [])) (fun t9 k9 => XS.icmpNo X48.here hx rfl (hb hby at_165) rfl (flt (by decide)).1 k9) ?_
            refine own_st (T' := T48) (g' := (mkF m 170 #[.val (.long q1), .second, .val (.int p2), .val (.int p3), .val (.int p4), .val (.int p5), .val (.int p6), .val (.int (3 : Int32)), .val (.ref b34), .unset, .unset] [(.int p4)])) (fun t9 k9 => XS.iload X48.here hx rfl (hb hby at_168) rfl k9) ?_
            obtain ⟨_, _, ⟨T49, L49, k49, n49⟩, -, X49, ⟨Lc49, hQ49, l49, y49, z49⟩, st49⟩ := Jvm.LawKit.callS X48 hx (y := (⟨"com/example/stockbook/stockbook/server/LineIsBlankPinLaw", "ws", "(I)Z"⟩ : MethodName)) hown (mvT hZ (hw _ (List.mem_of_getElem? (i := 2) rfl))) (mvT hZ (hw _ (List.mem_of_getElem? (i := 3) rfl))) (mvT hZ (hw _ (List.mem_of_getElem? (i := 4) rfl))) (mvT hZ (hw _ (List.mem_of_getElem? (i := 5) rfl))) (by decide) (own_back (W := 0) (rm1 l Z a0 hw p4 h40 n0 Z40) hZ (hw _ (List.mem_of_getElem? (i := 5) rfl)) (hw _ (List.mem_of_getElem? (i := 4) rfl)) (by decide) (by decide)) (g := (mkF m 170 #[.val (.long q1), .second, .val (.int p2), .val (.int p3), .val (.int p4), .val (.int p5), .val (.int p6), .val (.int (3 : Int32)), .val (.ref b34), .unset, .unset] [(.int p4)])) rfl (by rw [hml]; rfl) (argsL := [(.int p4)]) (rest := []) (lenOf pd_0 rfl) rfl (by show 2 * 0 + _ ≤ _; exact Nat.le_of_eq rfl) (hb hby at_170) (fun _ _ => ⟨rfl, e48, (Nat.le_of_ble_eq_true rfl), (Nat.le_of_ble_eq_true rfl)⟩)
            dsimp only [Pt.U, Pt.locs, Pt.cells, Pt.slots] at X49 l49 y49 z49 st49 hQ49
            subst l49 y49 z49
            obtain ⟨z49, rfl, Nq49, he49, hB49⟩ := hQ49
            have N49 := Fr.app N48 Nq49
            have e49 : T49.heap = h40 := he49
            refine own_st (T' := T49) (g' := (mkF m 173 #[.val (.long q1), .second, .val (.int p2), .val (.int p3), .val (.int p4), .val (.int p5), .val (.int p6), .val (.int (3 : Int32)), .val (.ref b34), .unset, .unset] [(.int z49)])) (fun t9 k9 => st49 t9 k9) ?_
            by_cases hz1 : z49 = (0 : Int32)
            · refine own_st (T' := T49) (g' := (mkF m 208 #[.val (.long q1), .second, .val (.int p2), .val (.int p3), .val (.int p4), .val (.int p5), .val (.int p6), .val (.int (3 : Int32)), .val (.ref b34), .unset, .unset] [])) (fun t9 k9 => XS.ifYes X49.here hx rfl (pc0 := 173) (pc' := 208) rfl (hb hby at_173) rfl ((if0 _ _).trans (teq hz1).1) (by decide) (by decide) k9) ?_
              refine own_st (T' := T49) (g' := (mkF m 209 #[.val (.long q1), .second, .val (.int p2), .val (.int p3), .val (.int p4), .val (.int p5), .val (.int p6), .val (.int (3 : Int32)), .val (.ref b34), .unset, .unset] [(.int (0 : Int32))])) (fun t9 k9 => XS.iconst X49.here hx rfl (hb hby at_208) k9) ?_
              exact j209 _ _ _ X49 e49 N49 (Or.inr ⟨rfl, fun q => (hB49.no hz1) (q 1 (by decide))⟩)
            · refine own_st (T' := T49) (g' := (mkF m 176 #[.val (.long q1), .second, .val (.int p2), .val (.int p3), .val (.int p4), .val (.int p5), .val (.int p6), .val (.int (3 : Int32)), .val (.ref b34), .unset, .unset] [])) (fun t9 k9 => XS.ifNo X49.here hx rfl (hb hby at_173) rfl ((if0 _ _).trans (feq hz1).1) k9) ?_
              refine own_st (T' := T49) (g' := (mkF m 178 #[.val (.long q1), .second, .val (.int p2), .val (.int p3), .val (.int p4), .val (.int p5), .val (.int p6), .val (.int (3 : Int32)), .val (.ref b34), .unset, .unset] [(.int (3 : Int32))])) (fun t9 k9 => XS.iload X49.here hx rfl (hb hby at_176) rfl k9) ?_
              refine own_st (T' := T49) (g' := (mkF m 179 #[.val (.long q1), .second, .val (.int p2), .val (.int p3), .val (.int p4), .val (.int p5), .val (.int p6), .val (.int (3 : Int32)), .val (.ref b34), .unset, .unset] [(.int (3 : Int32)), (.int (3 : Int32))])) (fun t9 k9 => XS.iconst X49.here hx rfl (hb hby at_178) k9) ?_
              refine own_st (T' := T49) (g' := (mkF m 182 #[.val (.long q1), .second, .val (.int p2), .val (.int p3), .val (.int p4), .val (.int p5), .val (.int p6), .val (.int (3 : Int32)), .val (.ref b34), .unset, .unset] [])) (fun t9 k9 => XS.icmpNo X49.here hx rfl (hb hby at_179) rfl (flt (by decide)).1 k9) ?_
              refine own_st (T' := T49) (g' := (mkF m 184 #[.val (.long q1), .second, .val (.int p2), .val (.int p3), .val (.int p4), .val (.int p5), .val (.int p6), .val (.int (3 : Int32)), .val (.ref b34), .unset, .unset] [(.int p5)])) (fun t9 k9 => XS.iload X49.here hx rfl (hb hby at_182) rfl k9) ?_
              obtain ⟨_, _, ⟨T50, L50, k50, n50⟩, -, X50, ⟨Lc50, hQ50, l50, y50, z50⟩, st50⟩ := Jvm.LawKit.callS X49 hx (y := (⟨"com/example/stockbook/stockbook/server/LineIsBlankPinLaw", "ws", "(I)Z"⟩ : MethodName)) hown (mvT hZ (hw _ (List.mem_of_getElem? (i := 2) rfl))) (mvT hZ (hw _ (List.mem_of_getElem? (i := 3) rfl))) (mvT hZ (hw _ (List.mem_of_getElem? (i := 4) rfl))) (mvT hZ (hw _ (List.mem_of_getElem? (i := 5) rfl))) (by decide) (own_back (W := 0) (rm1 l Z a0 hw p5 h40 n0 Z40) hZ (hw _ (List.mem_of_getElem? (i := 5) rfl)) (hw _ (List.mem_of_getElem? (i := 4) rfl)) (by decide) (by decide)) (g := (mkF m 184 #[.val (.long q1), .second, .val (.int p2), .val (.int p3), .val (.int p4), .val (.int p5), .val (.int p6), .val (.int (3 : Int32)), .val (.ref b34), .unset, .unset] [(.int p5)])) rfl (by rw [hml]; rfl) (argsL := [(.int p5)]) (rest := []) (lenOf pd_0 rfl) rfl (by show 2 * 0 + _ ≤ _; exact Nat.le_of_eq rfl) (hb hby at_184) (fun _ _ => ⟨rfl, e49, (Nat.le_of_ble_eq_true rfl), (Nat.le_of_ble_eq_true rfl)⟩)
              dsimp only [Pt.U, Pt.locs, Pt.cells, Pt.slots] at X50 l50 y50 z50 st50 hQ50
              subst l50 y50 z50
              obtain ⟨z50, rfl, Nq50, he50, hB50⟩ := hQ50
              have N50 := Fr.app N49 Nq50
              have e50 : T50.heap = h40 := he50
              refine own_st (T' := T50) (g' := (mkF m 187 #[.val (.long q1), .second, .val (.int p2), .val (.int p3), .val (.int p4), .val (.int p5), .val (.int p6), .val (.int (3 : Int32)), .val (.ref b34), .unset, .unset] [(.int z50)])) (fun t9 k9 => st50 t9 k9) ?_
              by_cases hz2 : z50 = (0 : Int32)
              · refine own_st (T' := T50) (g' := (mkF m 208 #[.val (.long q1), .second, .val (.int p2), .val (.int p3), .val (.int p4), .val (.int p5), .val (.int p6), .val (.int (3 : Int32)), .val (.ref b34), .unset, .unset] [])) (fun t9 k9 => XS.ifYes X50.here hx rfl (pc0 := 187) (pc' := 208) rfl (hb hby at_187) rfl ((if0 _ _).trans (teq hz2).1) (by decide) (by decide) k9) ?_
                refine own_st (T' := T50) (g' := (mkF m 209 #[.val (.long q1), .second, .val (.int p2), .val (.int p3), .val (.int p4), .val (.int p5), .val (.int p6), .val (.int (3 : Int32)), .val (.ref b34), .unset, .unset] [(.int (0 : Int32))])) (fun t9 k9 => XS.iconst X50.here hx rfl (hb hby at_208) k9) ?_
                exact j209 _ _ _ X50 e50 N50 (Or.inr ⟨rfl, fun q => (hB50.no hz2) (q 2 (by decide))⟩)
              · refine own_st (T' := T50) (g' := (mkF m 190 #[.val (.long q1), .second, .val (.int p2), .val (.int p3), .val (.int p4), .val (.int p5), .val (.int p6), .val (.int (3 : Int32)), .val (.ref b34), .unset, .unset] [])) (fun t9 k9 => XS.ifNo X50.here hx rfl (hb hby at_187) rfl ((if0 _ _).trans (feq hz2).1) k9) ?_
                refine own_st (T' := T50) (g' := (mkF m 192 #[.val (.long q1), .second, .val (.int p2), .val (.int p3), .val (.int p4), .val (.int p5), .val (.int p6), .val (.int (3 : Int32)), .val (.ref b34), .unset, .unset] [(.int (3 : Int32))])) (fun t9 k9 => XS.iload X50.here hx rfl (hb hby at_190) rfl k9) ?_
                refine own_st (T' := T50) (g' := (mkF m 193 #[.val (.long q1), .second, .val (.int p2), .val (.int p3), .val (.int p4), .val (.int p5), .val (.int p6), .val (.int (3 : Int32)), .val (.ref b34), .unset, .unset] [(.int (4 : Int32)), (.int (3 : Int32))])) (fun t9 k9 => XS.iconst X50.here hx rfl (hb hby at_192) k9) ?_
                refine own_st (T' := T50) (g' := (mkF m 204 #[.val (.long q1), .second, .val (.int p2), .val (.int p3), .val (.int p4), .val (.int p5), .val (.int p6), .val (.int (3 : Int32)), .val (.ref b34), .unset, .unset] [])) (fun t9 k9 => XS.icmpYes X50.here hx rfl (pc0 := 193) (pc' := 204) rfl (hb hby at_193) rfl (tlt (by decide)).1 (by decide) (by decide) k9) ?_
                refine own_st (T' := T50) (g' := (mkF m 205 #[.val (.long q1), .second, .val (.int p2), .val (.int p3), .val (.int p4), .val (.int p5), .val (.int p6), .val (.int (3 : Int32)), .val (.ref b34), .unset, .unset] [(.int (1 : Int32))])) (fun t9 k9 => XS.iconst X50.here hx rfl (hb hby at_204) k9) ?_
                refine own_st (T' := T50) (g' := (mkF m 209 #[.val (.long q1), .second, .val (.int p2), .val (.int p3), .val (.int p4), .val (.int p5), .val (.int p6), .val (.int (3 : Int32)), .val (.ref b34), .unset, .unset] [(.int (1 : Int32))])) (fun t9 k9 => XS.goto X50.here hx rfl (pc0 := 205) (pc' := 209) rfl (hb hby at_205) (by decide) (by decide) k9) ?_
                exact j209 _ _ _ X50 e50 N50 (Or.inl ⟨rfl, (fun i hi => by
                      match i, hi with
                      | 0, _ => exact hB48.yes hz0
                      | 1, _ => exact hB49.yes hz1
                      | 2, _ => exact hB50.yes hz2)⟩)
        · refine own_st (T' := T0) (g' := (mkF m 97 #[.val (.long q1), .second, .val (.int p2), .val (.int p3), .val (.int p4), .val (.int p5), .val (.int p6), .val (.int kk), .unset, .unset, .unset] [])) (fun t9 k9 => XS.icmpYes X0.here hx rfl (pc0 := 69) (pc' := 97) rfl (hb hby at_69) rfl (feq hk3).2 (by decide) (by decide) k9) ?_
          refine own_st (T' := T0) (g' := (mkF m 99 #[.val (.long q1), .second, .val (.int p2), .val (.int p3), .val (.int p4), .val (.int p5), .val (.int p6), .val (.int kk), .unset, .unset, .unset] [(.int kk)])) (fun t9 k9 => XS.iload X0.here hx rfl (hb hby at_97) rfl k9) ?_
          refine own_st (T' := T0) (g' := (mkF m 100 #[.val (.long q1), .second, .val (.int p2), .val (.int p3), .val (.int p4), .val (.int p5), .val (.int p6), .val (.int kk), .unset, .unset, .unset] [(.int (4 : Int32)), (.int kk)])) (fun t9 k9 => XS.iconst X0.here hx rfl (hb hby at_99) k9) ?_
          by_cases hk4 : kk = (4 : Int32)
          · refine own_st (T' := T0) (g' := (mkF m 103 #[.val (.long q1), .second, .val (.int p2), .val (.int p3), .val (.int p4), .val (.int p5), .val (.int p6), .val (.int kk), .unset, .unset, .unset] [])) (fun t9 k9 => XS.icmpNo X0.here hx rfl (hb hby at_100) rfl (teq hk4).2 k9) ?_
            subst hk4
            show own_Go p e below F T0 (mkF m 103 #[.val (.long q1), .second, .val (.int p2), .val (.int p3), .val (.int p4), .val (.int p5), .val (.int p6), .val (.int (4 : Int32)), .unset, .unset, .unset] [])
            refine own_st (T' := T0) (g' := (mkF m 104 #[.val (.long q1), .second, .val (.int p2), .val (.int p3), .val (.int p4), .val (.int p5), .val (.int p6), .val (.int (4 : Int32)), .unset, .unset, .unset] [(.int (4 : Int32))])) (fun t9 k9 => XS.iconst X0.here hx rfl (hb hby at_103) k9) ?_
            obtain ⟨T51, h51, k51, X51, e51, E51, A51, st51⟩ := newP X0 hx hZ (hw _ (List.mem_of_getElem? (i := 1) rfl)) e0 (g := (mkF m 104 #[.val (.long q1), .second, .val (.int p2), .val (.int p3), .val (.int p4), .val (.int p5), .val (.int p6), .val (.int (4 : Int32)), .unset, .unset, .unset] [(.int (4 : Int32))])) rfl (hb hby at_104) rfl (by decide) (cap := 4) (by decide) (by decide) (by decide) (by decide)
            obtain ⟨b51, gb51⟩ : ∃ z, z = h0.size := ⟨_, rfl⟩
            have g_b51 : n0 ≤ b51 := gb51 ▸ Z0
            have sz_b51 : h0.size ≤ b51 := gb51 ▸ K0.1
            rw [← gb51] at A51 st51
            have K51 := K0.ext E51
            have Z51 : n0 ≤ h51.size := Nat.le_trans Z0 E51.1
            have V_b51 : Arv Z h51 b51 k51 .byte (4 : Int32) [(.int (0 : Int32)), (.int (0 : Int32)), (.int (0 : Int32)), (.int (0 : Int32))] (.int (0 : Int32)) := (Arv.new A51 (by decide)).pad (pad_rep [] (.int (0 : Int32)) 4)
            refine own_st (T' := T51) (g' := (mkF m 106 #[.val (.long q1), .second, .val (.int p2), .val (.int p3), .val (.int p4), .val (.int p5), .val (.int p6), .val (.int (4 : Int32)), .unset, .unset, .unset] [(.ref b51)])) (fun t9 k9 => st51 t9 k9) ?_
            refine own_st (T' := T51) (g' := (mkF m 107 #[.val (.long q1), .second, .val (.int p2), .val (.int p3), .val (.int p4), .val (.int p5), .val (.int p6), .val (.int (4 : Int32)), .unset, .unset, .unset] [(.ref b51), (.ref b51)])) (fun t9 k9 => XS.dup X51.here hx rfl (hb hby at_106) rfl rfl k9) ?_
            refine own_st (T' := T51) (g' := (mkF m 108 #[.val (.long q1), .second, .val (.int p2), .val (.int p3), .val (.int p4), .val (.int p5), .val (.int p6), .val (.int (4 : Int32)), .unset, .unset, .unset] [(.int (0 : Int32)), (.ref b51), (.ref b51)])) (fun t9 k9 => XS.iconst X51.here hx rfl (hb hby at_107) k9) ?_
            refine own_st (T' := T51) (g' := (mkF m 109 #[.val (.long q1), .second, .val (.int p2), .val (.int p3), .val (.int p4), .val (.int p5), .val (.int p6), .val (.int (4 : Int32)), .unset, .unset, .unset] [(.int p3), (.int (0 : Int32)), (.ref b51), (.ref b51)])) (fun t9 k9 => XS.iloadN X51.here hx rfl (hb hby at_108) rfl k9) ?_
            refine own_st (T' := T51) (g' := (mkF m 110 #[.val (.long q1), .second, .val (.int p2), .val (.int p3), .val (.int p4), .val (.int p5), .val (.int p6), .val (.int (4 : Int32)), .unset, .unset, .unset] [(.int (p3.toInt8.toInt32)), (.int (0 : Int32)), (.ref b51), (.ref b51)])) (fun t9 k9 => XS.i2b X51.here hx rfl (hb hby at_109) rfl k9) ?_
            obtain ⟨clu52, Aru52, qu52, Su52, Nu52, Hu52, Gu52⟩ := (id V_b51)
            obtain ⟨T53, h53, X53, e53, W53, st53⟩ := stB X51 hx hZ e51 Aru52 (j := (0 : Int32)) (inb_of Su52 ⟨by decide, by decide⟩) (g := (mkF m 110 #[.val (.long q1), .second, .val (.int p2), .val (.int p3), .val (.int p4), .val (.int p5), .val (.int p6), .val (.int (4 : Int32)), .unset, .unset, .unset] [(.int (p3.toInt8.toInt32)), (.int (0 : Int32)), (.ref b51), (.ref b51)])) rfl rfl (hb hby at_110)
            have V53 := Arv.set Aru52 qu52 Su52 Nu52 Hu52 Gu52 (fits_nar_byte _) W53 0 rfl (Nat.le_of_ble_eq_true rfl)
            have K53 := K51.wr W53 (Or.inr sz_b51)
            have N53 := Fr.snoc X53 N0 g_b51
            have Z53 : n0 ≤ h53.size := by rw [W53.size]; exact Z51
            refine own_st (T' := T53) (g' := (mkF m 111 #[.val (.long q1), .second, .val (.int p2), .val (.int p3), .val (.int p4), .val (.int p5), .val (.int p6), .val (.int (4 : Int32)), .unset, .unset, .unset] [(.ref b51)])) (fun t9 k9 => st53 t9 k9) ?_
            refine own_st (T' := T53) (g' := (mkF m 112 #[.val (.long q1), .second, .val (.int p2), .val (.int p3), .val (.int p4), .val (.int p5), .val (.int p6), .val (.int (4 : Int32)), .unset, .unset, .unset] [(.ref b51), (.ref b51)])) (fun t9 k9 => XS.dup X53.here hx rfl (hb hby at_111) rfl rfl k9) ?_
            refine own_st (T' := T53) (g' := (mkF m 113 #[.val (.long q1), .second, .val (.int p2), .val (.int p3), .val (.int p4), .val (.int p5), .val (.int p6), .val (.int (4 : Int32)), .unset, .unset, .unset] [(.int (1 : Int32)), (.ref b51), (.ref b51)])) (fun t9 k9 => XS.iconst X53.here hx rfl (hb hby at_112) k9) ?_
            refine own_st (T' := T53) (g' := (mkF m 115 #[.val (.long q1), .second, .val (.int p2), .val (.int p3), .val (.int p4), .val (.int p5), .val (.int p6), .val (.int (4 : Int32)), .unset, .unset, .unset] [(.int p4), (.int (1 : Int32)), (.ref b51), (.ref b51)])) (fun t9 k9 => XS.iload X53.here hx rfl (hb hby at_113) rfl k9) ?_
            refine own_st (T' := T53) (g' := (mkF m 116 #[.val (.long q1), .second, .val (.int p2), .val (.int p3), .val (.int p4), .val (.int p5), .val (.int p6), .val (.int (4 : Int32)), .unset, .unset, .unset] [(.int (p4.toInt8.toInt32)), (.int (1 : Int32)), (.ref b51), (.ref b51)])) (fun t9 k9 => XS.i2b X53.here hx rfl (hb hby at_115) rfl k9) ?_
            obtain ⟨clu54, Aru54, qu54, Su54, Nu54, Hu54, Gu54⟩ := (id V53)
            obtain ⟨T55, h55, X55, e55, W55, st55⟩ := stB X53 hx hZ e53 Aru54 (j := (1 : Int32)) (inb_of Su54 ⟨by decide, by decide⟩) (g := (mkF m 116 #[.val (.long q1), .second, .val (.int p2), .val (.int p3), .val (.int p4), .val (.int p5), .val (.int p6), .val (.int (4 : Int32)), .unset, .unset, .unset] [(.int (p4.toInt8.toInt32)), (.int (1 : Int32)), (.ref b51), (.ref b51)])) rfl rfl (hb hby at_116)
            have V55 := Arv.set Aru54 qu54 Su54 Nu54 Hu54 Gu54 (fits_nar_byte _) W55 1 rfl (Nat.le_of_ble_eq_true rfl)
            have K55 := K53.wr W55 (Or.inr sz_b51)
            have N55 := Fr.snoc X55 N53 g_b51
            have Z55 : n0 ≤ h55.size := by rw [W55.size]; exact Z53
            refine own_st (T' := T55) (g' := (mkF m 117 #[.val (.long q1), .second, .val (.int p2), .val (.int p3), .val (.int p4), .val (.int p5), .val (.int p6), .val (.int (4 : Int32)), .unset, .unset, .unset] [(.ref b51)])) (fun t9 k9 => st55 t9 k9) ?_
            refine own_st (T' := T55) (g' := (mkF m 118 #[.val (.long q1), .second, .val (.int p2), .val (.int p3), .val (.int p4), .val (.int p5), .val (.int p6), .val (.int (4 : Int32)), .unset, .unset, .unset] [(.ref b51), (.ref b51)])) (fun t9 k9 => XS.dup X55.here hx rfl (hb hby at_117) rfl rfl k9) ?_
            refine own_st (T' := T55) (g' := (mkF m 119 #[.val (.long q1), .second, .val (.int p2), .val (.int p3), .val (.int p4), .val (.int p5), .val (.int p6), .val (.int (4 : Int32)), .unset, .unset, .unset] [(.int (2 : Int32)), (.ref b51), (.ref b51)])) (fun t9 k9 => XS.iconst X55.here hx rfl (hb hby at_118) k9) ?_
            refine own_st (T' := T55) (g' := (mkF m 121 #[.val (.long q1), .second, .val (.int p2), .val (.int p3), .val (.int p4), .val (.int p5), .val (.int p6), .val (.int (4 : Int32)), .unset, .unset, .unset] [(.int p5), (.int (2 : Int32)), (.ref b51), (.ref b51)])) (fun t9 k9 => XS.iload X55.here hx rfl (hb hby at_119) rfl k9) ?_
            refine own_st (T' := T55) (g' := (mkF m 122 #[.val (.long q1), .second, .val (.int p2), .val (.int p3), .val (.int p4), .val (.int p5), .val (.int p6), .val (.int (4 : Int32)), .unset, .unset, .unset] [(.int (p5.toInt8.toInt32)), (.int (2 : Int32)), (.ref b51), (.ref b51)])) (fun t9 k9 => XS.i2b X55.here hx rfl (hb hby at_121) rfl k9) ?_
            obtain ⟨clu56, Aru56, qu56, Su56, Nu56, Hu56, Gu56⟩ := (id V55)
            obtain ⟨T57, h57, X57, e57, W57, st57⟩ := stB X55 hx hZ e55 Aru56 (j := (2 : Int32)) (inb_of Su56 ⟨by decide, by decide⟩) (g := (mkF m 122 #[.val (.long q1), .second, .val (.int p2), .val (.int p3), .val (.int p4), .val (.int p5), .val (.int p6), .val (.int (4 : Int32)), .unset, .unset, .unset] [(.int (p5.toInt8.toInt32)), (.int (2 : Int32)), (.ref b51), (.ref b51)])) rfl rfl (hb hby at_122)
            have V57 := Arv.set Aru56 qu56 Su56 Nu56 Hu56 Gu56 (fits_nar_byte _) W57 2 rfl (Nat.le_of_ble_eq_true rfl)
            have K57 := K55.wr W57 (Or.inr sz_b51)
            have N57 := Fr.snoc X57 N55 g_b51
            have Z57 : n0 ≤ h57.size := by rw [W57.size]; exact Z55
            refine own_st (T' := T57) (g' := (mkF m 123 #[.val (.long q1), .second, .val (.int p2), .val (.int p3), .val (.int p4), .val (.int p5), .val (.int p6), .val (.int (4 : Int32)), .unset, .unset, .unset] [(.ref b51)])) (fun t9 k9 => st57 t9 k9) ?_
            refine own_st (T' := T57) (g' := (mkF m 124 #[.val (.long q1), .second, .val (.int p2), .val (.int p3), .val (.int p4), .val (.int p5), .val (.int p6), .val (.int (4 : Int32)), .unset, .unset, .unset] [(.ref b51), (.ref b51)])) (fun t9 k9 => XS.dup X57.here hx rfl (hb hby at_123) rfl rfl k9) ?_
            refine own_st (T' := T57) (g' := (mkF m 125 #[.val (.long q1), .second, .val (.int p2), .val (.int p3), .val (.int p4), .val (.int p5), .val (.int p6), .val (.int (4 : Int32)), .unset, .unset, .unset] [(.int (3 : Int32)), (.ref b51), (.ref b51)])) (fun t9 k9 => XS.iconst X57.here hx rfl (hb hby at_124) k9) ?_
            refine own_st (T' := T57) (g' := (mkF m 127 #[.val (.long q1), .second, .val (.int p2), .val (.int p3), .val (.int p4), .val (.int p5), .val (.int p6), .val (.int (4 : Int32)), .unset, .unset, .unset] [(.int p6), (.int (3 : Int32)), (.ref b51), (.ref b51)])) (fun t9 k9 => XS.iload X57.here hx rfl (hb hby at_125) rfl k9) ?_
            refine own_st (T' := T57) (g' := (mkF m 128 #[.val (.long q1), .second, .val (.int p2), .val (.int p3), .val (.int p4), .val (.int p5), .val (.int p6), .val (.int (4 : Int32)), .unset, .unset, .unset] [(.int (p6.toInt8.toInt32)), (.int (3 : Int32)), (.ref b51), (.ref b51)])) (fun t9 k9 => XS.i2b X57.here hx rfl (hb hby at_127) rfl k9) ?_
            obtain ⟨clu58, Aru58, qu58, Su58, Nu58, Hu58, Gu58⟩ := (id V57)
            obtain ⟨T59, h59, X59, e59, W59, st59⟩ := stB X57 hx hZ e57 Aru58 (j := (3 : Int32)) (inb_of Su58 ⟨by decide, by decide⟩) (g := (mkF m 128 #[.val (.long q1), .second, .val (.int p2), .val (.int p3), .val (.int p4), .val (.int p5), .val (.int p6), .val (.int (4 : Int32)), .unset, .unset, .unset] [(.int (p6.toInt8.toInt32)), (.int (3 : Int32)), (.ref b51), (.ref b51)])) rfl rfl (hb hby at_128)
            have V59 := Arv.set Aru58 qu58 Su58 Nu58 Hu58 Gu58 (fits_nar_byte _) W59 3 rfl (Nat.le_of_ble_eq_true rfl)
            have K59 := K57.wr W59 (Or.inr sz_b51)
            have N59 := Fr.snoc X59 N57 g_b51
            have Z59 : n0 ≤ h59.size := by rw [W59.size]; exact Z57
            refine own_st (T' := T59) (g' := (mkF m 129 #[.val (.long q1), .second, .val (.int p2), .val (.int p3), .val (.int p4), .val (.int p5), .val (.int p6), .val (.int (4 : Int32)), .unset, .unset, .unset] [(.ref b51)])) (fun t9 k9 => st59 t9 k9) ?_
            refine own_st (T' := T59) (g' := (mkF m 131 #[.val (.long q1), .second, .val (.int p2), .val (.int p3), .val (.int p4), .val (.int p5), .val (.int p6), .val (.int (4 : Int32)), .val (.ref b51), .unset, .unset] [])) (fun t9 k9 => XS.astore X59.here hx rfl (hb hby at_129) rfl rfl (l' := #[.val (.long q1), .second, .val (.int p2), .val (.int p3), .val (.int p4), .val (.int p5), .val (.int p6), .val (.int (4 : Int32)), .val (.ref b51), .unset, .unset]) rfl k9) ?_
            refine own_st (T' := T59) (g' := (mkF m 137 #[.val (.long q1), .second, .val (.int p2), .val (.int p3), .val (.int p4), .val (.int p5), .val (.int p6), .val (.int (4 : Int32)), .val (.ref b51), .unset, .unset] [])) (fun t9 k9 => XS.goto X59.here hx rfl (pc0 := 131) (pc' := 137) rfl (hb hby at_131) (by decide) (by decide) k9) ?_
            have j209 : ∀ (T60 : State) (L60 : List Loc) (y9 : Int32), Stand p l e room_1 s m #[(.long q1), (.int p2), (.int p3), (.int p4), (.int p5), (.int p6)] below meth c T60 L60 (0 + 1) (0 + 4) → T60.heap = h59 → Fr n0 L60 → (own_B y9 (∀ i, i < 4 → own_w (own_xs p3 p4 p5 p6 i))) → own_Go p e below F T60 (mkF m 209 #[.val (.long q1), .second, .val (.int p2), .val (.int p3), .val (.int p4), .val (.int p5), .val (.int p6), .val (.int (4 : Int32)), .val (.ref b51), .unset, .unset] [(.int y9)]) := by
              intro T60 L60 y9 X60 e60 N60 hy
              refine own_st (T' := T60) (g' := (mkF m 211 #[.val (.long q1), .second, .val (.int p2), .val (.int p3), .val (.int p4), .val (.int p5), .val (.int p6), .val (.int (4 : Int32)), .val (.ref b51), .val (.int y9), .unset] [])) (fun t9 k9 => XS.istore X60.here hx rfl (hb hby at_209) rfl (l' := #[.val (.long q1), .second, .val (.int p2), .val (.int p3), .val (.int p4), .val (.int p5), .val (.int p6), .val (.int (4 : Int32)), .val (.ref b51), .val (.int y9), .unset]) rfl k9) ?_
              obtain ⟨T61, h61, X61, e61, E61, A61, D61, -, st61⟩ := newO X60 hx hZ hown (hw _ (List.mem_of_getElem? (i := 6) rfl)) (hw _ (List.mem_of_getElem? (i := 7) rfl)) (hw _ (List.mem_of_getElem? (i := 8) rfl)) e60 (g := (mkF m 211 #[.val (.long q1), .second, .val (.int p2), .val (.int p3), .val (.int p4), .val (.int p5), .val (.int p6), .val (.int (4 : Int32)), .val (.ref b51), .val (.int y9), .unset] [])) rfl (hb hby at_211) (by decide) (by decide)
              obtain ⟨b61, gb61⟩ : ∃ z, z = h59.size := ⟨_, rfl⟩
              have ne_b51_b61 : b51 ≠ b61 := own_ne gb61 V59.lt
              have g_b61 : n0 ≤ b61 := gb61 ▸ Z59
              have sz_b61 : h0.size ≤ b61 := gb61 ▸ K59.1
              rw [← gb61] at A61 D61 st61
              have V59_62 := V59.ext E61
              have K61 := K59.ext E61
              have Z61 : n0 ≤ h61.size := Nat.le_trans Z59 E61.1
              have F_number_b61 : Fld Z h61 b61 "com/example/stockbook/stockbook/server/JsonLines$Line" "number" "J" (.long (0 : Int64)) := D61 (Or.inr (hw _ (List.mem_of_getElem? (i := 21) rfl))) (ty := .long) (by decide)
              have F_bytes_b61 : Fld Z h61 b61 "com/example/stockbook/stockbook/server/JsonLines$Line" "bytes" "[B" .null := D61 (Or.inr (hw _ (List.mem_of_getElem? (i := 23) rfl))) (ty := (.array .byte)) (by decide)
              refine own_st (T' := T61) (g' := (mkF m 214 #[.val (.long q1), .second, .val (.int p2), .val (.int p3), .val (.int p4), .val (.int p5), .val (.int p6), .val (.int (4 : Int32)), .val (.ref b51), .val (.int y9), .unset] [(.ref b61)])) (fun t9 k9 => st61 t9 k9) ?_
              refine own_st (T' := T61) (g' := (mkF m 215 #[.val (.long q1), .second, .val (.int p2), .val (.int p3), .val (.int p4), .val (.int p5), .val (.int p6), .val (.int (4 : Int32)), .val (.ref b51), .val (.int y9), .unset] [(.ref b61), (.ref b61)])) (fun t9 k9 => XS.dup X61.here hx rfl (hb hby at_214) rfl rfl k9) ?_
              refine own_st (T' := T61) (g' := (mkF m 216 #[.val (.long q1), .second, .val (.int p2), .val (.int p3), .val (.int p4), .val (.int p5), .val (.int p6), .val (.int (4 : Int32)), .val (.ref b51), .val (.int y9), .unset] [(.long q1), (.ref b61), (.ref b61)])) (fun t9 k9 => XS.lloadN X61.here hx rfl (hb hby at_215) rfl k9) ?_
              refine own_st (T' := T61) (g' := (mkF m 218 #[.val (.long q1), .second, .val (.int p2), .val (.int p3), .val (.int p4), .val (.int p5), .val (.int p6), .val (.int (4 : Int32)), .val (.ref b51), .val (.int y9), .unset] [(.ref b51), (.long q1), (.ref b61), (.ref b61)])) (fun t9 k9 => XS.aload X61.here hx rfl (hb hby at_216) rfl rfl k9) ?_
              obtain ⟨_, _, ⟨T63, L63, k63, n63⟩, -, X63, ⟨Lc63, hQ63, l63, y63, z63⟩, st63⟩ := X61.specialBack hx (y := (⟨"com/example/stockbook/stockbook/server/JsonLines$Line", "<init>", "(J[B)V"⟩ : MethodName)) rfl hown (mvT hZ (hw _ (List.mem_of_getElem? (i := 9) rfl))) (mvT hZ (hw _ (List.mem_of_getElem? (i := 10) rfl))) (mvT hZ (hw _ (List.mem_of_getElem? (i := 11) rfl))) (by decide) (own_back (W := 1) (rmIa l Z a0 hw b61 q1 b51 (.long 0) .null h61 n0 Z61 A61 F_number_b61 F_bytes_b61 g_b61) hZ (hw _ (List.mem_of_getElem? (i := 11) rfl)) (hw _ (List.mem_of_getElem? (i := 8) rfl)) (by decide) (by decide)) (g := (mkF m 218 #[.val (.long q1), .second, .val (.int p2), .val (.int p3), .val (.int p4), .val (.int p5), .val (.int p6), .val (.int (4 : Int32)), .val (.ref b51), .val (.int y9), .unset] [(.ref b51), (.long q1), (.ref b61), (.ref b61)])) rfl (by rw [hml]; rfl) (Steps.refl _) (a := b61) (argsL := [(.long q1), (.ref b51)]) (rest := [(.ref b61)]) (lenOf pd_1 rfl) rfl (by show 2 * 0 + _ ≤ _; exact Nat.le_of_eq rfl) (hb hby at_218) (fun _ _ => ⟨rfl, e61, (Nat.le_of_ble_eq_true rfl), (Nat.le_of_ble_eq_true rfl)⟩)
              dsimp only [Pt.U, Pt.locs, Pt.cells, Pt.slots] at X63 l63 y63 z63 st63 hQ63
              subst l63 y63 z63
              obtain ⟨rfl, Nq63, Kq63, Eq63, Fb63⟩ := hQ63
              have N63 := Fr.app N60 Nq63
              obtain ⟨h63, e63⟩ : ∃ z, T63.heap = z := ⟨_, rfl⟩
              rw [e63] at Kq63 Eq63 Fb63
              have V59_64 := V59_62.keep Kq63 (ninS ne_b51_b61 nin0)
              have A61_65 := A61.keep Kq63
              have K63 := K61.trans Kq63 (allS (Or.inr sz_b61) all0)
              have Z63 : n0 ≤ h63.size := Nat.le_trans Z61 Kq63.1
              refine own_st (T' := T63) (g' := (mkF m 221 #[.val (.long q1), .second, .val (.int p2), .val (.int p3), .val (.int p4), .val (.int p5), .val (.int p6), .val (.int (4 : Int32)), .val (.ref b51), .val (.int y9), .unset] [(.ref b61)])) (fun t9 k9 => st63.trans k9) ?_
              refine own_st (T' := T63) (g' := (mkF m 223 #[.val (.long q1), .second, .val (.int p2), .val (.int p3), .val (.int p4), .val (.int p5), .val (.int p6), .val (.int (4 : Int32)), .val (.ref b51), .val (.int y9), .val (.ref b61)] [])) (fun t9 k9 => XS.astore X63.here hx rfl (hb hby at_221) rfl rfl (l' := #[.val (.long q1), .second, .val (.int p2), .val (.int p3), .val (.int p4), .val (.int p5), .val (.int p6), .val (.int (4 : Int32)), .val (.ref b51), .val (.int y9), .val (.ref b61)]) rfl k9) ?_
              refine own_st (T' := T63) (g' := (mkF m 225 #[.val (.long q1), .second, .val (.int p2), .val (.int p3), .val (.int p4), .val (.int p5), .val (.int p6), .val (.int (4 : Int32)), .val (.ref b51), .val (.int y9), .val (.ref b61)] [(.ref b61)])) (fun t9 k9 => XS.aload X63.here hx rfl (hb hby at_223) rfl rfl k9) ?_
              obtain ⟨cq66, kq66, qa66, qb66, qc66⟩ := isOf hZ e63 A61_65
              obtain ⟨_, _, ⟨T66, L66, k66, n66⟩, -, X66, ⟨Lc66, hQ66, l66, y66, z66⟩, st66⟩ := X63.virtualBack hx (y := (⟨"com/example/stockbook/stockbook/server/JsonLines$Line", "isBlank", "()Z"⟩ : MethodName)) (z := (⟨"com/example/stockbook/stockbook/server/JsonLines$Line", "isBlank", "()Z"⟩ : MethodName)) hown (mvT hZ (hw _ (List.mem_of_getElem? (i := 24) rfl))) (mvT hZ (hw _ (List.mem_of_getElem? (i := 25) rfl))) (notFace_of_selects (args := #[]) (mvT hZ (hw _ (List.mem_of_getElem? (i := 27) rfl)))) (mvT hZ (hw _ (List.mem_of_getElem? (i := 27) rfl))) (mvT hZ (hw _ (List.mem_of_getElem? (i := 26) rfl))) (by decide) (own_back (W := 0) (rmBa l Z a0 hw b61 b51 k51 (4 : Int32) _ (own_xs p3 p4 p5 p6) 4 h63 n0 Z63 Fb63 (by decide) (by decide) V59_64 (fun i hi => by
                    match i, hi with
                    | 0, _ => exact congrArg Value.int (own_bb _)
                    | 1, _ => exact congrArg Value.int (own_bb _)
                    | 2, _ => exact congrArg Value.int (own_bb _)
                    | 3, _ => exact congrArg Value.int (own_bb _))) hZ (hw _ (List.mem_of_getElem? (i := 28) rfl)) (hw _ (List.mem_of_getElem? (i := 8) rfl)) (by decide) (by decide)) qa66 qc66 (g := (mkF m 225 #[.val (.long q1), .second, .val (.int p2), .val (.int p3), .val (.int p4), .val (.int p5), .val (.int p6), .val (.int (4 : Int32)), .val (.ref b51), .val (.int y9), .val (.ref b61)] [(.ref b61)])) rfl (by rw [hml]; rfl) (Steps.refl _) (argsL := []) (rest := []) (lenOf pd_3 rfl) rfl (by show 2 * 0 + _ ≤ _; exact Nat.le_of_eq rfl) (hb hby at_225) (fun _ _ => ⟨rfl, e63, (Nat.le_of_ble_eq_true rfl), (Nat.le_of_ble_eq_true rfl)⟩)
              dsimp only [Pt.U, Pt.locs, Pt.cells, Pt.slots] at X66 l66 y66 z66 st66 hQ66
              subst l66 y66 z66
              obtain ⟨z66, rfl, Nq66, he66, hB66⟩ := hQ66
              have N66 := Fr.app N63 Nq66
              have e66 : T66.heap = h63 := he66
              refine own_st (T' := T66) (g' := (mkF m 228 #[.val (.long q1), .second, .val (.int p2), .val (.int p3), .val (.int p4), .val (.int p5), .val (.int p6), .val (.int (4 : Int32)), .val (.ref b51), .val (.int y9), .val (.ref b61)] [(.int z66)])) (fun t9 k9 => st66.trans k9) ?_
              refine own_st (T' := T66) (g' := (mkF m 230 #[.val (.long q1), .second, .val (.int p2), .val (.int p3), .val (.int p4), .val (.int p5), .val (.int p6), .val (.int (4 : Int32)), .val (.ref b51), .val (.int y9), .val (.ref b61)] [(.int y9), (.int z66)])) (fun t9 k9 => XS.iload X66.here hx rfl (hb hby at_228) rfl k9) ?_
              refine own_st (T' := T66) (g' := (mkF m 233 #[.val (.long q1), .second, .val (.int p2), .val (.int p3), .val (.int p4), .val (.int p5), .val (.int p6), .val (.int (4 : Int32)), .val (.ref b51), .val (.int y9), .val (.ref b61)] [])) (fun t9 k9 => XS.icmpNo X66.here hx rfl (hb hby at_230) rfl (teq (own_B.eq hB66 hy Iff.rfl)).2 k9) ?_
              refine own_st (T' := T66) (g' := (mkF m 234 #[.val (.long q1), .second, .val (.int p2), .val (.int p3), .val (.int p4), .val (.int p5), .val (.int p6), .val (.int (4 : Int32)), .val (.ref b51), .val (.int y9), .val (.ref b61)] [(.int (1 : Int32))])) (fun t9 k9 => XS.iconst X66.here hx rfl (hb hby at_233) k9) ?_
              refine own_st (T' := T66) (g' := (mkF m 238 #[.val (.long q1), .second, .val (.int p2), .val (.int p3), .val (.int p4), .val (.int p5), .val (.int p6), .val (.int (4 : Int32)), .val (.ref b51), .val (.int y9), .val (.ref b61)] [(.int (1 : Int32))])) (fun t9 k9 => XS.goto X66.here hx rfl (pc0 := 234) (pc' := 238) rfl (hb hby at_234) (by decide) (by decide) k9) ?_
              refine own_ret (v := some (.int (1 : Int32))) hF X66 (own_some hret) hlk (fun fs hr => retN X66 hx (t := .boolean) hret (by simp) (hb hby at_238) hr) ?_ (by decide) (by decide)
              try rw [e66]
              exact ⟨rfl, N66⟩
            refine own_st (T' := T59) (g' := (mkF m 139 #[.val (.long q1), .second, .val (.int p2), .val (.int p3), .val (.int p4), .val (.int p5), .val (.int p6), .val (.int (4 : Int32)), .val (.ref b51), .unset, .unset] [(.int (4 : Int32))])) (fun t9 k9 => XS.iload X59.here hx rfl (hb hby at_137) rfl k9) ?_
            refine own_st (T' := T59) (g' := (mkF m 140 #[.val (.long q1), .second, .val (.int p2), .val (.int p3), .val (.int p4), .val (.int p5), .val (.int p6), .val (.int (4 : Int32)), .val (.ref b51), .unset, .unset] [(.int (5 : Int32)), (.int (4 : Int32))])) (fun t9 k9 => XS.iconst X59.here hx rfl (hb hby at_139) k9) ?_
            refine own_st (T' := T59) (g' := (mkF m 149 #[.val (.long q1), .second, .val (.int p2), .val (.int p3), .val (.int p4), .val (.int p5), .val (.int p6), .val (.int (4 : Int32)), .val (.ref b51), .unset, .unset] [])) (fun t9 k9 => XS.icmpYes X59.here hx rfl (pc0 := 140) (pc' := 149) rfl (hb hby at_140) rfl (feq (by decide)).2 (by decide) (by decide) k9) ?_
            refine own_st (T' := T59) (g' := (mkF m 151 #[.val (.long q1), .second, .val (.int p2), .val (.int p3), .val (.int p4), .val (.int p5), .val (.int p6), .val (.int (4 : Int32)), .val (.ref b51), .unset, .unset] [(.int (4 : Int32))])) (fun t9 k9 => XS.iload X59.here hx rfl (hb hby at_149) rfl k9) ?_
            refine own_st (T' := T59) (g' := (mkF m 152 #[.val (.long q1), .second, .val (.int p2), .val (.int p3), .val (.int p4), .val (.int p5), .val (.int p6), .val (.int (4 : Int32)), .val (.ref b51), .unset, .unset] [(.int (1 : Int32)), (.int (4 : Int32))])) (fun t9 k9 => XS.iconst X59.here hx rfl (hb hby at_151) k9) ?_
            refine own_st (T' := T59) (g' := (mkF m 155 #[.val (.long q1), .second, .val (.int p2), .val (.int p3), .val (.int p4), .val (.int p5), .val (.int p6), .val (.int (4 : Int32)), .val (.ref b51), .unset, .unset] [])) (fun t9 k9 => XS.icmpNo X59.here hx rfl (hb hby at_152) rfl (flt (by decide)).1 k9) ?_
            refine own_st (T' := T59) (g' := (mkF m 156 #[.val (.long q1), .second, .val (.int p2), .val (.int p3), .val (.int p4), .val (.int p5), .val (.int p6), .val (.int (4 : Int32)), .val (.ref b51), .unset, .unset] [(.int p3)])) (fun t9 k9 => XS.iloadN X59.here hx rfl (hb hby at_155) rfl k9) ?_
            obtain ⟨_, _, ⟨T67, L67, k67, n67⟩, -, X67, ⟨Lc67, hQ67, l67, y67, z67⟩, st67⟩ := Jvm.LawKit.callS X59 hx (y := (⟨"com/example/stockbook/stockbook/server/LineIsBlankPinLaw", "ws", "(I)Z"⟩ : MethodName)) hown (mvT hZ (hw _ (List.mem_of_getElem? (i := 2) rfl))) (mvT hZ (hw _ (List.mem_of_getElem? (i := 3) rfl))) (mvT hZ (hw _ (List.mem_of_getElem? (i := 4) rfl))) (mvT hZ (hw _ (List.mem_of_getElem? (i := 5) rfl))) (by decide) (own_back (W := 0) (rm1 l Z a0 hw p3 h59 n0 Z59) hZ (hw _ (List.mem_of_getElem? (i := 5) rfl)) (hw _ (List.mem_of_getElem? (i := 4) rfl)) (by decide) (by decide)) (g := (mkF m 156 #[.val (.long q1), .second, .val (.int p2), .val (.int p3), .val (.int p4), .val (.int p5), .val (.int p6), .val (.int (4 : Int32)), .val (.ref b51), .unset, .unset] [(.int p3)])) rfl (by rw [hml]; rfl) (argsL := [(.int p3)]) (rest := []) (lenOf pd_0 rfl) rfl (by show 2 * 0 + _ ≤ _; exact Nat.le_of_eq rfl) (hb hby at_156) (fun _ _ => ⟨rfl, e59, (Nat.le_of_ble_eq_true rfl), (Nat.le_of_ble_eq_true rfl)⟩)
            dsimp only [Pt.U, Pt.locs, Pt.cells, Pt.slots] at X67 l67 y67 z67 st67 hQ67
            subst l67 y67 z67
            obtain ⟨z67, rfl, Nq67, he67, hB67⟩ := hQ67
            have N67 := Fr.app N59 Nq67
            have e67 : T67.heap = h59 := he67
            refine own_st (T' := T67) (g' := (mkF m 159 #[.val (.long q1), .second, .val (.int p2), .val (.int p3), .val (.int p4), .val (.int p5), .val (.int p6), .val (.int (4 : Int32)), .val (.ref b51), .unset, .unset] [(.int z67)])) (fun t9 k9 => st67 t9 k9) ?_
            by_cases hz0 : z67 = (0 : Int32)
            · refine own_st (T' := T67) (g' := (mkF m 208 #[.val (.long q1), .second, .val (.int p2), .val (.int p3), .val (.int p4), .val (.int p5), .val (.int p6), .val (.int (4 : Int32)), .val (.ref b51), .unset, .unset] [])) (fun t9 k9 => XS.ifYes X67.here hx rfl (pc0 := 159) (pc' := 208) rfl (hb hby at_159) rfl ((if0 _ _).trans (teq hz0).1) (by decide) (by decide) k9) ?_
              refine own_st (T' := T67) (g' := (mkF m 209 #[.val (.long q1), .second, .val (.int p2), .val (.int p3), .val (.int p4), .val (.int p5), .val (.int p6), .val (.int (4 : Int32)), .val (.ref b51), .unset, .unset] [(.int (0 : Int32))])) (fun t9 k9 => XS.iconst X67.here hx rfl (hb hby at_208) k9) ?_
              exact j209 _ _ _ X67 e67 N67 (Or.inr ⟨rfl, fun q => (hB67.no hz0) (q 0 (by decide))⟩)
            · refine own_st (T' := T67) (g' := (mkF m 162 #[.val (.long q1), .second, .val (.int p2), .val (.int p3), .val (.int p4), .val (.int p5), .val (.int p6), .val (.int (4 : Int32)), .val (.ref b51), .unset, .unset] [])) (fun t9 k9 => XS.ifNo X67.here hx rfl (hb hby at_159) rfl ((if0 _ _).trans (feq hz0).1) k9) ?_
              refine own_st (T' := T67) (g' := (mkF m 164 #[.val (.long q1), .second, .val (.int p2), .val (.int p3), .val (.int p4), .val (.int p5), .val (.int p6), .val (.int (4 : Int32)), .val (.ref b51), .unset, .unset] [(.int (4 : Int32))])) (fun t9 k9 => XS.iload X67.here hx rfl (hb hby at_162) rfl k9) ?_
              refine own_st (T' := T67) (g' := (mkF m 165 #[.val (.long q1), .second, .val (.int p2), .val (.int p3), .val (.int p4), .val (.int p5), .val (.int p6), .val (.int (4 : Int32)), .val (.ref b51), .unset, .unset] [(.int (2 : Int32)), (.int (4 : Int32))])) (fun t9 k9 => XS.iconst X67.here hx rfl (hb hby at_164) k9) ?_
              refine own_st (T' := T67) (g' := (mkF m 168 #[.val (.long q1), .second, .val (.int p2), .val (.int p3), .val (.int p4), .val (.int p5), .val (.int p6), .val (.int (4 : Int32)), .val (.ref b51), .unset, .unset] [])) (fun t9 k9 => XS.icmpNo X67.here hx rfl (hb hby at_165) rfl (flt (by decide)).1 k9) ?_
              refine own_st (T' := T67) (g' := (mkF m 170 #[.val (.long q1), .second, .val (.int p2), .val (.int p3), .val (.int p4), .val (.int p5), .val (.int p6), .val (.int (4 : Int32)), .val (.ref b51), .unset, .unset] [(.int p4)])) (fun t9 k9 => XS.iload X67.here hx rfl (hb hby at_168) rfl k9) ?_
              obtain ⟨_, _, ⟨T68, L68, k68, n68⟩, -, X68, ⟨Lc68, hQ68, l68, y68, z68⟩, st68⟩ := Jvm.LawKit.callS X67 hx (y := (⟨"com/example/stockbook/stockbook/server/LineIsBlankPinLaw", "ws", "(I)Z"⟩ : MethodName)) hown (mvT hZ (hw _ (List.mem_of_getElem? (i := 2) rfl))) (mvT hZ (hw _ (List.mem_of_getElem? (i := 3) rfl))) (mvT hZ (hw _ (List.mem_of_getElem? (i := 4) rfl))) (mvT hZ (hw _ (List.mem_of_getElem? (i := 5) rfl))) (by decide) (own_back (W := 0) (rm1 l Z a0 hw p4 h59 n0 Z59) hZ (hw _ (List.mem_of_getElem? (i := 5) rfl)) (hw _ (List.mem_of_getElem? (i := 4) rfl)) (by decide) (by decide)) (g := (mkF m 170 #[.val (.long q1), .second, .val (.int p2), .val (.int p3), .val (.int p4), .val (.int p5), .val (.int p6), .val (.int (4 : Int32)), .val (.ref b51), .unset, .unset] [(.int p4)])) rfl (by rw [hml]; rfl) (argsL := [(.int p4)]) (rest := []) (lenOf pd_0 rfl) rfl (by show 2 * 0 + _ ≤ _; exact Nat.le_of_eq rfl) (hb hby at_170) (fun _ _ => ⟨rfl, e67, (Nat.le_of_ble_eq_true rfl), (Nat.le_of_ble_eq_true rfl)⟩)
              dsimp only [Pt.U, Pt.locs, Pt.cells, Pt.slots] at X68 l68 y68 z68 st68 hQ68
              subst l68 y68 z68
              obtain ⟨z68, rfl, Nq68, he68, hB68⟩ := hQ68
              have N68 := Fr.app N67 Nq68
              have e68 : T68.heap = h59 := he68
              refine own_st (T' := T68) (g' := (mkF m 173 #[.val (.long q1), .second, .val (.int p2), .val (.int p3), .val (.int p4), .val (.int p5), .val (.int p6), .val (.int (4 : Int32)), .val (.ref b51), .unset, .unset] [(.int z68)])) (fun t9 k9 => st68 t9 k9) ?_
              by_cases hz1 : z68 = (0 : Int32)
              · refine own_st (T' := T68) (g' := (mkF m 208 #[.val (.long q1), .second, .val (.int p2), .val (.int p3), .val (.int p4), .val (.int p5), .val (.int p6), .val (.int (4 : Int32)), .val (.ref b51), .unset, .unset] [])) (fun t9 k9 => XS.ifYes X68.here hx rfl (pc0 := 173) (pc' := 208) rfl (hb hby at_173) rfl ((if0 _ _).trans (teq hz1).1) (by decide) (by decide) k9) ?_
                refine own_st (T' := T68) (g' := (mkF m 209 #[.val (.long q1), .second, .val (.int p2), .val (.int p3), .val (.int p4), .val (.int p5), .val (.int p6), .val (.int (4 : Int32)), .val (.ref b51), .unset, .unset] [(.int (0 : Int32))])) (fun t9 k9 => XS.iconst X68.here hx rfl (hb hby at_208) k9) ?_
                exact j209 _ _ _ X68 e68 N68 (Or.inr ⟨rfl, fun q => (hB68.no hz1) (q 1 (by decide))⟩)
              · refine own_st (T' := T68) (g' := (mkF m 176 #[.val (.long q1), .second, .val (.int p2), .val (.int p3), .val (.int p4), .val (.int p5), .val (.int p6), .val (.int (4 : Int32)), .val (.ref b51), .unset, .unset] [])) (fun t9 k9 => XS.ifNo X68.here hx rfl (hb hby at_173) rfl ((if0 _ _).trans (feq hz1).1) k9) ?_
                refine own_st (T' := T68) (g' := (mkF m 178 #[.val (.long q1), .second, .val (.int p2), .val (.int p3), .val (.int p4), .val (.int p5), .val (.int p6), .val (.int (4 : Int32)), .val (.ref b51), .unset, .unset] [(.int (4 : Int32))])) (fun t9 k9 => XS.iload X68.here hx rfl (hb hby at_176) rfl k9) ?_
                refine own_st (T' := T68) (g' := (mkF m 179 #[.val (.long q1), .second, .val (.int p2), .val (.int p3), .val (.int p4), .val (.int p5), .val (.int p6), .val (.int (4 : Int32)), .val (.ref b51), .unset, .unset] [(.int (3 : Int32)), (.int (4 : Int32))])) (fun t9 k9 => XS.iconst X68.here hx rfl (hb hby at_178) k9) ?_
                refine own_st (T' := T68) (g' := (mkF m 182 #[.val (.long q1), .second, .val (.int p2), .val (.int p3), .val (.int p4), .val (.int p5), .val (.int p6), .val (.int (4 : Int32)), .val (.ref b51), .unset, .unset] [])) (fun t9 k9 => XS.icmpNo X68.here hx rfl (hb hby at_179) rfl (flt (by decide)).1 k9) ?_
                refine own_st (T' := T68) (g' := (mkF m 184 #[.val (.long q1), .second, .val (.int p2), .val (.int p3), .val (.int p4), .val (.int p5), .val (.int p6), .val (.int (4 : Int32)), .val (.ref b51), .unset, .unset] [(.int p5)])) (fun t9 k9 => XS.iload X68.here hx rfl (hb hby at_182) rfl k9) ?_
                obtain ⟨_, _, ⟨T69, L69, k69, n69⟩, -, X69, ⟨Lc69, hQ69, l69, y69, z69⟩, st69⟩ := Jvm.LawKit.callS X68 hx (y := (⟨"com/example/stockbook/stockbook/server/LineIsBlankPinLaw", "ws", "(I)Z"⟩ : MethodName)) hown (mvT hZ (hw _ (List.mem_of_getElem? (i := 2) rfl))) (mvT hZ (hw _ (List.mem_of_getElem? (i := 3) rfl))) (mvT hZ (hw _ (List.mem_of_getElem? (i := 4) rfl))) (mvT hZ (hw _ (List.mem_of_getElem? (i := 5) rfl))) (by decide) (own_back (W := 0) (rm1 l Z a0 hw p5 h59 n0 Z59) hZ (hw _ (List.mem_of_getElem? (i := 5) rfl)) (hw _ (List.mem_of_getElem? (i := 4) rfl)) (by decide) (by decide)) (g := (mkF m 184 #[.val (.long q1), .second, .val (.int p2), .val (.int p3), .val (.int p4), .val (.int p5), .val (.int p6), .val (.int (4 : Int32)), .val (.ref b51), .unset, .unset] [(.int p5)])) rfl (by rw [hml]; rfl) (argsL := [(.int p5)]) (rest := []) (lenOf pd_0 rfl) rfl (by show 2 * 0 + _ ≤ _; exact Nat.le_of_eq rfl) (hb hby at_184) (fun _ _ => ⟨rfl, e68, (Nat.le_of_ble_eq_true rfl), (Nat.le_of_ble_eq_true rfl)⟩)
                dsimp only [Pt.U, Pt.locs, Pt.cells, Pt.slots] at X69 l69 y69 z69 st69 hQ69
                subst l69 y69 z69
                obtain ⟨z69, rfl, Nq69, he69, hB69⟩ := hQ69
                have N69 := Fr.app N68 Nq69
                have e69 : T69.heap = h59 := he69
                refine own_st (T' := T69) (g' := (mkF m 187 #[.val (.long q1), .second, .val (.int p2), .val (.int p3), .val (.int p4), .val (.int p5), .val (.int p6), .val (.int (4 : Int32)), .val (.ref b51), .unset, .unset] [(.int z69)])) (fun t9 k9 => st69 t9 k9) ?_
                by_cases hz2 : z69 = (0 : Int32)
                · refine own_st (T' := T69) (g' := (mkF m 208 #[.val (.long q1), .second, .val (.int p2), .val (.int p3), .val (.int p4), .val (.int p5), .val (.int p6), .val (.int (4 : Int32)), .val (.ref b51), .unset, .unset] [])) (fun t9 k9 => XS.ifYes X69.here hx rfl (pc0 := 187) (pc' := 208) rfl (hb hby at_187) rfl ((if0 _ _).trans (teq hz2).1) (by decide) (by decide) k9) ?_
                  refine own_st (T' := T69) (g' := (mkF m 209 #[.val (.long q1), .second, .val (.int p2), .val (.int p3), .val (.int p4), .val (.int p5), .val (.int p6), .val (.int (4 : Int32)), .val (.ref b51), .unset, .unset] [(.int (0 : Int32))])) (fun t9 k9 => XS.iconst X69.here hx rfl (hb hby at_208) k9) ?_
                  exact j209 _ _ _ X69 e69 N69 (Or.inr ⟨rfl, fun q => (hB69.no hz2) (q 2 (by decide))⟩)
                · refine own_st (T' := T69) (g' := (mkF m 190 #[.val (.long q1), .second, .val (.int p2), .val (.int p3), .val (.int p4), .val (.int p5), .val (.int p6), .val (.int (4 : Int32)), .val (.ref b51), .unset, .unset] [])) (fun t9 k9 => XS.ifNo X69.here hx rfl (hb hby at_187) rfl ((if0 _ _).trans (feq hz2).1) k9) ?_
                  refine own_st (T' := T69) (g' := (mkF m 192 #[.val (.long q1), .second, .val (.int p2), .val (.int p3), .val (.int p4), .val (.int p5), .val (.int p6), .val (.int (4 : Int32)), .val (.ref b51), .unset, .unset] [(.int (4 : Int32))])) (fun t9 k9 => XS.iload X69.here hx rfl (hb hby at_190) rfl k9) ?_
                  refine own_st (T' := T69) (g' := (mkF m 193 #[.val (.long q1), .second, .val (.int p2), .val (.int p3), .val (.int p4), .val (.int p5), .val (.int p6), .val (.int (4 : Int32)), .val (.ref b51), .unset, .unset] [(.int (4 : Int32)), (.int (4 : Int32))])) (fun t9 k9 => XS.iconst X69.here hx rfl (hb hby at_192) k9) ?_
                  refine own_st (T' := T69) (g' := (mkF m 196 #[.val (.long q1), .second, .val (.int p2), .val (.int p3), .val (.int p4), .val (.int p5), .val (.int p6), .val (.int (4 : Int32)), .val (.ref b51), .unset, .unset] [])) (fun t9 k9 => XS.icmpNo X69.here hx rfl (hb hby at_193) rfl (flt (by decide)).1 k9) ?_
                  refine own_st (T' := T69) (g' := (mkF m 198 #[.val (.long q1), .second, .val (.int p2), .val (.int p3), .val (.int p4), .val (.int p5), .val (.int p6), .val (.int (4 : Int32)), .val (.ref b51), .unset, .unset] [(.int p6)])) (fun t9 k9 => XS.iload X69.here hx rfl (hb hby at_196) rfl k9) ?_
                  obtain ⟨_, _, ⟨T70, L70, k70, n70⟩, -, X70, ⟨Lc70, hQ70, l70, y70, z70⟩, st70⟩ := Jvm.LawKit.callS X69 hx (y := (⟨"com/example/stockbook/stockbook/server/LineIsBlankPinLaw", "ws", "(I)Z"⟩ : MethodName)) hown (mvT hZ (hw _ (List.mem_of_getElem? (i := 2) rfl))) (mvT hZ (hw _ (List.mem_of_getElem? (i := 3) rfl))) (mvT hZ (hw _ (List.mem_of_getElem? (i := 4) rfl))) (mvT hZ (hw _ (List.mem_of_getElem? (i := 5) rfl))) (by decide) (own_back (W := 0) (rm1 l Z a0 hw p6 h59 n0 Z59) hZ (hw _ (List.mem_of_getElem? (i := 5) rfl)) (hw _ (List.mem_of_getElem? (i := 4) rfl)) (by decide) (by decide)) (g := (mkF m 198 #[.val (.long q1), .second, .val (.int p2), .val (.int p3), .val (.int p4), .val (.int p5), .val (.int p6), .val (.int (4 : Int32)), .val (.ref b51), .unset, .unset] [(.int p6)])) rfl (by rw [hml]; rfl) (argsL := [(.int p6)]) (rest := []) (lenOf pd_0 rfl) rfl (by show 2 * 0 + _ ≤ _; exact Nat.le_of_eq rfl) (hb hby at_198) (fun _ _ => ⟨rfl, e69, (Nat.le_of_ble_eq_true rfl), (Nat.le_of_ble_eq_true rfl)⟩)
                  dsimp only [Pt.U, Pt.locs, Pt.cells, Pt.slots] at X70 l70 y70 z70 st70 hQ70
                  subst l70 y70 z70
                  obtain ⟨z70, rfl, Nq70, he70, hB70⟩ := hQ70
                  have N70 := Fr.app N69 Nq70
                  have e70 : T70.heap = h59 := he70
                  refine own_st (T' := T70) (g' := (mkF m 201 #[.val (.long q1), .second, .val (.int p2), .val (.int p3), .val (.int p4), .val (.int p5), .val (.int p6), .val (.int (4 : Int32)), .val (.ref b51), .unset, .unset] [(.int z70)])) (fun t9 k9 => st70 t9 k9) ?_
                  by_cases hz3 : z70 = (0 : Int32)
                  · refine own_st (T' := T70) (g' := (mkF m 208 #[.val (.long q1), .second, .val (.int p2), .val (.int p3), .val (.int p4), .val (.int p5), .val (.int p6), .val (.int (4 : Int32)), .val (.ref b51), .unset, .unset] [])) (fun t9 k9 => XS.ifYes X70.here hx rfl (pc0 := 201) (pc' := 208) rfl (hb hby at_201) rfl ((if0 _ _).trans (teq hz3).1) (by decide) (by decide) k9) ?_
                    refine own_st (T' := T70) (g' := (mkF m 209 #[.val (.long q1), .second, .val (.int p2), .val (.int p3), .val (.int p4), .val (.int p5), .val (.int p6), .val (.int (4 : Int32)), .val (.ref b51), .unset, .unset] [(.int (0 : Int32))])) (fun t9 k9 => XS.iconst X70.here hx rfl (hb hby at_208) k9) ?_
                    exact j209 _ _ _ X70 e70 N70 (Or.inr ⟨rfl, fun q => (hB70.no hz3) (q 3 (by decide))⟩)
                  · refine own_st (T' := T70) (g' := (mkF m 204 #[.val (.long q1), .second, .val (.int p2), .val (.int p3), .val (.int p4), .val (.int p5), .val (.int p6), .val (.int (4 : Int32)), .val (.ref b51), .unset, .unset] [])) (fun t9 k9 => XS.ifNo X70.here hx rfl (hb hby at_201) rfl ((if0 _ _).trans (feq hz3).1) k9) ?_
                    refine own_st (T' := T70) (g' := (mkF m 205 #[.val (.long q1), .second, .val (.int p2), .val (.int p3), .val (.int p4), .val (.int p5), .val (.int p6), .val (.int (4 : Int32)), .val (.ref b51), .unset, .unset] [(.int (1 : Int32))])) (fun t9 k9 => XS.iconst X70.here hx rfl (hb hby at_204) k9) ?_
                    refine own_st (T' := T70) (g' := (mkF m 209 #[.val (.long q1), .second, .val (.int p2), .val (.int p3), .val (.int p4), .val (.int p5), .val (.int p6), .val (.int (4 : Int32)), .val (.ref b51), .unset, .unset] [(.int (1 : Int32))])) (fun t9 k9 => XS.goto X70.here hx rfl (pc0 := 205) (pc' := 209) rfl (hb hby at_205) (by decide) (by decide) k9) ?_
                    exact j209 _ _ _ X70 e70 N70 (Or.inl ⟨rfl, (fun i hi => by
                          match i, hi with
                          | 0, _ => exact hB67.yes hz0
                          | 1, _ => exact hB68.yes hz1
                          | 2, _ => exact hB69.yes hz2
                          | 3, _ => exact hB70.yes hz3)⟩)
          · refine own_st (T' := T0) (g' := (mkF m 134 #[.val (.long q1), .second, .val (.int p2), .val (.int p3), .val (.int p4), .val (.int p5), .val (.int p6), .val (.int kk), .unset, .unset, .unset] [])) (fun t9 k9 => XS.icmpYes X0.here hx rfl (pc0 := 100) (pc' := 134) rfl (hb hby at_100) rfl (feq hk4).2 (by decide) (by decide) k9) ?_
            have hk5 := own_five p2 kk hkk hk0 hk1 hk2 hk3 hk4
            subst hk5
            show own_Go p e below F T0 (mkF m 134 #[.val (.long q1), .second, .val (.int p2), .val (.int p3), .val (.int p4), .val (.int p5), .val (.int p6), .val (.int (5 : Int32)), .unset, .unset, .unset] [])
            refine own_st (T' := T0) (g' := (mkF m 135 #[.val (.long q1), .second, .val (.int p2), .val (.int p3), .val (.int p4), .val (.int p5), .val (.int p6), .val (.int (5 : Int32)), .unset, .unset, .unset] [.null])) (fun t9 k9 => XS.aconstNull X0.here hx rfl (hb hby at_134) k9) ?_
            refine own_st (T' := T0) (g' := (mkF m 137 #[.val (.long q1), .second, .val (.int p2), .val (.int p3), .val (.int p4), .val (.int p5), .val (.int p6), .val (.int (5 : Int32)), .val .null, .unset, .unset] [])) (fun t9 k9 => XS.astore X0.here hx rfl (hb hby at_135) rfl rfl (l' := #[.val (.long q1), .second, .val (.int p2), .val (.int p3), .val (.int p4), .val (.int p5), .val (.int p6), .val (.int (5 : Int32)), .val .null, .unset, .unset]) rfl k9) ?_
            refine own_st (T' := T0) (g' := (mkF m 139 #[.val (.long q1), .second, .val (.int p2), .val (.int p3), .val (.int p4), .val (.int p5), .val (.int p6), .val (.int (5 : Int32)), .val .null, .unset, .unset] [(.int (5 : Int32))])) (fun t9 k9 => XS.iload X0.here hx rfl (hb hby at_137) rfl k9) ?_
            refine own_st (T' := T0) (g' := (mkF m 140 #[.val (.long q1), .second, .val (.int p2), .val (.int p3), .val (.int p4), .val (.int p5), .val (.int p6), .val (.int (5 : Int32)), .val .null, .unset, .unset] [(.int (5 : Int32)), (.int (5 : Int32))])) (fun t9 k9 => XS.iconst X0.here hx rfl (hb hby at_139) k9) ?_
            refine own_st (T' := T0) (g' := (mkF m 143 #[.val (.long q1), .second, .val (.int p2), .val (.int p3), .val (.int p4), .val (.int p5), .val (.int p6), .val (.int (5 : Int32)), .val .null, .unset, .unset] [])) (fun t9 k9 => XS.icmpNo X0.here hx rfl (hb hby at_140) rfl (teq rfl).2 k9) ?_
            refine own_st (T' := T0) (g' := (mkF m 144 #[.val (.long q1), .second, .val (.int p2), .val (.int p3), .val (.int p4), .val (.int p5), .val (.int p6), .val (.int (5 : Int32)), .val .null, .unset, .unset] [(.int (0 : Int32))])) (fun t9 k9 => XS.iconst X0.here hx rfl (hb hby at_143) k9) ?_
            refine own_st (T' := T0) (g' := (mkF m 146 #[.val (.long q1), .second, .val (.int p2), .val (.int p3), .val (.int p4), .val (.int p5), .val (.int p6), .val (.int (5 : Int32)), .val .null, .val (.int (0 : Int32)), .unset] [])) (fun t9 k9 => XS.istore X0.here hx rfl (hb hby at_144) rfl (l' := #[.val (.long q1), .second, .val (.int p2), .val (.int p3), .val (.int p4), .val (.int p5), .val (.int p6), .val (.int (5 : Int32)), .val .null, .val (.int (0 : Int32)), .unset]) rfl k9) ?_
            refine own_st (T' := T0) (g' := (mkF m 211 #[.val (.long q1), .second, .val (.int p2), .val (.int p3), .val (.int p4), .val (.int p5), .val (.int p6), .val (.int (5 : Int32)), .val .null, .val (.int (0 : Int32)), .unset] [])) (fun t9 k9 => XS.goto X0.here hx rfl (pc0 := 146) (pc' := 211) rfl (hb hby at_146) (by decide) (by decide) k9) ?_
            obtain ⟨T71, h71, X71, e71, E71, A71, D71, -, st71⟩ := newO X0 hx hZ hown (hw _ (List.mem_of_getElem? (i := 6) rfl)) (hw _ (List.mem_of_getElem? (i := 7) rfl)) (hw _ (List.mem_of_getElem? (i := 8) rfl)) e0 (g := (mkF m 211 #[.val (.long q1), .second, .val (.int p2), .val (.int p3), .val (.int p4), .val (.int p5), .val (.int p6), .val (.int (5 : Int32)), .val .null, .val (.int (0 : Int32)), .unset] [])) rfl (hb hby at_211) (by decide) (by decide)
            obtain ⟨b71, gb71⟩ : ∃ z, z = h0.size := ⟨_, rfl⟩
            have g_b71 : n0 ≤ b71 := gb71 ▸ Z0
            have sz_b71 : h0.size ≤ b71 := gb71 ▸ K0.1
            rw [← gb71] at A71 D71 st71
            have K71 := K0.ext E71
            have Z71 : n0 ≤ h71.size := Nat.le_trans Z0 E71.1
            have F_number_b71 : Fld Z h71 b71 "com/example/stockbook/stockbook/server/JsonLines$Line" "number" "J" (.long (0 : Int64)) := D71 (Or.inr (hw _ (List.mem_of_getElem? (i := 21) rfl))) (ty := .long) (by decide)
            have F_bytes_b71 : Fld Z h71 b71 "com/example/stockbook/stockbook/server/JsonLines$Line" "bytes" "[B" .null := D71 (Or.inr (hw _ (List.mem_of_getElem? (i := 23) rfl))) (ty := (.array .byte)) (by decide)
            refine own_st (T' := T71) (g' := (mkF m 214 #[.val (.long q1), .second, .val (.int p2), .val (.int p3), .val (.int p4), .val (.int p5), .val (.int p6), .val (.int (5 : Int32)), .val .null, .val (.int (0 : Int32)), .unset] [(.ref b71)])) (fun t9 k9 => st71 t9 k9) ?_
            refine own_st (T' := T71) (g' := (mkF m 215 #[.val (.long q1), .second, .val (.int p2), .val (.int p3), .val (.int p4), .val (.int p5), .val (.int p6), .val (.int (5 : Int32)), .val .null, .val (.int (0 : Int32)), .unset] [(.ref b71), (.ref b71)])) (fun t9 k9 => XS.dup X71.here hx rfl (hb hby at_214) rfl rfl k9) ?_
            refine own_st (T' := T71) (g' := (mkF m 216 #[.val (.long q1), .second, .val (.int p2), .val (.int p3), .val (.int p4), .val (.int p5), .val (.int p6), .val (.int (5 : Int32)), .val .null, .val (.int (0 : Int32)), .unset] [(.long q1), (.ref b71), (.ref b71)])) (fun t9 k9 => XS.lloadN X71.here hx rfl (hb hby at_215) rfl k9) ?_
            refine own_st (T' := T71) (g' := (mkF m 218 #[.val (.long q1), .second, .val (.int p2), .val (.int p3), .val (.int p4), .val (.int p5), .val (.int p6), .val (.int (5 : Int32)), .val .null, .val (.int (0 : Int32)), .unset] [.null, (.long q1), (.ref b71), (.ref b71)])) (fun t9 k9 => XS.aload X71.here hx rfl (hb hby at_216) rfl rfl k9) ?_
            obtain ⟨_, _, ⟨T72, L72, k72, n72⟩, -, X72, ⟨Lc72, hQ72, l72, y72, z72⟩, st72⟩ := X71.specialBack hx (y := (⟨"com/example/stockbook/stockbook/server/JsonLines$Line", "<init>", "(J[B)V"⟩ : MethodName)) rfl hown (mvT hZ (hw _ (List.mem_of_getElem? (i := 9) rfl))) (mvT hZ (hw _ (List.mem_of_getElem? (i := 10) rfl))) (mvT hZ (hw _ (List.mem_of_getElem? (i := 11) rfl))) (by decide) (own_back (W := 1) (rmIn l Z a0 hw b71 q1 (.long 0) .null h71 n0 Z71 A71 F_number_b71 F_bytes_b71 g_b71) hZ (hw _ (List.mem_of_getElem? (i := 11) rfl)) (hw _ (List.mem_of_getElem? (i := 8) rfl)) (by decide) (by decide)) (g := (mkF m 218 #[.val (.long q1), .second, .val (.int p2), .val (.int p3), .val (.int p4), .val (.int p5), .val (.int p6), .val (.int (5 : Int32)), .val .null, .val (.int (0 : Int32)), .unset] [.null, (.long q1), (.ref b71), (.ref b71)])) rfl (by rw [hml]; rfl) (Steps.refl _) (a := b71) (argsL := [(.long q1), .null]) (rest := [(.ref b71)]) (lenOf pd_1 rfl) rfl (by show 2 * 0 + _ ≤ _; exact Nat.le_of_eq rfl) (hb hby at_218) (fun _ _ => ⟨rfl, e71, (Nat.le_of_ble_eq_true rfl), (Nat.le_of_ble_eq_true rfl)⟩)
            dsimp only [Pt.U, Pt.locs, Pt.cells, Pt.slots] at X72 l72 y72 z72 st72 hQ72
            subst l72 y72 z72
            obtain ⟨rfl, Nq72, Kq72, Eq72, Fb72⟩ := hQ72
            have N72 := Fr.app N0 Nq72
            obtain ⟨h72, e72⟩ : ∃ z, T72.heap = z := ⟨_, rfl⟩
            rw [e72] at Kq72 Eq72 Fb72
            have A71_73 := A71.keep Kq72
            have K72 := K71.trans Kq72 (allS (Or.inr sz_b71) all0)
            have Z72 : n0 ≤ h72.size := Nat.le_trans Z71 Kq72.1
            refine own_st (T' := T72) (g' := (mkF m 221 #[.val (.long q1), .second, .val (.int p2), .val (.int p3), .val (.int p4), .val (.int p5), .val (.int p6), .val (.int (5 : Int32)), .val .null, .val (.int (0 : Int32)), .unset] [(.ref b71)])) (fun t9 k9 => st72.trans k9) ?_
            refine own_st (T' := T72) (g' := (mkF m 223 #[.val (.long q1), .second, .val (.int p2), .val (.int p3), .val (.int p4), .val (.int p5), .val (.int p6), .val (.int (5 : Int32)), .val .null, .val (.int (0 : Int32)), .val (.ref b71)] [])) (fun t9 k9 => XS.astore X72.here hx rfl (hb hby at_221) rfl rfl (l' := #[.val (.long q1), .second, .val (.int p2), .val (.int p3), .val (.int p4), .val (.int p5), .val (.int p6), .val (.int (5 : Int32)), .val .null, .val (.int (0 : Int32)), .val (.ref b71)]) rfl k9) ?_
            refine own_st (T' := T72) (g' := (mkF m 225 #[.val (.long q1), .second, .val (.int p2), .val (.int p3), .val (.int p4), .val (.int p5), .val (.int p6), .val (.int (5 : Int32)), .val .null, .val (.int (0 : Int32)), .val (.ref b71)] [(.ref b71)])) (fun t9 k9 => XS.aload X72.here hx rfl (hb hby at_223) rfl rfl k9) ?_
            obtain ⟨cq74, kq74, qa74, qb74, qc74⟩ := isOf hZ e72 A71_73
            obtain ⟨_, _, ⟨T74, L74, k74, n74⟩, -, X74, ⟨Lc74, hQ74, l74, y74, z74⟩, st74⟩ := X72.virtualBack hx (y := (⟨"com/example/stockbook/stockbook/server/JsonLines$Line", "isBlank", "()Z"⟩ : MethodName)) (z := (⟨"com/example/stockbook/stockbook/server/JsonLines$Line", "isBlank", "()Z"⟩ : MethodName)) hown (mvT hZ (hw _ (List.mem_of_getElem? (i := 24) rfl))) (mvT hZ (hw _ (List.mem_of_getElem? (i := 25) rfl))) (notFace_of_selects (args := #[]) (mvT hZ (hw _ (List.mem_of_getElem? (i := 27) rfl)))) (mvT hZ (hw _ (List.mem_of_getElem? (i := 27) rfl))) (mvT hZ (hw _ (List.mem_of_getElem? (i := 26) rfl))) (by decide) (own_back (W := 0) (rmBn l Z a0 hw b71 h72 n0 Z72 Fb72) hZ (hw _ (List.mem_of_getElem? (i := 28) rfl)) (hw _ (List.mem_of_getElem? (i := 8) rfl)) (by decide) (by decide)) qa74 qc74 (g := (mkF m 225 #[.val (.long q1), .second, .val (.int p2), .val (.int p3), .val (.int p4), .val (.int p5), .val (.int p6), .val (.int (5 : Int32)), .val .null, .val (.int (0 : Int32)), .val (.ref b71)] [(.ref b71)])) rfl (by rw [hml]; rfl) (Steps.refl _) (argsL := []) (rest := []) (lenOf pd_3 rfl) rfl (by show 2 * 0 + _ ≤ _; exact Nat.le_of_eq rfl) (hb hby at_225) (fun _ _ => ⟨rfl, e72, (Nat.le_of_ble_eq_true rfl), (Nat.le_of_ble_eq_true rfl)⟩)
            dsimp only [Pt.U, Pt.locs, Pt.cells, Pt.slots] at X74 l74 y74 z74 st74 hQ74
            subst l74 y74 z74
            obtain ⟨rfl, Nq74, he74⟩ := hQ74
            have N74 := Fr.app N72 Nq74
            have e74 : T74.heap = h72 := he74
            refine own_st (T' := T74) (g' := (mkF m 228 #[.val (.long q1), .second, .val (.int p2), .val (.int p3), .val (.int p4), .val (.int p5), .val (.int p6), .val (.int (5 : Int32)), .val .null, .val (.int (0 : Int32)), .val (.ref b71)] [(.int (0 : Int32))])) (fun t9 k9 => st74.trans k9) ?_
            refine own_st (T' := T74) (g' := (mkF m 230 #[.val (.long q1), .second, .val (.int p2), .val (.int p3), .val (.int p4), .val (.int p5), .val (.int p6), .val (.int (5 : Int32)), .val .null, .val (.int (0 : Int32)), .val (.ref b71)] [(.int (0 : Int32)), (.int (0 : Int32))])) (fun t9 k9 => XS.iload X74.here hx rfl (hb hby at_228) rfl k9) ?_
            refine own_st (T' := T74) (g' := (mkF m 233 #[.val (.long q1), .second, .val (.int p2), .val (.int p3), .val (.int p4), .val (.int p5), .val (.int p6), .val (.int (5 : Int32)), .val .null, .val (.int (0 : Int32)), .val (.ref b71)] [])) (fun t9 k9 => XS.icmpNo X74.here hx rfl (hb hby at_230) rfl (teq rfl).2 k9) ?_
            refine own_st (T' := T74) (g' := (mkF m 234 #[.val (.long q1), .second, .val (.int p2), .val (.int p3), .val (.int p4), .val (.int p5), .val (.int p6), .val (.int (5 : Int32)), .val .null, .val (.int (0 : Int32)), .val (.ref b71)] [(.int (1 : Int32))])) (fun t9 k9 => XS.iconst X74.here hx rfl (hb hby at_233) k9) ?_
            refine own_st (T' := T74) (g' := (mkF m 238 #[.val (.long q1), .second, .val (.int p2), .val (.int p3), .val (.int p4), .val (.int p5), .val (.int p6), .val (.int (5 : Int32)), .val .null, .val (.int (0 : Int32)), .val (.ref b71)] [(.int (1 : Int32))])) (fun t9 k9 => XS.goto X74.here hx rfl (pc0 := 234) (pc' := 238) rfl (hb hby at_234) (by decide) (by decide) k9) ?_
            refine own_ret (v := some (.int (1 : Int32))) hF X74 (own_some hret) hlk (fun fs hr => retN X74 hx (t := .boolean) hret (by simp) (hb hby at_238) hr) ?_ (by decide) (by decide)
            try rw [e74]
            exact ⟨rfl, N74⟩
set_option maxRecDepth 65536 in
set_option maxHeartbeats 40000000 in
theorem comes_1 {Post : Tables → Env → Array Value → State → Outcome → State → Prop} (hpost : ∀ tb e args s v u, (limb_1_1.after args s (.returned v) u = true ∧ limb_1_2.after args s (.returned v) u = true ∧ True) → FrameEnd s (.returned v) u (Jvm.fieldLocs frame_1_writes args s ++ Jvm.arrayLocs frame_1_arrays args s ++ Jvm.staticLocs frame_1_statics s) 16 128 → Post tb e args s (.returned v) u) :
    ArmFor flags0 classFile x code maxLocals ret World_1 tables_1 room_1 Calls_1 rest_1 Pre_1 Post := by
  intro l hfl _ _ p e ha hc hk s m args below hf hA hF happ hP
  obtain ⟨hcalls, hrest, hpre⟩ := hP
  obtain ⟨-, -, -, hnamed, -, -, -, hat⟩ := (Spec.applies_iff hf).mp happ
  obtain ⟨hg, hn⟩ := and_e (Cond.before_iff.mp (show (Jvm.Cond.and given_1 narrow_1).before args s = true from hpre))
  obtain ⟨ga0, gb0⟩ := and_e hg
  obtain ⟨ga1, gb1⟩ := and_e gb0
  obtain ⟨ga2, gb2⟩ := and_e gb1
  obtain ⟨ga3, gb3⟩ := and_e gb2
  obtain ⟨ga4, gb4⟩ := and_e gb3
  obtain ⟨ga5, gb5⟩ := and_e gb4
  obtain ⟨w0, w1, w2, w3, w4, w5, rfl⟩ : ∃ w0 w1 w2 w3 w4 w5 : Value, args = #[w0, w1, w2, w3, w4, w5] := by
    have hs : args.size = 6 := by simpa [Cond.value, given_1] using ga0
    obtain ⟨L⟩ := args
    match L, hs with
    | [w0, w1, w2, w3, w4, w5], _ => exact ⟨w0, w1, w2, w3, w4, w5, rfl⟩
  have hw := fun d (hd : d ∈ tables_1) => atoms_spec (ws := Jvm.Cond.code x code maxLocals ret :: tables_1) hat d (List.mem_cons_of_mem _ hd)
  have hfit : Fit s := fun {y c} hc i hi => by
    obtain ⟨ha, rfl⟩ := Array.getElem?_eq_some_iff.mp hc
    have q := List.all_eq_true.mp ((Array.all_eq_true_iff_forall_mem.mp hF) _ (Array.getElem_mem ha)) i (List.mem_range.mpr hi)
    simpa [Array.getElem?_eq_getElem hi] using q
  obtain ⟨i0, ei0⟩ := isL_v ga1
  obtain rfl : w0 = (.long i0) := Option.some.inj ei0
  obtain ⟨i1, ei1⟩ := is_v ga2
  obtain rfl : w1 = (.int i1) := Option.some.inj ei1
  obtain ⟨i2, ei2⟩ := is_v ga3
  obtain rfl : w2 = (.int i2) := Option.some.inj ei2
  obtain ⟨i3, ei3⟩ := is_v ga4
  obtain rfl : w3 = (.int i3) := Option.some.inj ei3
  obtain ⟨i4, ei4⟩ := is_v ga5
  obtain rfl : w4 = (.int i4) := Option.some.inj ei4
  obtain ⟨i5, ei5⟩ := is_v gb5
  obtain rfl : w5 = (.int i5) := Option.some.inj ei5
  obtain ⟨n, o, h1, h2, h3, _, L, rfl, ⟨rfl, N⟩, hq⟩ := rm0 l s _ hw i0 i1 i2 i3 i4 i5 s.heap s.heap.size (Nat.le_refl _)  tables_1 p e ha hc hk s m _ below hf ((Spec.applies_iff_loose hf).mp happ).1 ⟨rfl, State.Warmed39.refl s, rfl⟩ trivial
  refine ⟨n, _, h1, h2, h3, hpost _ _ _ _ _ _ ⟨Cond.after_iff.mpr rfl, Cond.after_iff.mpr (eq_i res_at (Term.int_eval (1)) rfl), trivial⟩ ⟨hq.1, hq.2.1, (hq.2.2.sift fun y hy => Or.inr (N y hy)).mono (by decide) (by decide)⟩⟩
theorem main_1_1 : Claimed_1_1 := comes_1 fun _ _ _ _ _ _ h hF => ⟨h.1, hF⟩
theorem main_1_2 : Claimed_1_2 := comes_1 fun _ _ _ _ _ _ h hF => ⟨h.2.1, hF⟩
end Jvm.Pilot.@@N@@
namespace Jvm.Pilot.@@N@@
open Jvm Jvm.ClassFile Sem Op Lib Jvm.Free Jvm.Stand Jvm.Pilot.@@N@@.Jvm.D
/-! MADE BY PROGRAM (witnessworld.py) out of the Statement's table words and the real class files: 10 classes; the members and pool entries that the words name. The judged class is class 1, her method 2. -/
namespace start1
open Jvm.ClassFile
def u (s : String) : CpInfo := .utf8 (stringToUtf16 s)
/-- a pool by its gaps: so many unusable entries, then the entry; so many at the end -/
def gap : Nat → List CpInfo → List CpInfo
  | 0, r => r
  | n + 1, r => .unusable :: gap n r
def poolList (es : List (Nat × CpInfo)) (last : Nat) : List CpInfo := es.foldr (fun e r => gap e.1 (e.2 :: r)) (gap last [])
def pool (es : List (Nat × CpInfo)) (last : Nat) : Array CpInfo := ⟨poolList es last⟩
def fileOf (pool : Array CpInfo) (this : Nat) (attrs : Array Attribute := #[]) (ms : Array MethodInfo := #[]) (fl : Nat := 33) (sup : Nat := 0) (ifs : Array Nat := #[]) (fds : Array FieldInfo := #[]) : ClassFile where
  minorVersion := 0
  majorVersion := 65
  constantPool := pool
  accessFlags := fl
  thisClass := this
  superClass := sup
  interfaces := ifs
  fields := fds
  methods := ms
  attributes := attrs
def plain (name : String) (sup : Option ClassId) : Class where
  name := name
  kind := .ordinary
  loader := none
  accessFlags := 33
  super := sup
  interfaces := #[]
  cf := none
  fields := #[]
  methods := #[]
  instanceTypes := #[]
  staticTypes := #[]
  resolved := #[]
  callSites := []
  init := .initialized
  statics := none
  mirror := none

def pool0 : Array CpInfo := pool [(5, u "<init>"), (0, u "()V"), (1, .class_ 10), (1, u "java/lang/Object")] 113

def k0c0 : Code := { maxStack := 0, maxLocals := 1, code := object_method_1_code, exceptionTable := #[], attributes := #[] }
def k0m0 : Method := { name := "<init>", desc := "()V", sig := { parameters := [], returnType := none }, accessFlags := 1, code := some k0c0 }
/-- java/lang/Object -/
def k0 : Class := { plain "java/lang/Object" none with
  accessFlags := 33
  interfaces := #[]
  cf := some (fileOf pool0 8 #[] #[{ accessFlags := 1, nameIndex := 5, descriptorIndex := 6, attributes := #[] }] 33 0 #[] #[])
  fields := #[]
  methods := #[k0m0]
  instanceTypes := #[]
  staticTypes := #[]
  resolved := Array.replicate 124 none
  statics := none }

def pool1 : Array CpInfo := pool [(2, .class_ 4), (1, u "java/lang/Object"), (0, u "<init>"), (0, u "()V"), (0, .integer 2147483647), (0, .methodref 9 10), (0, .class_ 11), (0, .nameAndType 12 13), (0, u "com/example/stockbook/stockbook/server/LineIsBlankPinLaw"), (0, u "ws"), (0, u "(I)Z"), (0, .class_ 15), (0, u "com/example/stockbook/stockbook/server/JsonLines$Line"), (0, .methodref 14 17), (0, .nameAndType 5 18), (0, u "(J[B)V"), (0, .methodref 14 20), (0, .nameAndType 21 22), (0, u "isBlank"), (0, u "()Z"), (3, u "law"), (0, u "(JIIIII)Z")] 8

def k1m0 : Method := { name := "<init>", desc := "()V", sig := { parameters := [], returnType := none }, accessFlags := 2, code := none }
def k1c1 : Code := { maxStack := 2, maxLocals := 2, code := method_2_code, exceptionTable := #[], attributes := #[] }
def k1m1 : Method := { name := "ws", desc := "(I)Z", sig := { parameters := [.int], returnType := some .boolean }, accessFlags := 10, code := some k1c1 }
def k1c2 : Code := { maxStack := 5, maxLocals := 11, code := code, exceptionTable := #[], attributes := #[] }
def k1m2 : Method := { name := "law", desc := "(JIIIII)Z", sig := { parameters := [.long, .int, .int, .int, .int, .int], returnType := some .boolean }, accessFlags := 9, code := some k1c2 }
/-- com/example/stockbook/stockbook/server/LineIsBlankPinLaw -/
def k1 : Class := { plain "com/example/stockbook/stockbook/server/LineIsBlankPinLaw" (some 0) with
  accessFlags := 49
  interfaces := #[]
  cf := some (fileOf pool1 9 #[] #[{ accessFlags := 2, nameIndex := 5, descriptorIndex := 6, attributes := #[] }, { accessFlags := 10, nameIndex := 12, descriptorIndex := 13, attributes := #[] }, { accessFlags := 9, nameIndex := 26, descriptorIndex := 27, attributes := #[] }] 49 2 #[] #[])
  fields := #[]
  methods := #[k1m0, k1m1, k1m2]
  instanceTypes := #[]
  staticTypes := #[]
  resolved := Array.replicate 36 none
  statics := none }

def pool2 : Array CpInfo := pool [(1, .methodref 2 3), (0, .class_ 4), (0, .nameAndType 5 6), (0, u "java/lang/Object"), (0, u "<init>"), (0, u "()V"), (0, .class_ 8), (0, u "java/lang/Record")] 13

def k2c0 : Code := { maxStack := 1, maxLocals := 1, code := jdk_30_method_1_code, exceptionTable := #[], attributes := #[] }
def k2m0 : Method := { name := "<init>", desc := "()V", sig := { parameters := [], returnType := none }, accessFlags := 4, code := some k2c0 }
/-- java/lang/Record -/
def k2 : Class := { plain "java/lang/Record" (some 0) with
  accessFlags := 1057
  interfaces := #[]
  cf := some (fileOf pool2 7 #[] #[{ accessFlags := 4, nameIndex := 5, descriptorIndex := 6, attributes := #[] }] 1057 2 #[] #[])
  fields := #[]
  methods := #[k2m0]
  instanceTypes := #[]
  staticTypes := #[]
  resolved := Array.replicate 22 none
  statics := none }

def pool3 : Array CpInfo := pool [(1, .methodref 2 3), (0, .class_ 4), (0, .nameAndType 5 6), (0, u "java/lang/Record"), (0, u "<init>"), (0, u "()V"), (0, .fieldref 8 9), (0, .class_ 10), (0, .nameAndType 11 12), (0, u "com/example/stockbook/stockbook/server/JsonLines$Line"), (0, u "number"), (0, u "J"), (0, .fieldref 8 14), (0, .nameAndType 15 16), (0, u "bytes"), (0, u "[B"), (12, u "(J[B)V"), (3, u "isBlank"), (0, u "()Z"), (10, .class_ 46), (0, u "com/example/stockbook/stockbook/server/JsonLines")] 20

def k3c0 : Code := { maxStack := 3, maxLocals := 4, code := prog_32_method_1_code, exceptionTable := #[], attributes := #[] }
def k3m0 : Method := { name := "<init>", desc := "(J[B)V", sig := { parameters := [.long, (.array .byte)], returnType := none }, accessFlags := 0, code := some k3c0 }
def k3c1 : Code := { maxStack := 2, maxLocals := 5, code := prog_32_method_2_code, exceptionTable := #[], attributes := #[] }
def k3m1 : Method := { name := "isBlank", desc := "()Z", sig := { parameters := [], returnType := some .boolean }, accessFlags := 0, code := some k3c1 }
/-- com/example/stockbook/stockbook/server/JsonLines$Line -/
def k3 : Class := { plain "com/example/stockbook/stockbook/server/JsonLines$Line" (some 2) with
  accessFlags := 48
  interfaces := #[]
  cf := some (fileOf pool3 8 #[.nestHost 45] #[{ accessFlags := 0, nameIndex := 5, descriptorIndex := 29, attributes := #[] }, { accessFlags := 0, nameIndex := 33, descriptorIndex := 34, attributes := #[] }] 48 2 #[] #[{ accessFlags := 18, nameIndex := 11, descriptorIndex := 12, attributes := #[] }, { accessFlags := 18, nameIndex := 15, descriptorIndex := 16, attributes := #[] }])
  fields := #[{ name := "number", type := .long, accessFlags := 18, slot := 0, constantValue := 0 }, { name := "bytes", type := (.array .byte), accessFlags := 18, slot := 1, constantValue := 0 }]
  methods := #[k3m0, k3m1]
  instanceTypes := #[.long, (.array .byte)]
  staticTypes := #[]
  resolved := Array.replicate 67 none
  statics := none }

def pool4 : Array CpInfo := pool [(1, u "java/lang/Cloneable"), (0, .class_ 1), (0, u "java/lang/Object"), (0, .class_ 3)] 3

/-- java/lang/Cloneable -/
def k4 : Class := { plain "java/lang/Cloneable" (some 0) with
  accessFlags := 1537
  interfaces := #[]
  cf := some (fileOf pool4 2 #[] #[] 1537 4 #[] #[])
  fields := #[]
  methods := #[]
  instanceTypes := #[]
  staticTypes := #[]
  resolved := Array.replicate 8 none
  statics := none }

def pool5 : Array CpInfo := pool [(1, u "java/io/Serializable"), (0, .class_ 1), (0, u "java/lang/Object"), (0, .class_ 3)] 3

/-- java/io/Serializable -/
def k5 : Class := { plain "java/io/Serializable" (some 0) with
  accessFlags := 1537
  interfaces := #[]
  cf := some (fileOf pool5 2 #[] #[] 1537 4 #[] #[])
  fields := #[]
  methods := #[]
  instanceTypes := #[]
  staticTypes := #[]
  resolved := Array.replicate 8 none
  statics := none }

/-- the primitive byte -/
def k6 : Class := { plain "byte" none with kind := .primitive 'B', accessFlags := 0x411 }
/-- [B -/
def k7 : Class := { plain "[B" (some 0) with kind := .array 6 .byte, interfaces := #[4, 5], accessFlags := 1041 }

/-- the primitive int -/
def k8 : Class := { plain "int" none with kind := .primitive 'I', accessFlags := 0x411 }
/-- [I -/
def k9 : Class := { plain "[I" (some 0) with kind := .array 8 .int, interfaces := #[4, 5], accessFlags := 1041 }

def heap : Heap := #[]
def classes : Array Class := #[k0, k1, k2, k3, k4, k5, k6, k7, k8, k9]
def interned : List (Array UInt16 × Addr) := []
def slotsUsed : Nat := 0
def theMethod : MethodId := ⟨1, 2⟩
def args0 : Array Value := #[.long 5, .int 9, .int 3, .int 2, .int 2, .int 2]
def aboutOver (below : List Frame) : State where
  vm := { classes := classes, interned := interned.toArray }
  heap := heap
  slotsUsed := slotsUsed
  threads := #[{ frames := .invoking theMethod args0 :: below }]
def below0 : List Frame := [.native { method := ⟨0, 0⟩, args := #[] }]
def about1 : State := aboutOver below0
def p0 : Program := .bare "" "" ""
def e0 : Env := launch0.env 0 0 0
theorem w_frames : about1.frames = Frame.invoking theMethod args0 :: below0 := rfl
set_option maxRecDepth 65536 in
theorem w_args : argsFit about1.vm theMethod args0 = true := by decide +kernel
set_option maxRecDepth 65536 in
theorem w_heap : heapFits about1 = true := by decide +kernel
set_option maxRecDepth 65536 in
theorem w_runnable : about1.curStatus? = some .runnable := by decide +kernel
set_option maxRecDepth 65536 in
theorem w_alone : about1.alone = true := by decide +kernel
set_option maxRecDepth 65536 in
theorem w_named : about1.methodNamed? x = some theMethod := by decide +kernel
set_option maxRecDepth 65536 in
theorem w_hears : about1.hears theMethod below0 = true := by decide +kernel
set_option maxRecDepth 65536 in
theorem w_ripe : about1.ripe theMethod args0 below0 = true := by decide +kernel
theorem w_running : about1.status = .running := rfl
set_option maxRecDepth 65536 in
theorem w_room : about1.hasRoom e0.platform room_1 = true :=
  launch0.hasRoom_least _ room_1 (by decide +kernel) (by decide +kernel) (by decide +kernel) (by decide +kernel) (by decide +kernel) (by decide +kernel)
theorem allAtoms_all (ts : List Jvm.Cond) (a : Array Jvm.Value) (st : Jvm.State) : (allAtoms ts).before a st = ts.all (fun c => c.before a st) := by
  induction ts with
  | nil => rfl
  | cons c t ih =>
    show (Jvm.Cond.and c (allAtoms t)).before a st = _
    rw [Jvm.Cond.before_and, ih, List.all_cons]
def words1 : List Jvm.Cond := Jvm.Cond.code x code maxLocals ret :: tables_1
/-- a 'code' word, met by the world's own term for the bytes: nothing is compared byte by byte -/
theorem code_word {y : MethodName} {bytes : ByteArray} {mx : Nat} {rt : Option FieldType} {a : Array Value} {s : State} {m : MethodId} {meth : Method} {c : Code} (h1 : s.methodNamed? y = some m) (h2 : s.vm.method? m = some meth) (h3 : meth.code = some c) (h4 : c.code = bytes)
    (h5 : (c.maxLocals == mx && c.exceptionTable.isEmpty && decide (c.maxStack ≤ mostOperands) && decide (meth.sig.returnType = rt) && !meth.locks && decide (parseMethodDescriptor y.desc = some meth.sig)) = true) : (Jvm.Cond.code y bytes mx rt).before a s = true := by
  simp only [Bool.and_eq_true, beq_iff_eq, Bool.not_eq_true', decide_eq_true_eq] at h5
  obtain ⟨⟨⟨⟨⟨g1, g2⟩, g3⟩, g4⟩, g5⟩, g6⟩ := h5
  simp [Cond.before, Cond.holds, Cond.value, h1, h2, h3, h4, g1, g2, g3, g4, g5, g6]
def isCode : Jvm.Cond → Bool
  | .code _ _ _ _ => true
  | _ => false
theorem all_split {L : List Jvm.Cond} {P : Jvm.Cond → Bool} (h1 : L.all (fun c => isCode c || P c) = true) (h2 : ∀ c ∈ L.filter isCode, P c = true) : L.all P = true := by
  refine List.all_eq_true.mpr fun c hc => ?_
  have h := List.all_eq_true.mp h1 c hc
  rcases Bool.eq_false_or_eq_true (isCode c) with hi | hi
  · exact h2 c (List.mem_filter.mpr ⟨hc, hi⟩)
  · simpa [hi] using h
set_option maxRecDepth 65536 in
theorem w_c0 : (Jvm.Cond.code x code maxLocals ret).before args0 about1 = true := code_word (m := ⟨1, 2⟩) (meth := k1m2) (c := k1c2) (by decide +kernel) rfl rfl rfl (by decide +kernel)
set_option maxRecDepth 65536 in
theorem w_c1 : (Jvm.Cond.code ({ cls := "com/example/stockbook/stockbook/server/LineIsBlankPinLaw", name := "ws", desc := "(I)Z" } : Jvm.MethodName) method_2_code (2 : Nat) (Option.some Jvm.ClassFile.FieldType.boolean)).before args0 about1 = true := code_word (m := ⟨1, 1⟩) (meth := k1m1) (c := k1c1) (by decide +kernel) rfl rfl rfl (by decide +kernel)
set_option maxRecDepth 65536 in
theorem w_c2 : (Jvm.Cond.code ({ cls := "com/example/stockbook/stockbook/server/JsonLines$Line", name := "<init>", desc := "(J[B)V" } : Jvm.MethodName) prog_32_method_1_code (4 : Nat) (Option.none : Option Jvm.ClassFile.FieldType)).before args0 about1 = true := code_word (m := ⟨3, 0⟩) (meth := k3m0) (c := k3c0) (by decide +kernel) rfl rfl rfl (by decide +kernel)
set_option maxRecDepth 65536 in
theorem w_c3 : (Jvm.Cond.code ({ cls := "java/lang/Record", name := "<init>", desc := "()V" } : Jvm.MethodName) jdk_30_method_1_code (1 : Nat) (Option.none : Option Jvm.ClassFile.FieldType)).before args0 about1 = true := code_word (m := ⟨2, 0⟩) (meth := k2m0) (c := k2c0) (by decide +kernel) rfl rfl rfl (by decide +kernel)
set_option maxRecDepth 65536 in
theorem w_c4 : (Jvm.Cond.code ({ cls := "java/lang/Object", name := "<init>", desc := "()V" } : Jvm.MethodName) object_method_1_code (1 : Nat) (Option.none : Option Jvm.ClassFile.FieldType)).before args0 about1 = true := code_word (m := ⟨0, 0⟩) (meth := k0m0) (c := k0c0) (by decide +kernel) rfl rfl rfl (by decide +kernel)
set_option maxRecDepth 65536 in
theorem w_c5 : (Jvm.Cond.code ({ cls := "com/example/stockbook/stockbook/server/JsonLines$Line", name := "isBlank", desc := "()Z" } : Jvm.MethodName) prog_32_method_2_code (5 : Nat) (Option.some Jvm.ClassFile.FieldType.boolean)).before args0 about1 = true := code_word (m := ⟨3, 1⟩) (meth := k3m1) (c := k3c1) (by decide +kernel) rfl rfl rfl (by decide +kernel)
def codes1 : List Jvm.Cond := [Jvm.Cond.code x code maxLocals ret, Jvm.Cond.code ({ cls := "com/example/stockbook/stockbook/server/LineIsBlankPinLaw", name := "ws", desc := "(I)Z" } : Jvm.MethodName) method_2_code (2 : Nat) (Option.some Jvm.ClassFile.FieldType.boolean), Jvm.Cond.code ({ cls := "com/example/stockbook/stockbook/server/JsonLines$Line", name := "<init>", desc := "(J[B)V" } : Jvm.MethodName) prog_32_method_1_code (4 : Nat) (Option.none : Option Jvm.ClassFile.FieldType), Jvm.Cond.code ({ cls := "java/lang/Record", name := "<init>", desc := "()V" } : Jvm.MethodName) jdk_30_method_1_code (1 : Nat) (Option.none : Option Jvm.ClassFile.FieldType), Jvm.Cond.code ({ cls := "java/lang/Object", name := "<init>", desc := "()V" } : Jvm.MethodName) object_method_1_code (1 : Nat) (Option.none : Option Jvm.ClassFile.FieldType), Jvm.Cond.code ({ cls := "com/example/stockbook/stockbook/server/JsonLines$Line", name := "isBlank", desc := "()Z" } : Jvm.MethodName) prog_32_method_2_code (5 : Nat) (Option.some Jvm.ClassFile.FieldType.boolean)]
set_option maxRecDepth 65536 in
theorem codes_eq : words1.filter isCode = codes1 := rfl
theorem w_codes : ∀ c ∈ words1.filter isCode, c.before args0 about1 = true := by
  rw [codes_eq]
  intro c hc
  simp only [codes1, List.mem_cons, List.not_mem_nil, or_false] at hc
  rcases hc with rfl | rfl | rfl | rfl | rfl | rfl
  · exact w_c0
  · exact w_c1
  · exact w_c2
  · exact w_c3
  · exact w_c4
  · exact w_c5
set_option maxRecDepth 65536 in
theorem w_t1 : (words1.take 24).all (fun c => isCode c || c.before args0 about1) = true := by decide +kernel
set_option maxRecDepth 65536 in
theorem w_t2 : (words1.drop 24).all (fun c => isCode c || c.before args0 about1) = true := by decide +kernel
theorem w_tables : (allAtoms (Jvm.Cond.code x code maxLocals ret :: tables_1)).before args0 about1 = true := by
  rw [allAtoms_all]
  show words1.all (fun c => c.before args0 about1) = true
  refine all_split ?_ w_codes
  rw [← List.take_append_drop 24 words1, List.all_append, w_t1, w_t2]
  rfl
set_option maxRecDepth 65536 in
theorem w_case : (Jvm.Cond.and given_1 narrow_1).before args0 about1 = true := by decide +kernel
theorem w_applies : (headSpec (Jvm.Cond.code x code maxLocals ret :: tables_1) room_1).applies x e0.platform about1 = true :=
  (Spec.applies_iff w_frames).mpr ⟨w_running, w_runnable, w_alone, w_named, w_hears, w_ripe, w_room, w_tables⟩
theorem atStart : AtStart classFile x code maxLocals ret World_1 tables_1 room_1 Calls_1 rest_1 Pre_1 launch0 p0 e0 about1 theMethod args0 below0 :=
  ⟨lists_1, trivial, launch0.admits_env _ _ _, launch0.least_env, fairChoices_fair.cas, fairChoices_fair.clock, w_frames, w_args, w_heap, w_applies, trivial, trivial, w_case⟩
end start1
theorem witness_1 : WitnessClaimed_1 := ⟨start1.p0, start1.e0, start1.about1, start1.theMethod, start1.args0, start1.below0, start1.atStart⟩
end Jvm.Pilot.@@N@@
