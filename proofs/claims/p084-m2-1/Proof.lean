import JvmDerived
import JvmDerived.Pilot.@@N@@Statement
import JvmDerived.Pilot.@@N@@Code
set_option linter.unusedVariables false
set_option linter.unusedSimpArgs false
namespace Jvm.RoadKit
open Sem ClassFile Op Lib Jvm.Stand Jvm.Free Jvm.LawKit
section New
variable {p : Program} {l : Launch} {e : Env} {R : Room} {s : State} {m : MethodId} {args : Array Value} {below : List Frame} {meth : Method} {c : Code} {T : State} {locs : List Loc} {cells slots : Nat}
theorem retI (X : Stand p l e R s m args below meth c T locs cells slots) (hx : p.tables.exec = Jvm.exec) {pc : Nat} {Ls : Array Slot} {z : Int32} {rest : List Value} (hret : meth.sig.returnType = some .int) (hd : decode c.code pc = .ok (.ireturn, 1)) {fs : List Frame}
    (hl : ∀ (f : JFrame) (acts : List Action), f.method = m → f.locked = none → f.entered = [] → (doReturn e (T.setTop f) acts (some (.int z))).1 = T.setFrames fs) : Steps p.tables e below (T.setTop (mkF m pc Ls (.int z :: rest))) (T.setFrames fs) := by
  have hm' : T.vm.method? m = some meth := X.method'
  have hn : narrow .int (.int z) = .int z := rfl
  show Steps p.tables e below (T.setTop { method := m, pc := pc, locals := Ls, stack := _ :: rest, locked := none }) _
  jvm_step X.here [X.here.top, hx, hd, hm', hret, hn]
  first | (intro acts; rw [hl _ acts rfl rfl rfl]) | rw [hl _ _ rfl rfl rfl]
  exact Steps.refl _
theorem own_retA (X : Stand p l e R s m args below meth c T locs cells slots) (hx : p.tables.exec = Jvm.exec) {pc : Nat} {Ls : Array Slot} {z : Value} {ty : FieldType} {rest : List Value} (hret : meth.sig.returnType = some ty) (hty : ty.isReference = true) (hz : z.isRef = true) (hd : decode c.code pc = .ok (.areturn, 1)) {fs : List Frame}
    (hl : ∀ (f : JFrame) (acts : List Action), f.method = m → f.locked = none → f.entered = [] → (doReturn e (T.setTop f) acts (some z)).1 = T.setFrames fs) : Steps p.tables e below (T.setTop (mkF m pc Ls (z :: rest))) (T.setFrames fs) := by
  have hm' : T.vm.method? m = some meth := X.method'
  show Steps p.tables e below (T.setTop { method := m, pc := pc, locals := Ls, stack := _ :: rest, locked := none }) _
  jvm_step X.here [X.here.top, hx, hd, hm', hret, hty, hz]
  first | (intro acts; rw [hl _ acts rfl rfl rfl]) | rw [hl _ _ rfl rfl rfl]
  exact Steps.refl _
theorem own_retD (X : Stand p l e R s m args below meth c T locs cells slots) (hx : p.tables.exec = Jvm.exec) {pc : Nat} {Ls : Array Slot} {z : UInt64} {rest : List Value} (hret : meth.sig.returnType = some .double) (hd : decode c.code pc = .ok (.dreturn, 1)) {fs : List Frame}
    (hl : ∀ (f : JFrame) (acts : List Action), f.method = m → f.locked = none → f.entered = [] → (doReturn e (T.setTop f) acts (some (.double z))).1 = T.setFrames fs) : Steps p.tables e below (T.setTop (mkF m pc Ls (.double z :: rest))) (T.setFrames fs) :=
  retOut X hx hret rfl (Or.inr (Or.inr (Or.inl ⟨rfl, rfl, z, rfl⟩))) hd hl
/-- where a body is to end: it runs, it has ended, it returned v, Q says what v and the heap are -/
def own_F (s : State) (below : List Frame) (Q : Option Value → Heap → List Loc → Prop) (C S : Nat) (t : State) (o : Outcome) : Prop := t.status = .running ∧ Ended t below o ∧ ∃ v L, o = .returned v ∧ Q v t.heap L ∧ FrameEnd s o t L C S
/-- the run from T, with the frame g on top, comes to such an end -/
def own_Go (p : Program) (e : Env) (below : List Frame) (F : State → Outcome → Prop) (T : State) (g : JFrame) : Prop := ∃ t o, Steps p.tables e below (T.setTop g) t ∧ F t o
theorem own_st {F : State → Outcome → Prop} {T T' : State} {g g' : JFrame} (h : ∀ t, Steps p.tables e below (T'.setTop g') t → Steps p.tables e below (T.setTop g) t) (k : own_Go p e below F T' g') : own_Go p e below F T g := by
  obtain ⟨t, o, h1, h2⟩ := k
  exact ⟨t, o, h t h1, h2⟩
theorem own_cast {F : State → Outcome → Prop} {T : State} {g g' : JFrame} (q : g = g') (k : own_Go p e below F T g') : own_Go p e below F T g := q ▸ k
theorem own_ret {F : State → Outcome → Prop} {Q : Option Value → Heap → List Loc → Prop} {C S : Nat} {g : JFrame} {v : Option Value} (hF : F = own_F s below Q C S) (X : Stand p l e R s m args below meth c T locs cells slots) (hv : meth.sig.returnType = none → v = none) (hlk : meth.locks = false)
    (hst : ∀ fs, (∀ (f : JFrame) (acts : List Action), f.method = m → f.locked = none → f.entered = [] → (doReturn e (T.setTop f) acts v).1 = T.setFrames fs) → Steps p.tables e below (T.setTop g) (T.setFrames fs)) (hQ : Q v T.heap locs) (hc : cells ≤ C) (hs : slots ≤ S) : own_Go p e below F T g := by
  subst hF
  obtain ⟨fs, hr, hrun, hended, hW, hsame⟩ := X.leave hv hlk
  exact ⟨T.setFrames fs, .returned v, hst fs hr, hrun, hended, v, locs, rfl, hQ, ⟨_, rfl⟩, hW, hsame.mono hc hs⟩
theorem own_some {ret : Option FieldType} {ty : FieldType} {v : Option Value} (hret : ret = some ty) : ret = none → v = none := fun h => by rw [hret] at h; cases h
/-- a body's contract: called with 'as' at the heap h0 it returns, and Q holds of what it returned, of the heap, of the places written -/
abbrev own_Met (l : Launch) (Z : State) (y : MethodName) (bytes : ByteArray) (maxL : Nat) (ret : Option FieldType) (rm : Room) (as : Array Value) (h0 : Heap) (Q : Option Value → Heap → List Loc → Prop) : Prop :=
  ∀ ws : List Jvm.Cond, MetFree l y (head1 (Jvm.Cond.code y bytes maxL ret :: ws) rm) (fun a U => a = as ∧ Z.Warmed39 U.vm ∧ U.heap = h0) (fun _ _ _ _ _ => True) (fun _ U o U' => ∃ v L, o = .returned v ∧ Q v U'.heap L ∧ FrameEnd U o U' L rm.cells rm.slots)
theorem own_body {Z : State} {y : MethodName} {bytes : ByteArray} {maxL : Nat} {ret : Option FieldType} {rm : Room} {as : Array Value} {h0 : Heap} {Q : Option Value → Heap → List Loc → Prop} (hpl : plainFor y = true)
    (body : ∀ (p : Program) (e : Env) (s : State) (m : MethodId) (below : List Frame) (meth : Method) (c : Code) (T : State), Z.Warmed39 s.vm → p.tables.exec = Jvm.exec → c.code = bytes → c.maxLocals = maxL → s.vm.findClass y.cls = some m.cls → meth.name = y.name → meth.sig.returnType = ret → meth.locks = false →
      Stand p l e rm s m as below meth c T [] 0 0 → T.heap = h0 → ∀ F : State → Outcome → Prop, F = own_F s below Q rm.cells rm.slots → own_Go p e below F T (entryFrame m as maxL)) : own_Met l Z y bytes maxL ret rm as h0 Q := by
  intro ws
  refine MetFree.of_bodySF hpl hisR ?_
  intro p e s m args below meth c s₁ Bd hml0 hP hK
  obtain ⟨rfl, hZ, hh⟩ := hP
  obtain ⟨t, o, h1, h2, h3, h4⟩ := body p e s m below meth c s₁ hZ Bd.exec Bd.bytes hml0 (findClass_of_methodNamed Bd.named) (name_of_methodNamed Bd.named Bd.method).1 Bd.returns (BodyLoose.notSynchronized Bd) (Stand.of_body Bd) (by rw [← hh, Bd.state]; rfl) _ rfl
  exact ⟨t, o, h1, h2, h3, h4⟩
theorem own_back {Z : State} {a0 : Array Value} {y : MethodName} {bytes : ByteArray} {maxL : Nat} {ret : Option FieldType} {rm : Room} {len W : Nat} {as' : Array Value} {h : Heap} {Q : Option Value → Heap → List Loc → Prop} (hM : own_Met l Z y bytes maxL ret rm as' h Q)
    (hZ : Z.Warmed39 s.vm) (wc : (Cond.code y bytes maxL ret).before a0 Z = true) (wz : (Cond.initialized y.cls).before a0 Z = true) (hf : rm.frames + 1 ≤ R.frames) (hl : W + (maxL + 11) + rm.locals ≤ R.locals) :
    Back l R p e below s args y len W (fun A a => a = as' ∧ A.U.heap = h ∧ A.cells + rm.cells ≤ R.cells ∧ A.slots + rm.slots ≤ R.slots)
      (fun A _ v B => ∃ L, Q v B.U.heap L ∧ B.locs = A.locs ++ L ∧ B.cells = A.cells + rm.cells ∧ B.slots = A.slots + rm.slots) := backOf (Q := Q) (rm := rm) (hM []) hZ wc wz hf hl
theorem own_selP {Z : State} {a0 : Array Value} {y : MethodName} {n : Nat} (hZ : Z.Warmed39 s.vm) (wi : (Cond.instantiable y.cls n).before a0 Z = true) (hpriv : s.PrivateAt y) (hinst : (Cond.instanceMethod y).before args s = true) (hy : y.cls ≠ "java/lang/invoke/MethodHandle" ∧ y.cls ≠ "java/lang/invoke/VarHandle") : (Cond.selects y.cls y y).before args s = true := by
  obtain ⟨c, k, h1, h2, h3, h4, -, -⟩ := Cond.instantiable_spec (mvT (args := args) hZ wi)
  exact selects_self_of_private h1 h2 (by cases hi : k.isInterface <;> simp [hi] at h4 ⊢) hpriv hinst hy
theorem own_fresh {Z : State} {h : Heap} {b : Addr} (g : b = h.size) {n : Nat} (q : n ≤ h.size) : n ≤ b := g ▸ q
theorem own_ne {h : Heap} {a b : Addr} (g : b = h.size) (q : a < h.size) : a ≠ b := Nat.ne_of_lt (g ▸ q)
end New
end Jvm.RoadKit
namespace Jvm.RoadKit
open Jvm.FP Jvm.FP.Core
theorem own_ac (a b c d : Nat) : a * (b * c) * d = a * b * (c * d) := by ac_rfl
/-- a quotient of two data that is one at the most rounds to one at the most -/
theorem own_round (c d : Nat) (q r : Int) (hd : 0 < d) (h : c * 2 ^ (q.toNat + (-r).toNat) ≤ d * 2 ^ (r.toNat + (-q).toNat)) :
    ∃ c1 q1, roundRatio b64 false c d (q - r) = .fin false c1 q1 ∧ ∃ e0 : Int, e0 ≤ q1 ∧ e0 ≤ -52 ∧ inUnits c1 q1 e0 ≤ inUnits (2 ^ 52) (-52) e0 := by
  obtain ⟨e0, he0⟩ : ∃ e0 : Int, e0 = min (b64.qmin - 1) (-((r.toNat + (-q).toNat : Nat) : Int)) := ⟨_, rfl⟩
  have k1 : b64.qmin = -1074 := by decide
  have k2 : b64.qmax = 971 := by decide
  have b1 : e0 ≤ -1075 := by omega
  have b2 : e0 ≤ -((r.toNat + (-q).toNat : Nat) : Int) := by omega
  have b3 : e0 ≤ q - r := by omega
  have hu : inUnits c (q - r) e0 ≤ d * 2 ^ (-e0).toNat := by
    unfold inUnits
    have e1 : (q - r - e0).toNat = (q.toNat + (-r).toNat) + ((-e0).toNat - (r.toNat + (-q).toNat)) := by omega
    have e2 : (-e0).toNat = (r.toNat + (-q).toNat) + ((-e0).toNat - (r.toNat + (-q).toNat)) := by omega
    rw [e1, Nat.pow_add, ← Nat.mul_assoc]
    conv => rhs; rw [e2, Nat.pow_add, ← Nat.mul_assoc]
    exact Nat.mul_le_mul_right _ h
  have one : inUnits (2 ^ 52) (-52) e0 = 2 ^ (-e0).toNat := by
    unfold inUnits
    rw [← Nat.pow_add]
    congr 1
    omega
  rcases roundRatio_cases b64 false c d (q - r) with ⟨c1, q1, hq⟩ | hq
  · have hf := roundRatio_fits good_b64 false c hd (q - r)
    rw [hq] at hf
    have near := roundRatio_nearest good_b64 (e0 := e0) hd hq (c' := 2 ^ 52) (q' := -52) (by decide) (by omega) (by omega) b3
    refine ⟨c1, q1, hq, e0, ?_, by omega, ?_⟩
    · have := hf.2.1; omega
    · rw [one]
      refine Nat.le_of_not_lt fun lt => ?_
      unfold distance at near
      rw [one] at near
      have m1 : 2 ^ (-e0).toNat * d + d ≤ inUnits c1 q1 e0 * d := by
        have := Nat.mul_le_mul_right d (Nat.succ_le_of_lt lt)
        rw [Nat.succ_mul] at this
        exact this
      have m2 : inUnits c (q - r) e0 ≤ 2 ^ (-e0).toNat * d := by rw [Nat.mul_comm]; exact hu
      rw [← Int.natCast_mul, ← Int.natCast_mul] at near
      omega
  · exfalso
    have hi := (roundRatio_inf good_b64 (s := false) (A := c) (e := q - r) (e0 := e0) hd (by omega) b3).mp hq
    have e3 : (b64.qmax - 1 - e0).toNat = 970 + (-e0).toNat := by omega
    rw [e3] at hi
    have p1 : b64.p + 1 = 54 := by decide
    rw [p1, Nat.pow_add] at hi
    have p2 := Nat.two_pow_pos (-e0).toNat
    have p3 : 2 ≤ (2 ^ 54 - 1) * 2 ^ 970 := by decide +kernel
    rw [own_ac] at hi
    generalize (2 ^ 54 - 1) * 2 ^ 970 = P at hi p3
    have m2 : inUnits c (q - r) e0 ≤ 2 ^ (-e0).toNat * d := by rw [Nat.mul_comm]; exact hu
    have m3 := Nat.mul_le_mul_right (2 ^ (-e0).toNat * d) p3
    have m4 : 0 < 2 ^ (-e0).toNat * d := Nat.mul_pos p2 hd
    omega
/-- n over m, where 0 ≤ n ≤ m and m isn't 0 -/
theorem own_div (n m : Int32) (h0 : 0 ≤ n.toInt) (h1 : n.toInt ≤ m.toInt) (h2 : 0 < m.toInt) :
    (∃ o, FP.dcmp (FP.ddiv (FP.i2d n) (FP.i2d m)) FP.dconst1 = some o ∧ o ≠ .gt) ∧ (∃ o, FP.dcmp (FP.ddiv (FP.i2d n) (FP.i2d m)) FP.dconst0 = some o ∧ o ≠ .lt) := by
  have shape : ∀ x : Int32, 0 ≤ x.toInt → ∃ c q, val64 (Core.i2d x) = .fin false c q ∧ c * 2 ^ q.toNat = x.toInt.natAbs * 2 ^ (-q).toNat := by
    intro x hx
    have w := i2d_int x
    unfold DInt at w
    have v := val64_i2d x
    rcases roundRatio_cases b64 (decide (x.toInt < 0)) x.toInt.natAbs 1 0 with ⟨c, q, e⟩ | e
    · have e' : val64 (Core.i2d x) = .fin (decide (x.toInt < 0)) c q := v.trans e
      rw [e'] at w
      refine ⟨c, q, ?_, whole_natAbs w⟩
      rw [e', decide_eq_false (by omega)]
    · have e' : val64 (Core.i2d x) = .inf (decide (x.toInt < 0)) := v.trans e
      rw [e'] at w
      exact w.elim
  obtain ⟨c, q, ec, hc⟩ := shape n h0
  obtain ⟨d, r, ed, hd⟩ := shape m (by omega)
  have dpos : 0 < d := by
    refine Nat.pos_of_ne_zero fun z => ?_
    rw [z, Nat.zero_mul] at hd
    have := Nat.mul_eq_zero.mp hd.symm
    have := Nat.two_pow_pos (-r).toNat
    omega
  have key : c * 2 ^ (q.toNat + (-r).toNat) ≤ d * 2 ^ (r.toNat + (-q).toNat) := by
    rw [Nat.pow_add, ← Nat.mul_assoc, hc, Nat.pow_add, ← Nat.mul_assoc, hd]
    have le : n.toInt.natAbs ≤ m.toInt.natAbs := by omega
    calc n.toInt.natAbs * 2 ^ (-q).toNat * 2 ^ (-r).toNat = n.toInt.natAbs * (2 ^ (-q).toNat * 2 ^ (-r).toNat) := Nat.mul_assoc ..
      _ ≤ m.toInt.natAbs * (2 ^ (-q).toNat * 2 ^ (-r).toNat) := Nat.mul_le_mul_right _ le
      _ = m.toInt.natAbs * 2 ^ (-r).toNat * 2 ^ (-q).toNat := by ac_rfl
  obtain ⟨c1, q1, hr, e0, a1, a2, a3⟩ := own_round c d q r dpos key
  have hv : val64 (Core.ddiv (Core.i2d n) (Core.i2d m)) = .fin false c1 q1 := by
    rw [val64_ddiv, ec, ed]
    show (if d = 0 then _ else roundRatio b64 (false != false) c d (q - r)) = _
    rw [if_neg (by omega)]
    exact hr
  refine ⟨⟨compare (signed false (inUnits c1 q1 (min q1 (-52)))) (signed false (inUnits (2 ^ 52) (-52) (min q1 (-52)))), ?_, ?_⟩, ⟨compare (signed false (inUnits c1 q1 (min q1 b64.qmin))) (signed false (inUnits 0 b64.qmin (min q1 b64.qmin))), ?_, ?_⟩⟩
  · show order (val64 (Core.ddiv (Core.i2d n) (Core.i2d m))) (val64 Core.dconst1) = _
    rw [hv, val64_dconst1]
    rfl
  · intro g
    have g' := (compare_gt_iff _ _).mp g
    have u1 := inUnits_move c1 (q := q1) (r := min q1 (-52)) (e := e0) (by omega) (by omega)
    have u2 := inUnits_move (2 ^ 52) (q := -52) (r := min q1 (-52)) (e := e0) (by omega) (by omega)
    rw [u1, u2] at a3
    have a4 := Nat.le_of_mul_le_mul_right a3 (Nat.two_pow_pos _)
    have g'' : ((inUnits (2 ^ 52) (-52) (min q1 (-52)) : Nat) : Int) < ((inUnits c1 q1 (min q1 (-52)) : Nat) : Int) := g'
    omega
  · show order (val64 (Core.ddiv (Core.i2d n) (Core.i2d m))) (val64 Core.dconst0) = _
    rw [hv, val64_dconst0]
    rfl
  · intro g
    have g' := (compare_lt_iff _ _).mp g
    have z : inUnits 0 b64.qmin (min q1 b64.qmin) = 0 := by unfold inUnits; exact Nat.zero_mul _
    rw [z] at g'
    have g'' : ((inUnits c1 q1 (min q1 b64.qmin) : Nat) : Int) < ((0 : Nat) : Int) := g'
    omega
end Jvm.RoadKit
namespace Jvm.Pilot.@@N@@
open Jvm Jvm.ClassFile Sem Op Lib Jvm.Free Jvm.Stand Jvm.LawKit Jvm.RoadKit Bundle Jvm.Pilot.@@N@@.Jvm.D

/-- a double from 0 to 1 -/
def own_P (x : UInt64) : Prop := Jvm.Free.Fl.NoNaN64 x ∧ ¬ cmpValue (FP.dcmp x FP.dconst0) .l < (0 : Int32) ∧ ¬ (0 : Int32) < cmpValue (FP.dcmp x FP.dconst1) .g
theorem own_P.zero : own_P FP.dconst0 := by
  refine ⟨by unfold Jvm.Free.Fl.NoNaN64; decide +kernel, by decide +kernel, by decide +kernel⟩
theorem own_P.div (n m : Int32) (h0 : 0 ≤ n.toInt) (h1 : n.toInt ≤ m.toInt) (h2 : 0 < m.toInt) : own_P (FP.ddiv (FP.i2d n) (FP.i2d m)) := by
  obtain ⟨⟨o1, e1, g1⟩, ⟨o2, e2, g2⟩⟩ := own_div n m h0 h1 h2
  refine ⟨(Jvm.Free.Fl.dcmp_some e1).1, ?_, ?_⟩
  · rw [e2]; cases o2 <;> first | exact absurd rfl g2 | decide
  · rw [e1]; cases o1 <;> first | exact absurd rfl g1 | decide
theorem own_range (a b : Int32) : 0 ≤ (a &&& (65535 : Int32)).toInt ∧ (a &&& (65535 : Int32)).toInt ≤ ((a &&& (65535 : Int32)) + (b &&& (65535 : Int32))).toInt := by
  have m1 := c_mask a (65535 : Int32) 16 (by decide) (by decide)
  have m2 := c_mask b (65535 : Int32) 16 (by decide) (by decide)
  have s := c_iadd (a &&& (65535 : Int32)) (b &&& (65535 : Int32))
  have r := rng32 ((a &&& (65535 : Int32)) + (b &&& (65535 : Int32)))
  omega

theorem pd_0 : parseMethodDescriptor "(D)Lcom/example/weighted_worlds/weightedworlds/Probability;" = some ⟨[.double], some (.object "com/example/weighted_worlds/weightedworlds/Probability")⟩ := by decide +kernel
theorem pd_1 : parseMethodDescriptor "(D)V" = some ⟨[.double], none⟩ := by decide +kernel
theorem pd_2 : parseMethodDescriptor "()V" = some ⟨[], none⟩ := by decide +kernel
theorem pd_3 : parseMethodDescriptor "()D" = some ⟨[], some .double⟩ := by decide +kernel
theorem d2_0 : decode prog_17_method_1_code 0 = .ok (.aload_n 0, 1) := by decide +kernel
theorem d2_1 : decode prog_17_method_1_code 1 = .ok (.invokespecial 1, 3) := by decide +kernel
theorem d2_4 : decode prog_17_method_1_code 4 = .ok (.aload_n 0, 1) := by decide +kernel
theorem d2_5 : decode prog_17_method_1_code 5 = .ok (.dload_n 1, 1) := by decide +kernel
theorem d2_6 : decode prog_17_method_1_code 6 = .ok (.putfield 7, 3) := by decide +kernel
theorem d2_9 : decode prog_17_method_1_code 9 = .ok (.return_, 1) := by decide +kernel
theorem pn_2 : plainFor (⟨"com/example/weighted_worlds/weightedworlds/Probability", "<init>", "(D)V"⟩ : MethodName) = true := plainFor_of_name (by first | (simp [plainName, overriddenIn]; done) | decide +kernel)
set_option maxRecDepth 65536 in
set_option maxHeartbeats 40000000 in
theorem rm2 (l : Launch) (Z : State) (a0 : Array Value) (hw : ∀ d ∈ tables_1, d.before a0 Z = true) (a1 : Addr) (d2 : UInt64) (u : Value) (h0 : Heap) (n0 : Nat) (Z0 : n0 ≤ h0.size) (E1 : Exa Z h0 a1 "com/example/weighted_worlds/weightedworlds/Probability") (F1 : Fld Z h0 a1 "com/example/weighted_worlds/weightedworlds/Probability" "value" "D" u) (g_a1 : n0 ≤ a1) :
    own_Met l Z (⟨"com/example/weighted_worlds/weightedworlds/Probability", "<init>", "(D)V"⟩ : MethodName) prog_17_method_1_code 3 none ({ frames := 1, cells := 0, slots := 0, locals := 12 } : Room) #[(.ref a1), (.double d2)] h0 (fun v h L => v = none ∧ Fr n0 L ∧ Keep h0 h [a1] ∧ Exa Z h a1 "com/example/weighted_worlds/weightedworlds/Probability" ∧ Fld Z h a1 "com/example/weighted_worlds/weightedworlds/Probability" "value" "D" (.double d2)) := by
  refine own_body pn_2 ?_
  intro p e s m below meth c T0 hZ hx hby hml hown hnm hret hlk X0 e0 F hF
  have N0 := Fr.nil n0
  have K0 := Keep.refl h0 [a1]
  refine own_cast (g' := (mkF m 0 #[.val (.ref a1), .val (.double d2), .second] [])) (by first | rfl | simp [entryFrame, mkF, argsToLocals, Value.category]) ?_
  refine own_st (T' := T0) (g' := (mkF m 1 #[.val (.ref a1), .val (.double d2), .second] [(.ref a1)])) (fun t9 k9 => XS.aloadN X0.here hx rfl (hb hby d2_0) rfl rfl k9) ?_
  obtain ⟨T1, X1, e1, st1⟩ := initO X0 hx hZ hown (hw _ (List.mem_of_getElem? (i := 10) rfl)) (hw _ (List.mem_of_getElem? (i := 11) rfl)) (hw _ (List.mem_of_getElem? (i := 12) rfl)) e0 (g := (mkF m 1 #[.val (.ref a1), .val (.double d2), .second] [(.ref a1)])) rfl (by rw [hml]; rfl) rfl (hb hby d2_1) (by decide) (W := 0) (by show 2 * 0 + _ ≤ _; exact Nat.le_of_eq rfl) (by decide)
  refine own_st (T' := T1) (g' := (mkF m 4 #[.val (.ref a1), .val (.double d2), .second] [])) (fun t9 k9 => st1 t9 k9) ?_
  refine own_st (T' := T1) (g' := (mkF m 5 #[.val (.ref a1), .val (.double d2), .second] [(.ref a1)])) (fun t9 k9 => XS.aloadN X1.here hx rfl (hb hby d2_4) rfl rfl k9) ?_
  refine own_st (T' := T1) (g' := (mkF m 6 #[.val (.ref a1), .val (.double d2), .second] [(.double d2), (.ref a1)])) (fun t9 k9 => XS.dloadN X1.here hx rfl (hb hby d2_5) rfl k9) ?_
  obtain ⟨T2, h2, X2, e2, W2, st2⟩ := putF X1 hx hZ hown (host := "") (Or.inl (hw _ (List.mem_of_getElem? (i := 13) rfl))) Via.refl e1 F1 E1 (Or.inr ⟨(hw _ (List.mem_of_getElem? (i := 14) rfl)), rfl, hnm⟩) (hw _ (List.mem_of_getElem? (i := 6) rfl)) (ty := .double) (by decide) rfl rfl (g := (mkF m 6 #[.val (.ref a1), .val (.double d2), .second] [(.double d2), (.ref a1)])) rfl rfl (hb hby d2_6)
  have Fw2 := F1.same W2
  have E1_3 := E1.wr W2
  have K2 := K0.wr W2 (Or.inl (by simp))
  have N2 := Fr.snoc X2 N0 g_a1
  have Z2 : n0 ≤ h2.size := by rw [W2.size]; exact Z0
  refine own_st (T' := T2) (g' := (mkF m 9 #[.val (.ref a1), .val (.double d2), .second] [])) (fun t9 k9 => st2 t9 k9) ?_
  refine own_ret (v := none) hF X2 (fun _ => rfl) hlk (fun fs hr => X2.returnOut hx hret (hb hby d2_9) hr) ?_ (by decide) (by decide)
  try rw [e2]
  exact ⟨rfl, N2, K2, E1_3, Fw2⟩
theorem d1_0 : decode prog_17_method_2_code 0 = .ok (.dload_n 0, 1) := by decide +kernel
theorem d1_1 : decode prog_17_method_2_code 1 = .ok (.dconst 0, 1) := by decide +kernel
theorem d1_2 : decode prog_17_method_2_code 2 = .ok (.dcmp .l, 1) := by decide +kernel
theorem d1_3 : decode prog_17_method_2_code 3 = .ok (.ifCond .lt 9, 3) := by decide +kernel
theorem d1_6 : decode prog_17_method_2_code 6 = .ok (.dload_n 0, 1) := by decide +kernel
theorem d1_7 : decode prog_17_method_2_code 7 = .ok (.dconst 1, 1) := by decide +kernel
theorem d1_8 : decode prog_17_method_2_code 8 = .ok (.dcmp .g, 1) := by decide +kernel
theorem d1_9 : decode prog_17_method_2_code 9 = .ok (.ifCond .le 17, 3) := by decide +kernel
theorem d1_12 : decode prog_17_method_2_code 12 = .ok (.new 13, 3) := by decide +kernel
theorem d1_15 : decode prog_17_method_2_code 15 = .ok (.dup, 1) := by decide +kernel
theorem d1_16 : decode prog_17_method_2_code 16 = .ok (.dload_n 0, 1) := by decide +kernel
theorem d1_22 : decode prog_17_method_2_code 22 = .ok (.invokespecial 19, 3) := by decide +kernel
theorem d1_25 : decode prog_17_method_2_code 25 = .ok (.athrow, 1) := by decide +kernel
theorem d1_26 : decode prog_17_method_2_code 26 = .ok (.new 8, 3) := by decide +kernel
theorem d1_29 : decode prog_17_method_2_code 29 = .ok (.dup, 1) := by decide +kernel
theorem d1_30 : decode prog_17_method_2_code 30 = .ok (.dload_n 0, 1) := by decide +kernel
theorem d1_31 : decode prog_17_method_2_code 31 = .ok (.invokespecial 22, 3) := by decide +kernel
theorem d1_34 : decode prog_17_method_2_code 34 = .ok (.areturn, 1) := by decide +kernel
theorem pn_1 : plainFor (⟨"com/example/weighted_worlds/weightedworlds/Probability", "of", "(D)Lcom/example/weighted_worlds/weightedworlds/Probability;"⟩ : MethodName) = true := plainFor_of_name (by first | (simp [plainName, overriddenIn]; done) | decide +kernel)
set_option maxRecDepth 65536 in
set_option maxHeartbeats 40000000 in
theorem rm1 (l : Launch) (Z : State) (a0 : Array Value) (hw : ∀ d ∈ tables_1, d.before a0 Z = true) (d1 : UInt64) (h0 : Heap) (n0 : Nat) (Z0 : n0 ≤ h0.size) (hP : own_P d1) :
    own_Met l Z (⟨"com/example/weighted_worlds/weightedworlds/Probability", "of", "(D)Lcom/example/weighted_worlds/weightedworlds/Probability;"⟩ : MethodName) prog_17_method_2_code 2 (some (.object "com/example/weighted_worlds/weightedworlds/Probability")) ({ frames := 2, cells := 1, slots := 1, locals := 27 } : Room) #[(.double d1)] h0 (fun v h L => ∃ b, v = some (.ref b) ∧ Fr n0 L ∧ Keep h0 h [] ∧ Exa Z h b "com/example/weighted_worlds/weightedworlds/Probability" ∧ Fld Z h b "com/example/weighted_worlds/weightedworlds/Probability" "value" "D" (.double d1)) := by
  refine own_body pn_1 ?_
  intro p e s m below meth c T0 hZ hx hby hml hown hnm hret hlk X0 e0 F hF
  have N0 := Fr.nil n0
  have K0 := Keep.refl h0 []
  refine own_cast (g' := (mkF m 0 #[.val (.double d1), .second] [])) (by first | rfl | simp [entryFrame, mkF, argsToLocals, Value.category]) ?_
  refine own_st (T' := T0) (g' := (mkF m 1 #[.val (.double d1), .second] [(.double d1)])) (fun t9 k9 => XS.dloadN X0.here hx rfl (hb hby d1_0) rfl k9) ?_
  refine own_st (T' := T0) (g' := (mkF m 2 #[.val (.double d1), .second] [(.double FP.dconst0), (.double d1)])) (fun t9 k9 => XS.dconst0 X0.here hx rfl (hb hby d1_1) rfl k9) ?_
  refine own_st (T' := T0) (g' := (mkF m 3 #[.val (.double d1), .second] [(.int (cmpValue (FP.dcmp d1 FP.dconst0) .l))])) (fun t9 k9 => XS.dcmpS X0.here hx rfl (hb hby d1_2) rfl rfl k9) ?_
  refine own_st (T' := T0) (g' := (mkF m 6 #[.val (.double d1), .second] [])) (fun t9 k9 => XS.ifNo X0.here hx rfl (hb hby d1_3) rfl ((if0 _ _).trans (flt hP.2.1).1) k9) ?_
  refine own_st (T' := T0) (g' := (mkF m 7 #[.val (.double d1), .second] [(.double d1)])) (fun t9 k9 => XS.dloadN X0.here hx rfl (hb hby d1_6) rfl k9) ?_
  refine own_st (T' := T0) (g' := (mkF m 8 #[.val (.double d1), .second] [(.double FP.dconst1), (.double d1)])) (fun t9 k9 => XS.dconst1 X0.here hx rfl (hb hby d1_7) rfl k9) ?_
  refine own_st (T' := T0) (g' := (mkF m 9 #[.val (.double d1), .second] [(.int (cmpValue (FP.dcmp d1 FP.dconst1) .g))])) (fun t9 k9 => XS.dcmpS X0.here hx rfl (hb hby d1_8) rfl rfl k9) ?_
  refine own_st (T' := T0) (g' := (mkF m 26 #[.val (.double d1), .second] [])) (fun t9 k9 => XS.ifYes X0.here hx rfl (pc0 := 9) (pc' := 26) rfl (hb hby d1_9) rfl ((if0 _ _).trans (flt hP.2.2).2.2.2) (by decide) (by decide) k9) ?_
  obtain ⟨T1, h1, X1, e1, E1, A1, D1, -, st1⟩ := newO X0 hx hZ hown (hw _ (List.mem_of_getElem? (i := 5) rfl)) (hw _ (List.mem_of_getElem? (i := 6) rfl)) (hw _ (List.mem_of_getElem? (i := 3) rfl)) e0 (g := (mkF m 26 #[.val (.double d1), .second] [])) rfl (hb hby d1_26) (by decide) (by decide)
  obtain ⟨b1, gb1⟩ : ∃ z, z = h0.size := ⟨_, rfl⟩
  have g_b1 : n0 ≤ b1 := gb1 ▸ Z0
  have sz_b1 : h0.size ≤ b1 := gb1 ▸ K0.1
  rw [← gb1] at A1 D1 st1
  have K1 := K0.ext E1
  have Z1 : n0 ≤ h1.size := Nat.le_trans Z0 E1.1
  have F_value_b1 : Fld Z h1 b1 "com/example/weighted_worlds/weightedworlds/Probability" "value" "D" (.double 0) := D1 (Or.inr (hw _ (List.mem_of_getElem? (i := 14) rfl))) (ty := .double) (by decide)
  refine own_st (T' := T1) (g' := (mkF m 29 #[.val (.double d1), .second] [(.ref b1)])) (fun t9 k9 => st1 t9 k9) ?_
  refine own_st (T' := T1) (g' := (mkF m 30 #[.val (.double d1), .second] [(.ref b1), (.ref b1)])) (fun t9 k9 => XS.dup X1.here hx rfl (hb hby d1_29) rfl rfl k9) ?_
  refine own_st (T' := T1) (g' := (mkF m 31 #[.val (.double d1), .second] [(.double d1), (.ref b1), (.ref b1)])) (fun t9 k9 => XS.dloadN X1.here hx rfl (hb hby d1_30) rfl k9) ?_
  obtain ⟨_, _, ⟨T2, L2, k2, n2⟩, -, X2, ⟨Lc2, hQ2, l2, y2, z2⟩, st2⟩ := X1.specialBack hx (y := (⟨"com/example/weighted_worlds/weightedworlds/Probability", "<init>", "(D)V"⟩ : MethodName)) rfl hown (mvT hZ (hw _ (List.mem_of_getElem? (i := 7) rfl))) (mvT hZ (hw _ (List.mem_of_getElem? (i := 8) rfl))) (mvT hZ (hw _ (List.mem_of_getElem? (i := 9) rfl))) (by decide) (own_back (W := 1) (rm2 l Z a0 hw b1 d1 (.double 0) h1 n0 Z1 A1 F_value_b1 g_b1) hZ (hw _ (List.mem_of_getElem? (i := 9) rfl)) (hw _ (List.mem_of_getElem? (i := 3) rfl)) (by decide) (by decide)) (g := (mkF m 31 #[.val (.double d1), .second] [(.double d1), (.ref b1), (.ref b1)])) rfl (by rw [hml]; rfl) (Steps.refl _) (a := b1) (argsL := [(.double d1)]) (rest := [(.ref b1)]) (lenOf pd_1 rfl) rfl (by show 2 * 0 + _ ≤ _; exact Nat.le_of_eq rfl) (hb hby d1_31) (fun _ _ => ⟨rfl, e1, (Nat.le_of_ble_eq_true rfl), (Nat.le_of_ble_eq_true rfl)⟩)
  dsimp only [Pt.U, Pt.locs, Pt.cells, Pt.slots] at X2 l2 y2 z2 st2 hQ2
  subst l2 y2 z2
  obtain ⟨rfl, Nq2, Kq2, Eq2, Fq2⟩ := hQ2
  have N2 := Fr.app N0 Nq2
  obtain ⟨h2, e2⟩ : ∃ z, T2.heap = z := ⟨_, rfl⟩
  rw [e2] at Kq2 Eq2 Fq2
  have A1_3 := A1.keep Kq2
  have K2 := K1.trans Kq2 (allS (Or.inr sz_b1) all0)
  have Z2 : n0 ≤ h2.size := Nat.le_trans Z1 Kq2.1
  refine own_st (T' := T2) (g' := (mkF m 34 #[.val (.double d1), .second] [(.ref b1)])) (fun t9 k9 => st2.trans k9) ?_
  refine own_ret (v := some (.ref b1)) hF X2 (own_some hret) hlk (fun fs hr => own_retA X2 hx hret rfl rfl (hb hby d1_34) hr) ?_ (by decide) (by decide)
  try rw [e2]
  exact ⟨b1, rfl, N2, K2, A1_3, Fq2⟩
theorem d4_0 : decode prog_17_method_5_code 0 = .ok (.aload_n 0, 1) := by decide +kernel
theorem d4_1 : decode prog_17_method_5_code 1 = .ok (.getfield 7, 3) := by decide +kernel
theorem d4_4 : decode prog_17_method_5_code 4 = .ok (.dreturn, 1) := by decide +kernel
theorem pn_4 : plainFor (⟨"com/example/weighted_worlds/weightedworlds/Probability", "value", "()D"⟩ : MethodName) = true := plainFor_of_name (by first | (simp [plainName, overriddenIn]; done) | decide +kernel)
set_option maxRecDepth 65536 in
set_option maxHeartbeats 40000000 in
theorem rm4 (l : Launch) (Z : State) (a0 : Array Value) (hw : ∀ d ∈ tables_1, d.before a0 Z = true) (a1 : Addr) (d1 : UInt64) (h0 : Heap) (n0 : Nat) (Z0 : n0 ≤ h0.size) (F1 : Fld Z h0 a1 "com/example/weighted_worlds/weightedworlds/Probability" "value" "D" (.double d1)) :
    own_Met l Z (⟨"com/example/weighted_worlds/weightedworlds/Probability", "value", "()D"⟩ : MethodName) prog_17_method_5_code 1 (some .double) ({ frames := 0, cells := 0, slots := 0, locals := 0 } : Room) #[(.ref a1)] h0 (fun v h L => v = some (.double d1) ∧ Fr n0 L ∧ h = h0) := by
  refine own_body pn_4 ?_
  intro p e s m below meth c T0 hZ hx hby hml hown hnm hret hlk X0 e0 F hF
  have N0 := Fr.nil n0
  have K0 := Keep.refl h0 []
  refine own_cast (g' := (mkF m 0 #[.val (.ref a1)] [])) (by first | rfl | simp [entryFrame, mkF, argsToLocals, Value.category]) ?_
  refine own_st (T' := T0) (g' := (mkF m 1 #[.val (.ref a1)] [(.ref a1)])) (fun t9 k9 => XS.aloadN X0.here hx rfl (hb hby d4_0) rfl rfl k9) ?_
  obtain ⟨T1, X1, e1, st1⟩ := getF X0 hx hZ hown (host := "") (Or.inl (hw _ (List.mem_of_getElem? (i := 13) rfl))) Via.refl e0 F1 (g := (mkF m 1 #[.val (.ref a1)] [(.ref a1)])) rfl rfl (hb hby d4_1)
  refine own_st (T' := T1) (g' := (mkF m 4 #[.val (.ref a1)] [(.double d1)])) (fun t9 k9 => st1 t9 k9) ?_
  refine own_ret (v := some (.double d1)) hF X1 (own_some hret) hlk (fun fs hr => own_retD X1 hx hret (hb hby d4_4) hr) ?_ (by decide) (by decide)
  try rw [e1]
  exact ⟨rfl, N0, rfl⟩
theorem pn_0 : plainFor (⟨"com/example/weighted_worlds/weightedworlds/ProbabilityOfPinLaw", "law", "(II)Z"⟩ : MethodName) = true := plainFor_of_name (by first | (simp [plainName, overriddenIn]; done) | decide +kernel)
set_option maxRecDepth 65536 in
set_option maxHeartbeats 40000000 in
theorem rm0 (l : Launch) (Z : State) (a0 : Array Value) (hw : ∀ d ∈ tables_1, d.before a0 Z = true) (p1 p2 : Int32) (h0 : Heap) (n0 : Nat) (Z0 : n0 ≤ h0.size)  :
    own_Met l Z x code maxLocals ret room_1 #[(.int p1), (.int p2)] h0 (fun v h L => v = some (.int (1 : Int32)) ∧ Fr n0 L) := by
  refine own_body pn_0 ?_
  intro p e s m below meth c T0 hZ hx hby hml hown hnm hret hlk X0 e0 F hF
  have N0 := Fr.nil n0
  have K0 := Keep.refl h0 []
  refine own_cast (g' := (mkF m 0 #[.val (.int p1), .val (.int p2), .unset, .unset, .unset, .unset, .unset, .unset, .unset] [])) (by first | rfl | simp [entryFrame, mkF, argsToLocals, Value.category, maxLocals]) ?_
  refine own_st (T' := T0) (g' := (mkF m 1 #[.val (.int p1), .val (.int p2), .unset, .unset, .unset, .unset, .unset, .unset, .unset] [(.int p1)])) (fun t9 k9 => XS.iloadN X0.here hx rfl (hb hby at_0) rfl k9) ?_
  refine own_st (T' := T0) (g' := (mkF m 3 #[.val (.int p1), .val (.int p2), .unset, .unset, .unset, .unset, .unset, .unset, .unset] [(.int (65535 : Int32)), (.int p1)])) (fun t9 k9 => X0.ldcInt hx hown (mvT hZ (hw _ (List.mem_of_getElem? (i := 0) rfl))) (g := (mkF m 1 #[.val (.int p1), .val (.int p2), .unset, .unset, .unset, .unset, .unset, .unset, .unset] [(.int p1)])) rfl (hb hby at_1) t9 k9) ?_
  refine own_st (T' := T0) (g' := (mkF m 4 #[.val (.int p1), .val (.int p2), .unset, .unset, .unset, .unset, .unset, .unset, .unset] [(.int (p1 &&& (65535 : Int32)))])) (fun t9 k9 => XS.iand X0.here hx rfl (hb hby at_3) rfl k9) ?_
  refine own_st (T' := T0) (g' := (mkF m 5 #[.val (.int p1), .val (.int p2), .val (.int (p1 &&& (65535 : Int32))), .unset, .unset, .unset, .unset, .unset, .unset] [])) (fun t9 k9 => XS.istoreN X0.here hx rfl (hb hby at_4) rfl (l' := #[.val (.int p1), .val (.int p2), .val (.int (p1 &&& (65535 : Int32))), .unset, .unset, .unset, .unset, .unset, .unset]) rfl k9) ?_
  refine own_st (T' := T0) (g' := (mkF m 6 #[.val (.int p1), .val (.int p2), .val (.int (p1 &&& (65535 : Int32))), .unset, .unset, .unset, .unset, .unset, .unset] [(.int (p1 &&& (65535 : Int32)))])) (fun t9 k9 => XS.iloadN X0.here hx rfl (hb hby at_5) rfl k9) ?_
  refine own_st (T' := T0) (g' := (mkF m 7 #[.val (.int p1), .val (.int p2), .val (.int (p1 &&& (65535 : Int32))), .unset, .unset, .unset, .unset, .unset, .unset] [(.int p2), (.int (p1 &&& (65535 : Int32)))])) (fun t9 k9 => XS.iloadN X0.here hx rfl (hb hby at_6) rfl k9) ?_
  refine own_st (T' := T0) (g' := (mkF m 9 #[.val (.int p1), .val (.int p2), .val (.int (p1 &&& (65535 : Int32))), .unset, .unset, .unset, .unset, .unset, .unset] [(.int (65535 : Int32)), (.int p2), (.int (p1 &&& (65535 : Int32)))])) (fun t9 k9 => X0.ldcInt hx hown (mvT hZ (hw _ (List.mem_of_getElem? (i := 0) rfl))) (g := (mkF m 7 #[.val (.int p1), .val (.int p2), .val (.int (p1 &&& (65535 : Int32))), .unset, .unset, .unset, .unset, .unset, .unset] [(.int p2), (.int (p1 &&& (65535 : Int32)))])) rfl (hb hby at_7) t9 k9) ?_
  refine own_st (T' := T0) (g' := (mkF m 10 #[.val (.int p1), .val (.int p2), .val (.int (p1 &&& (65535 : Int32))), .unset, .unset, .unset, .unset, .unset, .unset] [(.int (p2 &&& (65535 : Int32))), (.int (p1 &&& (65535 : Int32)))])) (fun t9 k9 => XS.iand X0.here hx rfl (hb hby at_9) rfl k9) ?_
  refine own_st (T' := T0) (g' := (mkF m 11 #[.val (.int p1), .val (.int p2), .val (.int (p1 &&& (65535 : Int32))), .unset, .unset, .unset, .unset, .unset, .unset] [(.int ((p1 &&& (65535 : Int32)) + (p2 &&& (65535 : Int32))))])) (fun t9 k9 => XS.iadd X0.here hx rfl (hb hby at_10) rfl k9) ?_
  refine own_st (T' := T0) (g' := (mkF m 12 #[.val (.int p1), .val (.int p2), .val (.int (p1 &&& (65535 : Int32))), .val (.int ((p1 &&& (65535 : Int32)) + (p2 &&& (65535 : Int32)))), .unset, .unset, .unset, .unset, .unset] [])) (fun t9 k9 => XS.istoreN X0.here hx rfl (hb hby at_11) rfl (l' := #[.val (.int p1), .val (.int p2), .val (.int (p1 &&& (65535 : Int32))), .val (.int ((p1 &&& (65535 : Int32)) + (p2 &&& (65535 : Int32)))), .unset, .unset, .unset, .unset, .unset]) rfl k9) ?_
  refine own_st (T' := T0) (g' := (mkF m 13 #[.val (.int p1), .val (.int p2), .val (.int (p1 &&& (65535 : Int32))), .val (.int ((p1 &&& (65535 : Int32)) + (p2 &&& (65535 : Int32)))), .unset, .unset, .unset, .unset, .unset] [(.int ((p1 &&& (65535 : Int32)) + (p2 &&& (65535 : Int32))))])) (fun t9 k9 => XS.iloadN X0.here hx rfl (hb hby at_12) rfl k9) ?_
  have j25 : ∀ (d9 : UInt64), own_P d9 → own_Go p e below F T0 (mkF m 25 #[.val (.int p1), .val (.int p2), .val (.int (p1 &&& (65535 : Int32))), .val (.int ((p1 &&& (65535 : Int32)) + (p2 &&& (65535 : Int32)))), .unset, .unset, .unset, .unset, .unset] [(.double d9)]) := by
    intro d9 hP
    refine own_st (T' := T0) (g' := (mkF m 27 #[.val (.int p1), .val (.int p2), .val (.int (p1 &&& (65535 : Int32))), .val (.int ((p1 &&& (65535 : Int32)) + (p2 &&& (65535 : Int32)))), .val (.double d9), .second, .unset, .unset, .unset] [])) (fun t9 k9 => XS.dstore X0.here hx rfl (hb hby at_25) rfl (l' := #[.val (.int p1), .val (.int p2), .val (.int (p1 &&& (65535 : Int32))), .val (.int ((p1 &&& (65535 : Int32)) + (p2 &&& (65535 : Int32)))), .val (.double d9), .second, .unset, .unset, .unset]) rfl k9) ?_
    refine own_st (T' := T0) (g' := (mkF m 29 #[.val (.int p1), .val (.int p2), .val (.int (p1 &&& (65535 : Int32))), .val (.int ((p1 &&& (65535 : Int32)) + (p2 &&& (65535 : Int32)))), .val (.double d9), .second, .unset, .unset, .unset] [(.double d9)])) (fun t9 k9 => XS.dload X0.here hx rfl (hb hby at_27) rfl k9) ?_
    obtain ⟨_, _, ⟨T1, L1, k1, n1⟩, -, X1, ⟨Lc1, hQ1, l1, y1, z1⟩, st1⟩ := Jvm.LawKit.callS X0 hx (y := (⟨"com/example/weighted_worlds/weightedworlds/Probability", "of", "(D)Lcom/example/weighted_worlds/weightedworlds/Probability;"⟩ : MethodName)) hown (mvT hZ (hw _ (List.mem_of_getElem? (i := 1) rfl))) (mvT hZ (hw _ (List.mem_of_getElem? (i := 2) rfl))) (mvT hZ (hw _ (List.mem_of_getElem? (i := 3) rfl))) (mvT hZ (hw _ (List.mem_of_getElem? (i := 4) rfl))) (by decide) (own_back (W := 0) (rm1 l Z a0 hw d9 h0 n0 Z0 hP) hZ (hw _ (List.mem_of_getElem? (i := 4) rfl)) (hw _ (List.mem_of_getElem? (i := 3) rfl)) (by decide) (by decide)) (g := (mkF m 29 #[.val (.int p1), .val (.int p2), .val (.int (p1 &&& (65535 : Int32))), .val (.int ((p1 &&& (65535 : Int32)) + (p2 &&& (65535 : Int32)))), .val (.double d9), .second, .unset, .unset, .unset] [(.double d9)])) rfl (by rw [hml]; rfl) (argsL := [(.double d9)]) (rest := []) (lenOf pd_0 rfl) rfl (by show 2 * 0 + _ ≤ _; exact Nat.le_of_eq rfl) (hb hby at_29) (fun _ _ => ⟨rfl, e0, (Nat.le_of_ble_eq_true rfl), (Nat.le_of_ble_eq_true rfl)⟩)
    dsimp only [Pt.U, Pt.locs, Pt.cells, Pt.slots] at X1 l1 y1 z1 st1 hQ1
    subst l1 y1 z1
    obtain ⟨b1, rfl, Nq1, Kq1, Eq1, Fq1⟩ := hQ1
    have N1 := Fr.app N0 Nq1
    obtain ⟨h1, e1⟩ : ∃ z, T1.heap = z := ⟨_, rfl⟩
    rw [e1] at Kq1 Eq1 Fq1
    have K1 := K0.trans Kq1 all0
    have Z1 : n0 ≤ h1.size := Nat.le_trans Z0 Kq1.1
    refine own_st (T' := T1) (g' := (mkF m 32 #[.val (.int p1), .val (.int p2), .val (.int (p1 &&& (65535 : Int32))), .val (.int ((p1 &&& (65535 : Int32)) + (p2 &&& (65535 : Int32)))), .val (.double d9), .second, .unset, .unset, .unset] [(.ref b1)])) (fun t9 k9 => st1 t9 k9) ?_
    refine own_st (T' := T1) (g' := (mkF m 34 #[.val (.int p1), .val (.int p2), .val (.int (p1 &&& (65535 : Int32))), .val (.int ((p1 &&& (65535 : Int32)) + (p2 &&& (65535 : Int32)))), .val (.double d9), .second, .val (.ref b1), .unset, .unset] [])) (fun t9 k9 => XS.astore X1.here hx rfl (hb hby at_32) rfl rfl (l' := #[.val (.int p1), .val (.int p2), .val (.int (p1 &&& (65535 : Int32))), .val (.int ((p1 &&& (65535 : Int32)) + (p2 &&& (65535 : Int32)))), .val (.double d9), .second, .val (.ref b1), .unset, .unset]) rfl k9) ?_
    refine own_st (T' := T1) (g' := (mkF m 36 #[.val (.int p1), .val (.int p2), .val (.int (p1 &&& (65535 : Int32))), .val (.int ((p1 &&& (65535 : Int32)) + (p2 &&& (65535 : Int32)))), .val (.double d9), .second, .val (.ref b1), .unset, .unset] [(.ref b1)])) (fun t9 k9 => XS.aload X1.here hx rfl (hb hby at_34) rfl rfl k9) ?_
    refine own_st (T' := T1) (g' := (mkF m 41 #[.val (.int p1), .val (.int p2), .val (.int (p1 &&& (65535 : Int32))), .val (.int ((p1 &&& (65535 : Int32)) + (p2 &&& (65535 : Int32)))), .val (.double d9), .second, .val (.ref b1), .unset, .unset] [])) (fun t9 k9 => XS.ifnonnullYes X1.here hx rfl (pc0 := 36) (pc' := 41) rfl (hb hby at_36) rfl (by decide) (by decide) k9) ?_
    refine own_st (T' := T1) (g' := (mkF m 43 #[.val (.int p1), .val (.int p2), .val (.int (p1 &&& (65535 : Int32))), .val (.int ((p1 &&& (65535 : Int32)) + (p2 &&& (65535 : Int32)))), .val (.double d9), .second, .val (.ref b1), .unset, .unset] [(.ref b1)])) (fun t9 k9 => XS.aload X1.here hx rfl (hb hby at_41) rfl rfl k9) ?_
    obtain ⟨cq2, kq2, qa2, qb2, qc2⟩ := isOf hZ e1 Eq1
    obtain ⟨_, _, ⟨T2, L2, k2, n2⟩, -, X2, ⟨Lc2, hQ2, l2, y2, z2⟩, st2⟩ := X1.virtualBack hx (y := (⟨"com/example/weighted_worlds/weightedworlds/Probability", "value", "()D"⟩ : MethodName)) (z := (⟨"com/example/weighted_worlds/weightedworlds/Probability", "value", "()D"⟩ : MethodName)) hown (mvT hZ (hw _ (List.mem_of_getElem? (i := 15) rfl))) (mvT hZ (hw _ (List.mem_of_getElem? (i := 16) rfl))) (notFace_of_selects (args := #[]) (mvT hZ (hw _ (List.mem_of_getElem? (i := 18) rfl)))) (mvT hZ (hw _ (List.mem_of_getElem? (i := 18) rfl))) (mvT hZ (hw _ (List.mem_of_getElem? (i := 17) rfl))) (by decide) (own_back (W := 0) (rm4 l Z a0 hw b1 d9 h1 n0 Z1 Fq1) hZ (hw _ (List.mem_of_getElem? (i := 19) rfl)) (hw _ (List.mem_of_getElem? (i := 3) rfl)) (by decide) (by decide)) qa2 qc2 (g := (mkF m 43 #[.val (.int p1), .val (.int p2), .val (.int (p1 &&& (65535 : Int32))), .val (.int ((p1 &&& (65535 : Int32)) + (p2 &&& (65535 : Int32)))), .val (.double d9), .second, .val (.ref b1), .unset, .unset] [(.ref b1)])) rfl (by rw [hml]; rfl) (Steps.refl _) (argsL := []) (rest := []) (lenOf pd_3 rfl) rfl (by show 2 * 0 + _ ≤ _; exact Nat.le_of_eq rfl) (hb hby at_43) (fun _ _ => ⟨rfl, e1, (Nat.le_of_ble_eq_true rfl), (Nat.le_of_ble_eq_true rfl)⟩)
    dsimp only [Pt.U, Pt.locs, Pt.cells, Pt.slots] at X2 l2 y2 z2 st2 hQ2
    subst l2 y2 z2
    obtain ⟨rfl, Nq2, he2⟩ := hQ2
    have N2 := Fr.app N1 Nq2
    have e2 : T2.heap = h1 := he2
    refine own_st (T' := T2) (g' := (mkF m 46 #[.val (.int p1), .val (.int p2), .val (.int (p1 &&& (65535 : Int32))), .val (.int ((p1 &&& (65535 : Int32)) + (p2 &&& (65535 : Int32)))), .val (.double d9), .second, .val (.ref b1), .unset, .unset] [(.double d9)])) (fun t9 k9 => st2.trans k9) ?_
    refine own_st (T' := T2) (g' := (mkF m 48 #[.val (.int p1), .val (.int p2), .val (.int (p1 &&& (65535 : Int32))), .val (.int ((p1 &&& (65535 : Int32)) + (p2 &&& (65535 : Int32)))), .val (.double d9), .second, .val (.ref b1), .val (.double d9), .second] [])) (fun t9 k9 => XS.dstore X2.here hx rfl (hb hby at_46) rfl (l' := #[.val (.int p1), .val (.int p2), .val (.int (p1 &&& (65535 : Int32))), .val (.int ((p1 &&& (65535 : Int32)) + (p2 &&& (65535 : Int32)))), .val (.double d9), .second, .val (.ref b1), .val (.double d9), .second]) rfl k9) ?_
    refine own_st (T' := T2) (g' := (mkF m 50 #[.val (.int p1), .val (.int p2), .val (.int (p1 &&& (65535 : Int32))), .val (.int ((p1 &&& (65535 : Int32)) + (p2 &&& (65535 : Int32)))), .val (.double d9), .second, .val (.ref b1), .val (.double d9), .second] [(.double d9)])) (fun t9 k9 => XS.dload X2.here hx rfl (hb hby at_48) rfl k9) ?_
    refine own_st (T' := T2) (g' := (mkF m 52 #[.val (.int p1), .val (.int p2), .val (.int (p1 &&& (65535 : Int32))), .val (.int ((p1 &&& (65535 : Int32)) + (p2 &&& (65535 : Int32)))), .val (.double d9), .second, .val (.ref b1), .val (.double d9), .second] [(.double d9), (.double d9)])) (fun t9 k9 => XS.dload X2.here hx rfl (hb hby at_50) rfl k9) ?_
    refine own_st (T' := T2) (g' := (mkF m 53 #[.val (.int p1), .val (.int p2), .val (.int (p1 &&& (65535 : Int32))), .val (.int ((p1 &&& (65535 : Int32)) + (p2 &&& (65535 : Int32)))), .val (.double d9), .second, .val (.ref b1), .val (.double d9), .second] [(.int (cmpValue (FP.dcmp d9 d9) .l))])) (fun t9 k9 => XS.dcmpS X2.here hx rfl (hb hby at_52) rfl rfl k9) ?_
    refine own_st (T' := T2) (g' := (mkF m 56 #[.val (.int p1), .val (.int p2), .val (.int (p1 &&& (65535 : Int32))), .val (.int ((p1 &&& (65535 : Int32)) + (p2 &&& (65535 : Int32)))), .val (.double d9), .second, .val (.ref b1), .val (.double d9), .second] [])) (fun t9 k9 => XS.ifNo X2.here hx rfl (hb hby at_53) rfl ((if0 _ _).trans (teq (dcmpV_self hP.1 _)).2) k9) ?_
    refine own_st (T' := T2) (g' := (mkF m 58 #[.val (.int p1), .val (.int p2), .val (.int (p1 &&& (65535 : Int32))), .val (.int ((p1 &&& (65535 : Int32)) + (p2 &&& (65535 : Int32)))), .val (.double d9), .second, .val (.ref b1), .val (.double d9), .second] [(.double d9)])) (fun t9 k9 => XS.dload X2.here hx rfl (hb hby at_56) rfl k9) ?_
    refine own_st (T' := T2) (g' := (mkF m 59 #[.val (.int p1), .val (.int p2), .val (.int (p1 &&& (65535 : Int32))), .val (.int ((p1 &&& (65535 : Int32)) + (p2 &&& (65535 : Int32)))), .val (.double d9), .second, .val (.ref b1), .val (.double d9), .second] [(.double FP.dconst0), (.double d9)])) (fun t9 k9 => XS.dconst0 X2.here hx rfl (hb hby at_58) rfl k9) ?_
    refine own_st (T' := T2) (g' := (mkF m 60 #[.val (.int p1), .val (.int p2), .val (.int (p1 &&& (65535 : Int32))), .val (.int ((p1 &&& (65535 : Int32)) + (p2 &&& (65535 : Int32)))), .val (.double d9), .second, .val (.ref b1), .val (.double d9), .second] [(.int (cmpValue (FP.dcmp d9 FP.dconst0) .l))])) (fun t9 k9 => XS.dcmpS X2.here hx rfl (hb hby at_59) rfl rfl k9) ?_
    refine own_st (T' := T2) (g' := (mkF m 63 #[.val (.int p1), .val (.int p2), .val (.int (p1 &&& (65535 : Int32))), .val (.int ((p1 &&& (65535 : Int32)) + (p2 &&& (65535 : Int32)))), .val (.double d9), .second, .val (.ref b1), .val (.double d9), .second] [])) (fun t9 k9 => XS.ifNo X2.here hx rfl (hb hby at_60) rfl ((if0 _ _).trans (flt hP.2.1).1) k9) ?_
    refine own_st (T' := T2) (g' := (mkF m 65 #[.val (.int p1), .val (.int p2), .val (.int (p1 &&& (65535 : Int32))), .val (.int ((p1 &&& (65535 : Int32)) + (p2 &&& (65535 : Int32)))), .val (.double d9), .second, .val (.ref b1), .val (.double d9), .second] [(.double d9)])) (fun t9 k9 => XS.dload X2.here hx rfl (hb hby at_63) rfl k9) ?_
    refine own_st (T' := T2) (g' := (mkF m 66 #[.val (.int p1), .val (.int p2), .val (.int (p1 &&& (65535 : Int32))), .val (.int ((p1 &&& (65535 : Int32)) + (p2 &&& (65535 : Int32)))), .val (.double d9), .second, .val (.ref b1), .val (.double d9), .second] [(.double FP.dconst1), (.double d9)])) (fun t9 k9 => XS.dconst1 X2.here hx rfl (hb hby at_65) rfl k9) ?_
    refine own_st (T' := T2) (g' := (mkF m 67 #[.val (.int p1), .val (.int p2), .val (.int (p1 &&& (65535 : Int32))), .val (.int ((p1 &&& (65535 : Int32)) + (p2 &&& (65535 : Int32)))), .val (.double d9), .second, .val (.ref b1), .val (.double d9), .second] [(.int (cmpValue (FP.dcmp d9 FP.dconst1) .g))])) (fun t9 k9 => XS.dcmpS X2.here hx rfl (hb hby at_66) rfl rfl k9) ?_
    refine own_st (T' := T2) (g' := (mkF m 70 #[.val (.int p1), .val (.int p2), .val (.int (p1 &&& (65535 : Int32))), .val (.int ((p1 &&& (65535 : Int32)) + (p2 &&& (65535 : Int32)))), .val (.double d9), .second, .val (.ref b1), .val (.double d9), .second] [])) (fun t9 k9 => XS.ifNo X2.here hx rfl (hb hby at_67) rfl ((if0 _ _).trans (flt hP.2.2).2.2.1) k9) ?_
    refine own_st (T' := T2) (g' := (mkF m 71 #[.val (.int p1), .val (.int p2), .val (.int (p1 &&& (65535 : Int32))), .val (.int ((p1 &&& (65535 : Int32)) + (p2 &&& (65535 : Int32)))), .val (.double d9), .second, .val (.ref b1), .val (.double d9), .second] [(.int (1 : Int32))])) (fun t9 k9 => XS.iconst X2.here hx rfl (hb hby at_70) k9) ?_
    refine own_st (T' := T2) (g' := (mkF m 75 #[.val (.int p1), .val (.int p2), .val (.int (p1 &&& (65535 : Int32))), .val (.int ((p1 &&& (65535 : Int32)) + (p2 &&& (65535 : Int32)))), .val (.double d9), .second, .val (.ref b1), .val (.double d9), .second] [(.int (1 : Int32))])) (fun t9 k9 => XS.goto X2.here hx rfl (pc0 := 71) (pc' := 75) rfl (hb hby at_71) (by decide) (by decide) k9) ?_
    refine own_ret (v := some (.int (1 : Int32))) hF X2 (own_some hret) hlk (fun fs hr => retN X2 hx (t := .boolean) hret (by simp) (hb hby at_75) hr) ?_ (by decide) (by decide)
    try rw [e2]
    exact ⟨rfl, N2⟩
  by_cases hm : ((p1 &&& (65535 : Int32)) + (p2 &&& (65535 : Int32))) = (0 : Int32)
  · refine own_st (T' := T0) (g' := (mkF m 16 #[.val (.int p1), .val (.int p2), .val (.int (p1 &&& (65535 : Int32))), .val (.int ((p1 &&& (65535 : Int32)) + (p2 &&& (65535 : Int32)))), .unset, .unset, .unset, .unset, .unset] [])) (fun t9 k9 => XS.ifNo X0.here hx rfl (hb hby at_13) rfl ((if0 _ _).trans (teq hm).2) k9) ?_
    refine own_st (T' := T0) (g' := (mkF m 17 #[.val (.int p1), .val (.int p2), .val (.int (p1 &&& (65535 : Int32))), .val (.int ((p1 &&& (65535 : Int32)) + (p2 &&& (65535 : Int32)))), .unset, .unset, .unset, .unset, .unset] [(.double FP.dconst0)])) (fun t9 k9 => XS.dconst0 X0.here hx rfl (hb hby at_16) rfl k9) ?_
    refine own_st (T' := T0) (g' := (mkF m 25 #[.val (.int p1), .val (.int p2), .val (.int (p1 &&& (65535 : Int32))), .val (.int ((p1 &&& (65535 : Int32)) + (p2 &&& (65535 : Int32)))), .unset, .unset, .unset, .unset, .unset] [(.double FP.dconst0)])) (fun t9 k9 => XS.goto X0.here hx rfl (pc0 := 17) (pc' := 25) rfl (hb hby at_17) (by decide) (by decide) k9) ?_
    exact j25 _ own_P.zero
  · refine own_st (T' := T0) (g' := (mkF m 20 #[.val (.int p1), .val (.int p2), .val (.int (p1 &&& (65535 : Int32))), .val (.int ((p1 &&& (65535 : Int32)) + (p2 &&& (65535 : Int32)))), .unset, .unset, .unset, .unset, .unset] [])) (fun t9 k9 => XS.ifYes X0.here hx rfl (pc0 := 13) (pc' := 20) rfl (hb hby at_13) rfl ((if0 _ _).trans (feq hm).2) (by decide) (by decide) k9) ?_
    refine own_st (T' := T0) (g' := (mkF m 21 #[.val (.int p1), .val (.int p2), .val (.int (p1 &&& (65535 : Int32))), .val (.int ((p1 &&& (65535 : Int32)) + (p2 &&& (65535 : Int32)))), .unset, .unset, .unset, .unset, .unset] [(.int (p1 &&& (65535 : Int32)))])) (fun t9 k9 => XS.iloadN X0.here hx rfl (hb hby at_20) rfl k9) ?_
    refine own_st (T' := T0) (g' := (mkF m 22 #[.val (.int p1), .val (.int p2), .val (.int (p1 &&& (65535 : Int32))), .val (.int ((p1 &&& (65535 : Int32)) + (p2 &&& (65535 : Int32)))), .unset, .unset, .unset, .unset, .unset] [(.double (FP.i2d (p1 &&& (65535 : Int32))))])) (fun t9 k9 => XS.i2dS X0.here hx rfl (hb hby at_21) rfl rfl k9) ?_
    refine own_st (T' := T0) (g' := (mkF m 23 #[.val (.int p1), .val (.int p2), .val (.int (p1 &&& (65535 : Int32))), .val (.int ((p1 &&& (65535 : Int32)) + (p2 &&& (65535 : Int32)))), .unset, .unset, .unset, .unset, .unset] [(.int ((p1 &&& (65535 : Int32)) + (p2 &&& (65535 : Int32)))), (.double (FP.i2d (p1 &&& (65535 : Int32))))])) (fun t9 k9 => XS.iloadN X0.here hx rfl (hb hby at_22) rfl k9) ?_
    refine own_st (T' := T0) (g' := (mkF m 24 #[.val (.int p1), .val (.int p2), .val (.int (p1 &&& (65535 : Int32))), .val (.int ((p1 &&& (65535 : Int32)) + (p2 &&& (65535 : Int32)))), .unset, .unset, .unset, .unset, .unset] [(.double (FP.i2d ((p1 &&& (65535 : Int32)) + (p2 &&& (65535 : Int32))))), (.double (FP.i2d (p1 &&& (65535 : Int32))))])) (fun t9 k9 => XS.i2dS X0.here hx rfl (hb hby at_23) rfl rfl k9) ?_
    obtain ⟨r1, r2⟩ := own_range p1 p2
    have r3 : 0 < ((p1 &&& (65535 : Int32)) + (p2 &&& (65535 : Int32))).toInt := by
      have z : ((p1 &&& (65535 : Int32)) + (p2 &&& (65535 : Int32))).toInt ≠ 0 := fun q => hm (Int32.toInt_inj.mp (by rw [q]; decide))
      omega
    have hP := own_P.div _ _ r1 r2 r3
    refine own_st (T' := T0) (g' := (mkF m 25 #[.val (.int p1), .val (.int p2), .val (.int (p1 &&& (65535 : Int32))), .val (.int ((p1 &&& (65535 : Int32)) + (p2 &&& (65535 : Int32)))), .unset, .unset, .unset, .unset, .unset] [(.double (FP.ddiv (FP.i2d (p1 &&& (65535 : Int32))) (FP.i2d ((p1 &&& (65535 : Int32)) + (p2 &&& (65535 : Int32))))))])) (fun t9 k9 => XS.ddivS X0.here hx rfl (hb hby at_24) rfl hP.1 rfl k9) ?_
    exact j25 _ hP
set_option maxRecDepth 65536 in
set_option maxHeartbeats 40000000 in
theorem comes_1 {Post : Tables → Env → Array Value → State → Outcome → State → Prop} (hpost : ∀ tb e args s v u, (limb_1_1.after args s (.returned v) u = true ∧ limb_1_2.after args s (.returned v) u = true ∧ True) → FrameEnd s (.returned v) u (Jvm.fieldLocs frame_1_writes args s ++ Jvm.arrayLocs frame_1_arrays args s ++ Jvm.staticLocs frame_1_statics s) 16 128 → Post tb e args s (.returned v) u) :
    ArmFor flags0 classFile x code maxLocals ret World_1 tables_1 room_1 Calls_1 rest_1 Pre_1 Post := by
  intro l hfl _ _ p e ha hc hk s m args below hf hA hF happ hP
  obtain ⟨hcalls, hrest, hpre⟩ := hP
  obtain ⟨-, -, -, hnamed, -, -, -, hat⟩ := (Spec.applies_iff hf).mp happ
  obtain ⟨hg, hn⟩ := and_e (Cond.before_iff.mp (show (Jvm.Cond.and given_1 narrow_1).before args s = true from hpre))
  obtain ⟨ga0, gb0⟩ := and_e hg
  obtain ⟨ga1, gb1⟩ := and_e gb0
  obtain ⟨w0, w1, rfl⟩ : ∃ w0 w1 : Value, args = #[w0, w1] := by
    have hs : args.size = 2 := by simpa [Cond.value, given_1] using ga0
    obtain ⟨L⟩ := args
    match L, hs with
    | [w0, w1], _ => exact ⟨w0, w1, rfl⟩
  have hw := fun d (hd : d ∈ tables_1) => atoms_spec (ws := Jvm.Cond.code x code maxLocals ret :: tables_1) hat d (List.mem_cons_of_mem _ hd)
  have hfit : Fit s := fun {y c} hc i hi => by
    obtain ⟨ha, rfl⟩ := Array.getElem?_eq_some_iff.mp hc
    have q := List.all_eq_true.mp ((Array.all_eq_true_iff_forall_mem.mp hF) _ (Array.getElem_mem ha)) i (List.mem_range.mpr hi)
    simpa [Array.getElem?_eq_getElem hi] using q
  obtain ⟨i0, ei0⟩ := is_v ga1
  obtain rfl : w0 = (.int i0) := Option.some.inj ei0
  obtain ⟨i1, ei1⟩ := is_v gb1
  obtain rfl : w1 = (.int i1) := Option.some.inj ei1
  obtain ⟨n, o, h1, h2, h3, _, L, rfl, ⟨rfl, N⟩, hq⟩ := rm0 l s _ hw i0 i1 s.heap s.heap.size (Nat.le_refl _)  tables_1 p e ha hc hk s m _ below hf ((Spec.applies_iff_loose hf).mp happ).1 ⟨rfl, State.Warmed39.refl s, rfl⟩ trivial
  refine ⟨n, _, h1, h2, h3, hpost _ _ _ _ _ _ ⟨Cond.after_iff.mpr rfl, Cond.after_iff.mpr (eq_i res_at (Term.int_eval (1)) rfl), trivial⟩ ⟨hq.1, hq.2.1, (hq.2.2.sift fun y hy => Or.inr (N y hy)).mono (by decide) (by decide)⟩⟩
theorem main_1_1 : Claimed_1_1 := comes_1 fun _ _ _ _ _ _ h hF => ⟨h.1, hF⟩
theorem main_1_2 : Claimed_1_2 := comes_1 fun _ _ _ _ _ _ h hF => ⟨h.2.1, hF⟩
end Jvm.Pilot.@@N@@
namespace Jvm.Pilot.@@N@@
open Jvm Jvm.ClassFile Sem Op Lib Jvm.Free Jvm.Stand Jvm.Pilot.@@N@@.Jvm.D
/-! MADE BY PROGRAM (witnessworld.py) out of the Statement's table words and the real class files: 9 classes; the members and pool entries that the words name. The judged class is class 1, her method 1. -/
namespace start1
open Jvm.ClassFile
def u (s : String) : CpInfo := .utf8 (stringToUtf16 s)
/-- a pool by its gaps: so many unusable entries, then the entry; so many at the end -/
def gap : Nat → List CpInfo → List CpInfo
  | 0, r => r
  | n + 1, r => .unusable :: gap n r
def poolList (es : List (Nat × CpInfo)) (last : Nat) : List CpInfo := es.foldr (fun e r => gap e.1 (e.2 :: r)) (gap last [])
def pool (es : List (Nat × CpInfo)) (last : Nat) : Array CpInfo := ⟨poolList es last⟩
def fileOf (pool : Array CpInfo) (this : Nat) (attrs : Array Attribute := #[]) (ms : Array MethodInfo := #[]) (fl : Nat := 33) (sup : Nat := 0) (ifs : Array Nat := #[]) (fds : Array FieldInfo := #[]) : ClassFile where
  minorVersion := 0
  majorVersion := 65
  constantPool := pool
  accessFlags := fl
  thisClass := this
  superClass := sup
  interfaces := ifs
  fields := fds
  methods := ms
  attributes := attrs
def plain (name : String) (sup : Option ClassId) : Class where
  name := name
  kind := .ordinary
  loader := none
  accessFlags := 33
  super := sup
  interfaces := #[]
  cf := none
  fields := #[]
  methods := #[]
  instanceTypes := #[]
  staticTypes := #[]
  resolved := #[]
  callSites := []
  init := .initialized
  statics := none
  mirror := none

def pool0 : Array CpInfo := pool [(5, u "<init>"), (0, u "()V"), (1, .class_ 10), (1, u "java/lang/Object")] 113

def k0c0 : Code := { maxStack := 0, maxLocals := 1, code := object_method_1_code, exceptionTable := #[], attributes := #[] }
def k0m0 : Method := { name := "<init>", desc := "()V", sig := { parameters := [], returnType := none }, accessFlags := 1, code := some k0c0 }
/-- java/lang/Object -/
def k0 : Class := { plain "java/lang/Object" none with
  accessFlags := 33
  interfaces := #[]
  cf := some (fileOf pool0 8 #[] #[{ accessFlags := 1, nameIndex := 5, descriptorIndex := 6, attributes := #[] }] 33 0 #[] #[])
  fields := #[]
  methods := #[k0m0]
  instanceTypes := #[]
  staticTypes := #[]
  resolved := Array.replicate 124 none
  statics := none }

def pool1 : Array CpInfo := pool [(2, .class_ 4), (1, u "java/lang/Object"), (0, u "<init>"), (0, u "()V"), (0, .integer 65535), (0, .methodref 9 10), (0, .class_ 11), (0, .nameAndType 12 13), (0, u "com/example/weighted_worlds/weightedworlds/Probability"), (0, u "of"), (0, u "(D)Lcom/example/weighted_worlds/weightedworlds/Probability;"), (0, .methodref 9 15), (0, .nameAndType 16 17), (0, u "value"), (0, u "()D"), (0, .class_ 19), (0, u "com/example/weighted_worlds/weightedworlds/ProbabilityOfPinLaw"), (2, u "law"), (0, u "(II)Z")] 3

def k1m0 : Method := { name := "<init>", desc := "()V", sig := { parameters := [], returnType := none }, accessFlags := 1, code := none }
def k1c1 : Code := { maxStack := 4, maxLocals := 9, code := code, exceptionTable := #[], attributes := #[] }
def k1m1 : Method := { name := "law", desc := "(II)Z", sig := { parameters := [.int, .int], returnType := some .boolean }, accessFlags := 9, code := some k1c1 }
/-- com/example/weighted_worlds/weightedworlds/ProbabilityOfPinLaw -/
def k1 : Class := { plain "com/example/weighted_worlds/weightedworlds/ProbabilityOfPinLaw" (some 0) with
  accessFlags := 49
  interfaces := #[]
  cf := some (fileOf pool1 18 #[] #[{ accessFlags := 1, nameIndex := 5, descriptorIndex := 6, attributes := #[] }, { accessFlags := 9, nameIndex := 22, descriptorIndex := 23, attributes := #[] }] 49 2 #[] #[])
  fields := #[]
  methods := #[k1m0, k1m1]
  instanceTypes := #[]
  staticTypes := #[]
  resolved := Array.replicate 27 none
  statics := none }

def pool2 : Array CpInfo := pool [(1, .methodref 2 3), (0, .class_ 4), (0, .nameAndType 5 6), (0, u "java/lang/Object"), (0, u "<init>"), (0, u "()V"), (0, .fieldref 8 9), (0, .class_ 10), (0, .nameAndType 11 12), (0, u "com/example/weighted_worlds/weightedworlds/Probability"), (0, u "value"), (0, u "D"), (9, .methodref 8 23), (0, .nameAndType 5 24), (0, u "(D)V"), (2, u "DECIMAL"), (0, u "Ljava/util/regex/Pattern;"), (38, u "()D"), (28, u "PRINTED_PLACES"), (0, u "I"), (4, u "of"), (0, u "(D)Lcom/example/weighted_worlds/weightedworlds/Probability;")] 24

def k2c0 : Code := { maxStack := 3, maxLocals := 3, code := prog_17_method_1_code, exceptionTable := #[], attributes := #[] }
def k2m0 : Method := { name := "<init>", desc := "(D)V", sig := { parameters := [.double], returnType := none }, accessFlags := 2, code := some k2c0 }
def k2c1 : Code := { maxStack := 4, maxLocals := 2, code := prog_17_method_2_code, exceptionTable := #[], attributes := #[] }
def k2m1 : Method := { name := "of", desc := "(D)Lcom/example/weighted_worlds/weightedworlds/Probability;", sig := { parameters := [.double], returnType := some (.object "com/example/weighted_worlds/weightedworlds/Probability") }, accessFlags := 9, code := some k2c1 }
def k2c2 : Code := { maxStack := 2, maxLocals := 1, code := prog_17_method_5_code, exceptionTable := #[], attributes := #[] }
def k2m2 : Method := { name := "value", desc := "()D", sig := { parameters := [], returnType := some .double }, accessFlags := 1, code := some k2c2 }
/-- com/example/weighted_worlds/weightedworlds/Probability -/
def k2 : Class := { plain "com/example/weighted_worlds/weightedworlds/Probability" (some 0) with
  accessFlags := 49
  interfaces := #[]
  cf := some (fileOf pool2 8 #[] #[{ accessFlags := 2, nameIndex := 5, descriptorIndex := 24, attributes := #[] }, { accessFlags := 9, nameIndex := 102, descriptorIndex := 103, attributes := #[] }, { accessFlags := 1, nameIndex := 11, descriptorIndex := 67, attributes := #[] }] 49 2 #[] #[{ accessFlags := 26, nameIndex := 27, descriptorIndex := 28, attributes := #[] }, { accessFlags := 26, nameIndex := 96, descriptorIndex := 97, attributes := #[] }, { accessFlags := 18, nameIndex := 11, descriptorIndex := 12, attributes := #[] }])
  fields := #[{ name := "DECIMAL", type := (.object "java/util/regex/Pattern"), accessFlags := 26, slot := 0, constantValue := 0 }, { name := "PRINTED_PLACES", type := .int, accessFlags := 26, slot := 1, constantValue := 0 }, { name := "value", type := .double, accessFlags := 18, slot := 0, constantValue := 0 }]
  methods := #[k2m0, k2m1, k2m2]
  instanceTypes := #[.double]
  staticTypes := #[(.object "java/util/regex/Pattern"), .int]
  resolved := Array.replicate 128 none
  statics := none }

def pool3 : Array CpInfo := pool [(1, u "java/lang/Cloneable"), (0, .class_ 1), (0, u "java/lang/Object"), (0, .class_ 3)] 3

/-- java/lang/Cloneable -/
def k3 : Class := { plain "java/lang/Cloneable" (some 0) with
  accessFlags := 1537
  interfaces := #[]
  cf := some (fileOf pool3 2 #[] #[] 1537 4 #[] #[])
  fields := #[]
  methods := #[]
  instanceTypes := #[]
  staticTypes := #[]
  resolved := Array.replicate 8 none
  statics := none }

def pool4 : Array CpInfo := pool [(1, u "java/io/Serializable"), (0, .class_ 1), (0, u "java/lang/Object"), (0, .class_ 3)] 3

/-- java/io/Serializable -/
def k4 : Class := { plain "java/io/Serializable" (some 0) with
  accessFlags := 1537
  interfaces := #[]
  cf := some (fileOf pool4 2 #[] #[] 1537 4 #[] #[])
  fields := #[]
  methods := #[]
  instanceTypes := #[]
  staticTypes := #[]
  resolved := Array.replicate 8 none
  statics := none }

/-- the primitive byte -/
def k5 : Class := { plain "byte" none with kind := .primitive 'B', accessFlags := 0x411 }
/-- [B -/
def k6 : Class := { plain "[B" (some 0) with kind := .array 5 .byte, interfaces := #[3, 4], accessFlags := 1041 }

/-- the primitive int -/
def k7 : Class := { plain "int" none with kind := .primitive 'I', accessFlags := 0x411 }
/-- [I -/
def k8 : Class := { plain "[I" (some 0) with kind := .array 7 .int, interfaces := #[3, 4], accessFlags := 1041 }

def heap : Heap := #[]
def classes : Array Class := #[k0, k1, k2, k3, k4, k5, k6, k7, k8]
def interned : List (Array UInt16 × Addr) := []
def slotsUsed : Nat := 0
def theMethod : MethodId := ⟨1, 1⟩
def args0 : Array Value := #[.int 5, .int 9]
def aboutOver (below : List Frame) : State where
  vm := { classes := classes, interned := interned.toArray }
  heap := heap
  slotsUsed := slotsUsed
  threads := #[{ frames := .invoking theMethod args0 :: below }]
def below0 : List Frame := [.native { method := ⟨0, 0⟩, args := #[] }]
def about1 : State := aboutOver below0
def p0 : Program := .bare "" "" ""
def e0 : Env := launch0.env 0 0 0
theorem w_frames : about1.frames = Frame.invoking theMethod args0 :: below0 := rfl
set_option maxRecDepth 65536 in
theorem w_args : argsFit about1.vm theMethod args0 = true := by decide +kernel
set_option maxRecDepth 65536 in
theorem w_heap : heapFits about1 = true := by decide +kernel
set_option maxRecDepth 65536 in
theorem w_runnable : about1.curStatus? = some .runnable := by decide +kernel
set_option maxRecDepth 65536 in
theorem w_alone : about1.alone = true := by decide +kernel
set_option maxRecDepth 65536 in
theorem w_named : about1.methodNamed? x = some theMethod := by decide +kernel
set_option maxRecDepth 65536 in
theorem w_hears : about1.hears theMethod below0 = true := by decide +kernel
set_option maxRecDepth 65536 in
theorem w_ripe : about1.ripe theMethod args0 below0 = true := by decide +kernel
theorem w_running : about1.status = .running := rfl
set_option maxRecDepth 65536 in
theorem w_room : about1.hasRoom e0.platform room_1 = true :=
  launch0.hasRoom_least _ room_1 (by decide +kernel) (by decide +kernel) (by decide +kernel) (by decide +kernel) (by decide +kernel) (by decide +kernel)
theorem allAtoms_all (ts : List Jvm.Cond) (a : Array Jvm.Value) (st : Jvm.State) : (allAtoms ts).before a st = ts.all (fun c => c.before a st) := by
  induction ts with
  | nil => rfl
  | cons c t ih =>
    show (Jvm.Cond.and c (allAtoms t)).before a st = _
    rw [Jvm.Cond.before_and, ih, List.all_cons]
def words1 : List Jvm.Cond := Jvm.Cond.code x code maxLocals ret :: tables_1
/-- a 'code' word, met by the world's own term for the bytes: nothing is compared byte by byte -/
theorem code_word {y : MethodName} {bytes : ByteArray} {mx : Nat} {rt : Option FieldType} {a : Array Value} {s : State} {m : MethodId} {meth : Method} {c : Code} (h1 : s.methodNamed? y = some m) (h2 : s.vm.method? m = some meth) (h3 : meth.code = some c) (h4 : c.code = bytes)
    (h5 : (c.maxLocals == mx && c.exceptionTable.isEmpty && decide (c.maxStack ≤ mostOperands) && decide (meth.sig.returnType = rt) && !meth.locks && decide (parseMethodDescriptor y.desc = some meth.sig)) = true) : (Jvm.Cond.code y bytes mx rt).before a s = true := by
  simp only [Bool.and_eq_true, beq_iff_eq, Bool.not_eq_true', decide_eq_true_eq] at h5
  obtain ⟨⟨⟨⟨⟨g1, g2⟩, g3⟩, g4⟩, g5⟩, g6⟩ := h5
  simp [Cond.before, Cond.holds, Cond.value, h1, h2, h3, h4, g1, g2, g3, g4, g5, g6]
def isCode : Jvm.Cond → Bool
  | .code _ _ _ _ => true
  | _ => false
theorem all_split {L : List Jvm.Cond} {P : Jvm.Cond → Bool} (h1 : L.all (fun c => isCode c || P c) = true) (h2 : ∀ c ∈ L.filter isCode, P c = true) : L.all P = true := by
  refine List.all_eq_true.mpr fun c hc => ?_
  have h := List.all_eq_true.mp h1 c hc
  rcases Bool.eq_false_or_eq_true (isCode c) with hi | hi
  · exact h2 c (List.mem_filter.mpr ⟨hc, hi⟩)
  · simpa [hi] using h
set_option maxRecDepth 65536 in
theorem w_c0 : (Jvm.Cond.code x code maxLocals ret).before args0 about1 = true := code_word (m := ⟨1, 1⟩) (meth := k1m1) (c := k1c1) (by decide +kernel) rfl rfl rfl (by decide +kernel)
set_option maxRecDepth 65536 in
theorem w_c1 : (Jvm.Cond.code ({ cls := "com/example/weighted_worlds/weightedworlds/Probability", name := "of", desc := "(D)Lcom/example/weighted_worlds/weightedworlds/Probability;" } : Jvm.MethodName) prog_17_method_2_code (2 : Nat) (Option.some (Jvm.ClassFile.FieldType.object "com/example/weighted_worlds/weightedworlds/Probability"))).before args0 about1 = true := code_word (m := ⟨2, 1⟩) (meth := k2m1) (c := k2c1) (by decide +kernel) rfl rfl rfl (by decide +kernel)
set_option maxRecDepth 65536 in
theorem w_c2 : (Jvm.Cond.code ({ cls := "com/example/weighted_worlds/weightedworlds/Probability", name := "<init>", desc := "(D)V" } : Jvm.MethodName) prog_17_method_1_code (3 : Nat) (Option.none : Option Jvm.ClassFile.FieldType)).before args0 about1 = true := code_word (m := ⟨2, 0⟩) (meth := k2m0) (c := k2c0) (by decide +kernel) rfl rfl rfl (by decide +kernel)
set_option maxRecDepth 65536 in
theorem w_c3 : (Jvm.Cond.code ({ cls := "java/lang/Object", name := "<init>", desc := "()V" } : Jvm.MethodName) object_method_1_code (1 : Nat) (Option.none : Option Jvm.ClassFile.FieldType)).before args0 about1 = true := code_word (m := ⟨0, 0⟩) (meth := k0m0) (c := k0c0) (by decide +kernel) rfl rfl rfl (by decide +kernel)
set_option maxRecDepth 65536 in
theorem w_c4 : (Jvm.Cond.code ({ cls := "com/example/weighted_worlds/weightedworlds/Probability", name := "value", desc := "()D" } : Jvm.MethodName) prog_17_method_5_code (1 : Nat) (Option.some Jvm.ClassFile.FieldType.double)).before args0 about1 = true := code_word (m := ⟨2, 2⟩) (meth := k2m2) (c := k2c2) (by decide +kernel) rfl rfl rfl (by decide +kernel)
def codes1 : List Jvm.Cond := [Jvm.Cond.code x code maxLocals ret, Jvm.Cond.code ({ cls := "com/example/weighted_worlds/weightedworlds/Probability", name := "of", desc := "(D)Lcom/example/weighted_worlds/weightedworlds/Probability;" } : Jvm.MethodName) prog_17_method_2_code (2 : Nat) (Option.some (Jvm.ClassFile.FieldType.object "com/example/weighted_worlds/weightedworlds/Probability")), Jvm.Cond.code ({ cls := "com/example/weighted_worlds/weightedworlds/Probability", name := "<init>", desc := "(D)V" } : Jvm.MethodName) prog_17_method_1_code (3 : Nat) (Option.none : Option Jvm.ClassFile.FieldType), Jvm.Cond.code ({ cls := "java/lang/Object", name := "<init>", desc := "()V" } : Jvm.MethodName) object_method_1_code (1 : Nat) (Option.none : Option Jvm.ClassFile.FieldType), Jvm.Cond.code ({ cls := "com/example/weighted_worlds/weightedworlds/Probability", name := "value", desc := "()D" } : Jvm.MethodName) prog_17_method_5_code (1 : Nat) (Option.some Jvm.ClassFile.FieldType.double)]
set_option maxRecDepth 65536 in
theorem codes_eq : words1.filter isCode = codes1 := rfl
theorem w_codes : ∀ c ∈ words1.filter isCode, c.before args0 about1 = true := by
  rw [codes_eq]
  intro c hc
  simp only [codes1, List.mem_cons, List.not_mem_nil, or_false] at hc
  rcases hc with rfl | rfl | rfl | rfl | rfl
  · exact w_c0
  · exact w_c1
  · exact w_c2
  · exact w_c3
  · exact w_c4
set_option maxRecDepth 65536 in
theorem w_t1 : words1.all (fun c => isCode c || c.before args0 about1) = true := by decide +kernel
theorem w_tables : (allAtoms (Jvm.Cond.code x code maxLocals ret :: tables_1)).before args0 about1 = true := by
  rw [allAtoms_all]
  show words1.all (fun c => c.before args0 about1) = true
  refine all_split ?_ w_codes
  rw [w_t1]
set_option maxRecDepth 65536 in
theorem w_case : (Jvm.Cond.and given_1 narrow_1).before args0 about1 = true := by decide +kernel
theorem w_applies : (headSpec (Jvm.Cond.code x code maxLocals ret :: tables_1) room_1).applies x e0.platform about1 = true :=
  (Spec.applies_iff w_frames).mpr ⟨w_running, w_runnable, w_alone, w_named, w_hears, w_ripe, w_room, w_tables⟩
theorem atStart : AtStart classFile x code maxLocals ret World_1 tables_1 room_1 Calls_1 rest_1 Pre_1 launch0 p0 e0 about1 theMethod args0 below0 :=
  ⟨lists_1, trivial, launch0.admits_env _ _ _, launch0.least_env, fairChoices_fair.cas, fairChoices_fair.clock, w_frames, w_args, w_heap, w_applies, trivial, trivial, w_case⟩
end start1
theorem witness_1 : WitnessClaimed_1 := ⟨start1.p0, start1.e0, start1.about1, start1.theMethod, start1.args0, start1.below0, start1.atStart⟩
end Jvm.Pilot.@@N@@
