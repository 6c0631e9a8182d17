import JvmDerived
import JvmDerived.Pilot.@@N@@Statement
import JvmDerived.Pilot.@@N@@Code
set_option linter.unusedVariables false
set_option linter.unusedSimpArgs false
namespace Jvm.RoadKit
open Sem ClassFile Op Lib Jvm.Stand Jvm.Free Jvm.LawKit
section New
variable {p : Program} {l : Launch} {e : Env} {R : Room} {s : State} {m : MethodId} {args : Array Value} {below : List Frame} {meth : Method} {c : Code} {T : State} {locs : List Loc} {cells slots : Nat}
theorem retI (X : Stand p l e R s m args below meth c T locs cells slots) (hx : p.tables.exec = Jvm.exec) {pc : Nat} {Ls : Array Slot} {z : Int32} {rest : List Value} (hret : meth.sig.returnType = some .int) (hd : decode c.code pc = .ok (.ireturn, 1)) {fs : List Frame}
    (hl : ∀ (f : JFrame) (acts : List Action), f.method = m → f.locked = none → f.entered = [] → (doReturn e (T.setTop f) acts (some (.int z))).1 = T.setFrames fs) : Steps p.tables e below (T.setTop (mkF m pc Ls (.int z :: rest))) (T.setFrames fs) := by
  have hm' : T.vm.method? m = some meth := X.method'
  have hn : narrow .int (.int z) = .int z := rfl
  show Steps p.tables e below (T.setTop { method := m, pc := pc, locals := Ls, stack := _ :: rest, locked := none }) _
  jvm_step X.here [X.here.top, hx, hd, hm', hret, hn]
  first | (intro acts; rw [hl _ acts rfl rfl rfl]) | rw [hl _ _ rfl rfl rfl]
  exact Steps.refl _
theorem own_retA (X : Stand p l e R s m args below meth c T locs cells slots) (hx : p.tables.exec = Jvm.exec) {pc : Nat} {Ls : Array Slot} {z : Value} {ty : FieldType} {rest : List Value} (hret : meth.sig.returnType = some ty) (hty : ty.isReference = true) (hz : z.isRef = true) (hd : decode c.code pc = .ok (.areturn, 1)) {fs : List Frame}
    (hl : ∀ (f : JFrame) (acts : List Action), f.method = m → f.locked = none → f.entered = [] → (doReturn e (T.setTop f) acts (some z)).1 = T.setFrames fs) : Steps p.tables e below (T.setTop (mkF m pc Ls (z :: rest))) (T.setFrames fs) := by
  have hm' : T.vm.method? m = some meth := X.method'
  show Steps p.tables e below (T.setTop { method := m, pc := pc, locals := Ls, stack := _ :: rest, locked := none }) _
  jvm_step X.here [X.here.top, hx, hd, hm', hret, hty, hz]
  first | (intro acts; rw [hl _ acts rfl rfl rfl]) | rw [hl _ _ rfl rfl rfl]
  exact Steps.refl _
theorem own_retD (X : Stand p l e R s m args below meth c T locs cells slots) (hx : p.tables.exec = Jvm.exec) {pc : Nat} {Ls : Array Slot} {z : UInt64} {rest : List Value} (hret : meth.sig.returnType = some .double) (hd : decode c.code pc = .ok (.dreturn, 1)) {fs : List Frame}
    (hl : ∀ (f : JFrame) (acts : List Action), f.method = m → f.locked = none → f.entered = [] → (doReturn e (T.setTop f) acts (some (.double z))).1 = T.setFrames fs) : Steps p.tables e below (T.setTop (mkF m pc Ls (.double z :: rest))) (T.setFrames fs) :=
  retOut X hx hret rfl (Or.inr (Or.inr (Or.inl ⟨rfl, rfl, z, rfl⟩))) hd hl
/-- where a body is to end: it runs, it has ended, it returned v, Q says what v and the heap are -/
def own_F (s : State) (below : List Frame) (Q : Option Value → Heap → List Loc → Prop) (C S : Nat) (t : State) (o : Outcome) : Prop := t.status = .running ∧ Ended t below o ∧ ∃ v L, o = .returned v ∧ Q v t.heap L ∧ FrameEnd s o t L C S
/-- the run from T, with the frame g on top, comes to such an end -/
def own_Go (p : Program) (e : Env) (below : List Frame) (F : State → Outcome → Prop) (T : State) (g : JFrame) : Prop := ∃ t o, Steps p.tables e below (T.setTop g) t ∧ F t o
theorem own_st {F : State → Outcome → Prop} {T T' : State} {g g' : JFrame} (h : ∀ t, Steps p.tables e below (T'.setTop g') t → Steps p.tables e below (T.setTop g) t) (k : own_Go p e below F T' g') : own_Go p e below F T g := by
  obtain ⟨t, o, h1, h2⟩ := k
  exact ⟨t, o, h t h1, h2⟩
theorem own_cast {F : State → Outcome → Prop} {T : State} {g g' : JFrame} (q : g = g') (k : own_Go p e below F T g') : own_Go p e below F T g := q ▸ k
theorem own_ret {F : State → Outcome → Prop} {Q : Option Value → Heap → List Loc → Prop} {C S : Nat} {g : JFrame} {v : Option Value} (hF : F = own_F s below Q C S) (X : Stand p l e R s m args below meth c T locs cells slots) (hv : meth.sig.returnType = none → v = none) (hlk : meth.locks = false)
    (hst : ∀ fs, (∀ (f : JFrame) (acts : List Action), f.method = m → f.locked = none → f.entered = [] → (doReturn e (T.setTop f) acts v).1 = T.setFrames fs) → Steps p.tables e below (T.setTop g) (T.setFrames fs)) (hQ : Q v T.heap locs) (hc : cells ≤ C) (hs : slots ≤ S) : own_Go p e below F T g := by
  subst hF
  obtain ⟨fs, hr, hrun, hended, hW, hsame⟩ := X.leave hv hlk
  exact ⟨T.setFrames fs, .returned v, hst fs hr, hrun, hended, v, locs, rfl, hQ, ⟨_, rfl⟩, hW, hsame.mono hc hs⟩
theorem own_some {ret : Option FieldType} {ty : FieldType} {v : Option Value} (hret : ret = some ty) : ret = none → v = none := fun h => by rw [hret] at h; cases h
/-- a body's contract: called with 'as' at the heap h0 it returns, and Q holds of what it returned, of the heap, of the places written -/
abbrev own_Met (l : Launch) (Z : State) (y : MethodName) (bytes : ByteArray) (maxL : Nat) (ret : Option FieldType) (rm : Room) (as : Array Value) (h0 : Heap) (Q : Option Value → Heap → List Loc → Prop) : Prop :=
  ∀ ws : List Jvm.Cond, MetFree l y (head1 (Jvm.Cond.code y bytes maxL ret :: ws) rm) (fun a U => a = as ∧ Z.Warmed39 U.vm ∧ U.heap = h0) (fun _ _ _ _ _ => True) (fun _ U o U' => ∃ v L, o = .returned v ∧ Q v U'.heap L ∧ FrameEnd U o U' L rm.cells rm.slots)
theorem own_body {Z : State} {y : MethodName} {bytes : ByteArray} {maxL : Nat} {ret : Option FieldType} {rm : Room} {as : Array Value} {h0 : Heap} {Q : Option Value → Heap → List Loc → Prop} (hpl : plainFor y = true)
    (body : ∀ (p : Program) (e : Env) (s : State) (m : MethodId) (below : List Frame) (meth : Method) (c : Code) (T : State), Z.Warmed39 s.vm → p.tables.exec = Jvm.exec → c.code = bytes → c.maxLocals = maxL → s.vm.findClass y.cls = some m.cls → meth.name = y.name → meth.sig.returnType = ret → meth.locks = false →
      Stand p l e rm s m as below meth c T [] 0 0 → T.heap = h0 → ∀ F : State → Outcome → Prop, F = own_F s below Q rm.cells rm.slots → own_Go p e below F T (entryFrame m as maxL)) : own_Met l Z y bytes maxL ret rm as h0 Q := by
  intro ws
  refine MetFree.of_bodySF hpl hisR ?_
  intro p e s m args below meth c s₁ Bd hml0 hP hK
  obtain ⟨rfl, hZ, hh⟩ := hP
  obtain ⟨t, o, h1, h2, h3, h4⟩ := body p e s m below meth c s₁ hZ Bd.exec Bd.bytes hml0 (findClass_of_methodNamed Bd.named) (name_of_methodNamed Bd.named Bd.method).1 Bd.returns (BodyLoose.notSynchronized Bd) (Stand.of_body Bd) (by rw [← hh, Bd.state]; rfl) _ rfl
  exact ⟨t, o, h1, h2, h3, h4⟩
theorem own_back {Z : State} {a0 : Array Value} {y : MethodName} {bytes : ByteArray} {maxL : Nat} {ret : Option FieldType} {rm : Room} {len W : Nat} {as' : Array Value} {h : Heap} {Q : Option Value → Heap → List Loc → Prop} (hM : own_Met l Z y bytes maxL ret rm as' h Q)
    (hZ : Z.Warmed39 s.vm) (wc : (Cond.code y bytes maxL ret).before a0 Z = true) (wz : (Cond.initialized y.cls).before a0 Z = true) (hf : rm.frames + 1 ≤ R.frames) (hl : W + (maxL + 11) + rm.locals ≤ R.locals) :
    Back l R p e below s args y len W (fun A a => a = as' ∧ A.U.heap = h ∧ A.cells + rm.cells ≤ R.cells ∧ A.slots + rm.slots ≤ R.slots)
      (fun A _ v B => ∃ L, Q v B.U.heap L ∧ B.locs = A.locs ++ L ∧ B.cells = A.cells + rm.cells ∧ B.slots = A.slots + rm.slots) := backOf (Q := Q) (rm := rm) (hM []) hZ wc wz hf hl
theorem own_selP {Z : State} {a0 : Array Value} {y : MethodName} {n : Nat} (hZ : Z.Warmed39 s.vm) (wi : (Cond.instantiable y.cls n).before a0 Z = true) (hpriv : s.PrivateAt y) (hinst : (Cond.instanceMethod y).before args s = true) (hy : y.cls ≠ "java/lang/invoke/MethodHandle" ∧ y.cls ≠ "java/lang/invoke/VarHandle") : (Cond.selects y.cls y y).before args s = true := by
  obtain ⟨c, k, h1, h2, h3, h4, -, -⟩ := Cond.instantiable_spec (mvT (args := args) hZ wi)
  exact selects_self_of_private h1 h2 (by cases hi : k.isInterface <;> simp [hi] at h4 ⊢) hpriv hinst hy
theorem own_fresh {Z : State} {h : Heap} {b : Addr} (g : b = h.size) {n : Nat} (q : n ≤ h.size) : n ≤ b := g ▸ q
theorem own_ne {h : Heap} {a b : Addr} (g : b = h.size) (q : a < h.size) : a ≠ b := Nat.ne_of_lt (g ▸ q)
end New
end Jvm.RoadKit
namespace Jvm.Pilot.@@N@@
open Jvm Jvm.ClassFile Sem Op Lib Jvm.Free Jvm.Stand Jvm.LawKit Jvm.RoadKit Bundle Jvm.Pilot.@@N@@.Jvm.D

theorem own_k (n : Int64) (k : Int) (h : n.toInt = k := by decide) : n.toInt = k := h
theorem own_lt {a b : Int64} (h : a.toInt < b.toInt) : a < b := Int64.lt_iff_toInt_lt.mpr h
theorem own_nlt {a b : Int64} (h : b.toInt ≤ a.toInt) : ¬ a < b := fun q => by have := Int64.lt_iff_toInt_lt.mp q; omega
theorem own_lt' {a b : Int64} (h : a < b) : a.toInt < b.toInt := Int64.lt_iff_toInt_lt.mp h
theorem own_nlt' {a b : Int64} (h : ¬ a < b) : b.toInt ≤ a.toInt := Int.not_lt.mp fun q => h (own_lt q)
/-- what 'amount' makes of ms in units of u -/
def own_Am (ms u r : Int64) : Prop := ((ms - (ms / u) * u) * (2 : Int64) < u ∧ r = ms / u) ∨ (¬ ((ms - (ms / u) * u) * (2 : Int64) < u) ∧ r = ms / u + (1 : Int64))
theorem own_near (ms r : Int64) (h0 : 0 ≤ ms.toInt) (h : own_Am ms 1000 r) : ¬ r < (0 : Int64) ∧ ¬ ((9223372036854776 : Int64) < r) ∧ ¬ ((ms - (r * (1000 : Int64))) < (-500 : Int64)) ∧ (ms - (r * (1000 : Int64))) < (500 : Int64) := by
  have k1 := own_k 1000 1000; have k2 := own_k 2 2; have k3 := own_k 0 0; have k4 := own_k 9223372036854776 9223372036854776; have k5 := own_k (-500) (-500); have k6 := own_k 500 500; have k7 := own_k 1 1
  have d1 := (c_ldiv ms 1000 1000 k1 (by decide)).1 h0
  have d2 := (c_lrem ms 1000 1000 k1).1 h0
  have d3 := c_lmul (ms - (ms / (1000 : Int64)) * (1000 : Int64)) (2 : Int64)
  have d4 := rng64 ((ms - (ms / (1000 : Int64)) * (1000 : Int64)) * (2 : Int64))
  have d5 := rng64 ms
  have d6 := c_ladd (ms / (1000 : Int64)) (1 : Int64)
  have d7 := rng64 (ms / (1000 : Int64) + (1 : Int64))
  have d8 := c_lmul r (1000 : Int64)
  have d9 := rng64 (r * (1000 : Int64))
  have d10 := c_lsub ms (r * (1000 : Int64))
  have d11 := rng64 (ms - (r * (1000 : Int64)))
  rw [k2, d2] at d3; rw [k7, d1] at d6; rw [k1] at d8
  rcases h with ⟨a, b⟩ | ⟨a, b⟩
  · have a' := own_lt' a
    have b' : r.toInt = ms.toInt / 1000 := by rw [b, d1]
    rw [b'] at d8
    refine ⟨own_nlt (by omega), own_nlt (by omega), own_nlt (by omega), own_lt (by omega)⟩
  · have a' := own_nlt' a
    have b' : r.toInt = ms.toInt / 1000 + 1 := by rw [b]; omega
    rw [b'] at d8
    refine ⟨own_nlt (by omega), own_nlt (by omega), own_nlt (by omega), own_lt (by omega)⟩
theorem own_unit (ms r : Int64) (h0 : 0 ≤ ms.toInt) (h : own_Am ms 1 r) : r = ms := by
  have k1 := own_k 1 1; have k2 := own_k 2 2
  have d1 := (c_ldiv ms 1 1 k1 (by decide)).1 h0
  have d2 := (c_lrem ms 1 1 k1).1 h0
  have d3 := c_lmul (ms - (ms / (1 : Int64)) * (1 : Int64)) (2 : Int64)
  have d4 := rng64 ((ms - (ms / (1 : Int64)) * (1 : Int64)) * (2 : Int64))
  rw [k2, d2] at d3
  rcases h with ⟨a, b⟩ | ⟨a, b⟩
  · apply Int64.toInt_inj.mp; rw [b, d1]; omega
  · have a' := own_nlt' a
    omega

theorem pd_0 : parseMethodDescriptor "(JJ)J" = some ⟨[.long, .long], some .long⟩ := by decide +kernel
theorem pd_1 : parseMethodDescriptor "(JJ)Z" = some ⟨[.long, .long], some .boolean⟩ := by decide +kernel
theorem d1_0 : decode jdk_29_method_66_code 0 = .ok (.lload_n 0, 1) := by decide +kernel
theorem d1_1 : decode jdk_29_method_66_code 1 = .ok (.lload_n 2, 1) := by decide +kernel
theorem d1_2 : decode jdk_29_method_66_code 2 = .ok (.lcmp, 1) := by decide +kernel
theorem d1_3 : decode jdk_29_method_66_code 3 = .ok (.ifCond .lt 7, 3) := by decide +kernel
theorem d1_6 : decode jdk_29_method_66_code 6 = .ok (.lload_n 0, 1) := by decide +kernel
theorem d1_7 : decode jdk_29_method_66_code 7 = .ok (.goto 4, 3) := by decide +kernel
theorem d1_10 : decode jdk_29_method_66_code 10 = .ok (.lload_n 2, 1) := by decide +kernel
theorem d1_11 : decode jdk_29_method_66_code 11 = .ok (.lreturn, 1) := by decide +kernel
theorem pn_1 : plainFor (⟨"java/lang/Math", "max", "(JJ)J"⟩ : MethodName) = true := (Jvm.Free.JP.mathPlain rfl (by decide +kernel))
set_option maxRecDepth 65536 in
set_option maxHeartbeats 40000000 in
theorem rm1 (l : Launch) (Z : State) (a0 : Array Value) (hw : ∀ d ∈ tables_1, d.before a0 Z = true) (q1 q2 : Int64) (h0 : Heap) (n0 : Nat) (Z0 : n0 ≤ h0.size)  :
    own_Met l Z (⟨"java/lang/Math", "max", "(JJ)J"⟩ : MethodName) jdk_29_method_66_code 4 (some .long) ({ frames := 0, cells := 0, slots := 0, locals := 0 } : Room) #[(.long q1), (.long q2)] h0 (fun v h L => ∃ r, v = some (.long r) ∧ Fr n0 L ∧ h = h0 ∧ ((q1 < q2 ∧ r = q2) ∨ (¬ (q1 < q2) ∧ r = q1))) := by
  refine own_body pn_1 ?_
  intro p e s m below meth c T0 hZ hx hby hml hown hnm hret hlk X0 e0 F hF
  have N0 := Fr.nil n0
  have K0 := Keep.refl h0 []
  refine own_cast (g' := (mkF m 0 #[.val (.long q1), .second, .val (.long q2), .second] [])) (by first | rfl | simp [entryFrame, mkF, argsToLocals, Value.category]) ?_
  refine own_st (T' := T0) (g' := (mkF m 1 #[.val (.long q1), .second, .val (.long q2), .second] [(.long q1)])) (fun t9 k9 => XS.lloadN X0.here hx rfl (hb hby d1_0) rfl k9) ?_
  refine own_st (T' := T0) (g' := (mkF m 2 #[.val (.long q1), .second, .val (.long q2), .second] [(.long q2), (.long q1)])) (fun t9 k9 => XS.lloadN X0.here hx rfl (hb hby d1_1) rfl k9) ?_
  refine own_st (T' := T0) (g' := (mkF m 3 #[.val (.long q1), .second, .val (.long q2), .second] [(.int (lcmpW q1 q2))])) (fun t9 k9 => XS.lcmp X0.here hx rfl (hb hby d1_2) rfl k9) ?_
  by_cases hp : q1 < q2
  · refine own_st (T' := T0) (g' := (mkF m 10 #[.val (.long q1), .second, .val (.long q2), .second] [])) (fun t9 k9 => XS.ifYes X0.here hx rfl (pc0 := 3) (pc' := 10) rfl (hb hby d1_3) rfl ((if0 _ _).trans (tlt ((lw_lt _ _).mpr hp : (lcmpW q1 q2) < (0 : Int32))).1) (by decide) (by decide) k9) ?_
    refine own_st (T' := T0) (g' := (mkF m 11 #[.val (.long q1), .second, .val (.long q2), .second] [(.long q2)])) (fun t9 k9 => XS.lloadN X0.here hx rfl (hb hby d1_10) rfl k9) ?_
    refine own_ret (v := some (.long q2)) hF X0 (own_some hret) hlk (fun fs hr => X0.lreturnOut hx hret (hb hby d1_11) hr) ?_ (by decide) (by decide)
    try rw [e0]
    exact ⟨_, rfl, N0, rfl, Or.inl ⟨hp, rfl⟩⟩
  · refine own_st (T' := T0) (g' := (mkF m 6 #[.val (.long q1), .second, .val (.long q2), .second] [])) (fun t9 k9 => XS.ifNo X0.here hx rfl (hb hby d1_3) rfl ((if0 _ _).trans (flt (fun q => hp ((lw_lt _ _).mp q) : ¬ ((lcmpW q1 q2) < (0 : Int32)))).1) k9) ?_
    refine own_st (T' := T0) (g' := (mkF m 7 #[.val (.long q1), .second, .val (.long q2), .second] [(.long q1)])) (fun t9 k9 => XS.lloadN X0.here hx rfl (hb hby d1_6) rfl k9) ?_
    refine own_st (T' := T0) (g' := (mkF m 11 #[.val (.long q1), .second, .val (.long q2), .second] [(.long q1)])) (fun t9 k9 => XS.goto X0.here hx rfl (pc0 := 7) (pc' := 11) rfl (hb hby d1_7) (by decide) (by decide) k9) ?_
    refine own_ret (v := some (.long q1)) hF X0 (own_some hret) hlk (fun fs hr => X0.lreturnOut hx hret (hb hby d1_11) hr) ?_ (by decide) (by decide)
    try rw [e0]
    exact ⟨_, rfl, N0, rfl, Or.inr ⟨hp, rfl⟩⟩
theorem d2_0 : decode jdk_29_method_70_code 0 = .ok (.lload_n 0, 1) := by decide +kernel
theorem d2_1 : decode jdk_29_method_70_code 1 = .ok (.lload_n 2, 1) := by decide +kernel
theorem d2_2 : decode jdk_29_method_70_code 2 = .ok (.lcmp, 1) := by decide +kernel
theorem d2_3 : decode jdk_29_method_70_code 3 = .ok (.ifCond .gt 7, 3) := by decide +kernel
theorem d2_6 : decode jdk_29_method_70_code 6 = .ok (.lload_n 0, 1) := by decide +kernel
theorem d2_7 : decode jdk_29_method_70_code 7 = .ok (.goto 4, 3) := by decide +kernel
theorem d2_10 : decode jdk_29_method_70_code 10 = .ok (.lload_n 2, 1) := by decide +kernel
theorem d2_11 : decode jdk_29_method_70_code 11 = .ok (.lreturn, 1) := by decide +kernel
theorem pn_2 : plainFor (⟨"java/lang/Math", "min", "(JJ)J"⟩ : MethodName) = true := (Jvm.Free.JP.mathPlain rfl (by decide +kernel))
set_option maxRecDepth 65536 in
set_option maxHeartbeats 40000000 in
theorem rm2 (l : Launch) (Z : State) (a0 : Array Value) (hw : ∀ d ∈ tables_1, d.before a0 Z = true) (q1 q2 : Int64) (h0 : Heap) (n0 : Nat) (Z0 : n0 ≤ h0.size)  :
    own_Met l Z (⟨"java/lang/Math", "min", "(JJ)J"⟩ : MethodName) jdk_29_method_70_code 4 (some .long) ({ frames := 0, cells := 0, slots := 0, locals := 0 } : Room) #[(.long q1), (.long q2)] h0 (fun v h L => ∃ r, v = some (.long r) ∧ Fr n0 L ∧ h = h0 ∧ ((q2 < q1 ∧ r = q2) ∨ (¬ (q2 < q1) ∧ r = q1))) := by
  refine own_body pn_2 ?_
  intro p e s m below meth c T0 hZ hx hby hml hown hnm hret hlk X0 e0 F hF
  have N0 := Fr.nil n0
  have K0 := Keep.refl h0 []
  refine own_cast (g' := (mkF m 0 #[.val (.long q1), .second, .val (.long q2), .second] [])) (by first | rfl | simp [entryFrame, mkF, argsToLocals, Value.category]) ?_
  refine own_st (T' := T0) (g' := (mkF m 1 #[.val (.long q1), .second, .val (.long q2), .second] [(.long q1)])) (fun t9 k9 => XS.lloadN X0.here hx rfl (hb hby d2_0) rfl k9) ?_
  refine own_st (T' := T0) (g' := (mkF m 2 #[.val (.long q1), .second, .val (.long q2), .second] [(.long q2), (.long q1)])) (fun t9 k9 => XS.lloadN X0.here hx rfl (hb hby d2_1) rfl k9) ?_
  refine own_st (T' := T0) (g' := (mkF m 3 #[.val (.long q1), .second, .val (.long q2), .second] [(.int (lcmpW q1 q2))])) (fun t9 k9 => XS.lcmp X0.here hx rfl (hb hby d2_2) rfl k9) ?_
  by_cases hp : q2 < q1
  · refine own_st (T' := T0) (g' := (mkF m 10 #[.val (.long q1), .second, .val (.long q2), .second] [])) (fun t9 k9 => XS.ifYes X0.here hx rfl (pc0 := 3) (pc' := 10) rfl (hb hby d2_3) rfl ((if0 _ _).trans (tlt ((lw_gt _ _).mpr hp : (0 : Int32) < (lcmpW q1 q2))).2.2.1) (by decide) (by decide) k9) ?_
    refine own_st (T' := T0) (g' := (mkF m 11 #[.val (.long q1), .second, .val (.long q2), .second] [(.long q2)])) (fun t9 k9 => XS.lloadN X0.here hx rfl (hb hby d2_10) rfl k9) ?_
    refine own_ret (v := some (.long q2)) hF X0 (own_some hret) hlk (fun fs hr => X0.lreturnOut hx hret (hb hby d2_11) hr) ?_ (by decide) (by decide)
    try rw [e0]
    exact ⟨_, rfl, N0, rfl, Or.inl ⟨hp, rfl⟩⟩
  · refine own_st (T' := T0) (g' := (mkF m 6 #[.val (.long q1), .second, .val (.long q2), .second] [])) (fun t9 k9 => XS.ifNo X0.here hx rfl (hb hby d2_3) rfl ((if0 _ _).trans (flt (fun q => hp ((lw_gt _ _).mp q) : ¬ ((0 : Int32) < (lcmpW q1 q2)))).2.2.1) k9) ?_
    refine own_st (T' := T0) (g' := (mkF m 7 #[.val (.long q1), .second, .val (.long q2), .second] [(.long q1)])) (fun t9 k9 => XS.lloadN X0.here hx rfl (hb hby d2_6) rfl k9) ?_
    refine own_st (T' := T0) (g' := (mkF m 11 #[.val (.long q1), .second, .val (.long q2), .second] [(.long q1)])) (fun t9 k9 => XS.goto X0.here hx rfl (pc0 := 7) (pc' := 11) rfl (hb hby d2_7) (by decide) (by decide) k9) ?_
    refine own_ret (v := some (.long q1)) hF X0 (own_some hret) hlk (fun fs hr => X0.lreturnOut hx hret (hb hby d2_11) hr) ?_ (by decide) (by decide)
    try rw [e0]
    exact ⟨_, rfl, N0, rfl, Or.inr ⟨hp, rfl⟩⟩
theorem d3_0 : decode prog_33_method_6_code 0 = .ok (.aload_n 0, 1) := by decide +kernel
theorem d3_1 : decode prog_33_method_6_code 1 = .ok (.getfield 39, 3) := by decide +kernel
theorem d3_4 : decode prog_33_method_6_code 4 = .ok (.ifCond .eq 7, 3) := by decide +kernel
theorem d3_7 : decode prog_33_method_6_code 7 = .ok (.lload_n 1, 1) := by decide +kernel
theorem d3_8 : decode prog_33_method_6_code 8 = .ok (.goto 6, 3) := by decide +kernel
theorem d3_11 : decode prog_33_method_6_code 11 = .ok (.lload_n 1, 1) := by decide +kernel
theorem d3_12 : decode prog_33_method_6_code 12 = .ok (.lload_n 3, 1) := by decide +kernel
theorem d3_13 : decode prog_33_method_6_code 13 = .ok (.lsub, 1) := by decide +kernel
theorem d3_14 : decode prog_33_method_6_code 14 = .ok (.lstore 5, 2) := by decide +kernel
theorem d3_16 : decode prog_33_method_6_code 16 = .ok (.lload 5, 2) := by decide +kernel
theorem d3_18 : decode prog_33_method_6_code 18 = .ok (.aload_n 0, 1) := by decide +kernel
theorem d3_19 : decode prog_33_method_6_code 19 = .ok (.getfield 35, 3) := by decide +kernel
theorem d3_22 : decode prog_33_method_6_code 22 = .ok (.ldiv, 1) := by decide +kernel
theorem d3_23 : decode prog_33_method_6_code 23 = .ok (.lstore 7, 2) := by decide +kernel
theorem d3_25 : decode prog_33_method_6_code 25 = .ok (.lload 5, 2) := by decide +kernel
theorem d3_27 : decode prog_33_method_6_code 27 = .ok (.aload_n 0, 1) := by decide +kernel
theorem d3_28 : decode prog_33_method_6_code 28 = .ok (.getfield 35, 3) := by decide +kernel
theorem d3_31 : decode prog_33_method_6_code 31 = .ok (.lrem, 1) := by decide +kernel
theorem d3_32 : decode prog_33_method_6_code 32 = .ok (.ldc2_w 79, 3) := by decide +kernel
theorem d3_35 : decode prog_33_method_6_code 35 = .ok (.lmul, 1) := by decide +kernel
theorem d3_36 : decode prog_33_method_6_code 36 = .ok (.aload_n 0, 1) := by decide +kernel
theorem d3_37 : decode prog_33_method_6_code 37 = .ok (.getfield 35, 3) := by decide +kernel
theorem d3_40 : decode prog_33_method_6_code 40 = .ok (.lcmp, 1) := by decide +kernel
theorem d3_41 : decode prog_33_method_6_code 41 = .ok (.ifCond .lt 10, 3) := by decide +kernel
theorem d3_44 : decode prog_33_method_6_code 44 = .ok (.lload 7, 2) := by decide +kernel
theorem d3_46 : decode prog_33_method_6_code 46 = .ok (.lconst 1, 1) := by decide +kernel
theorem d3_47 : decode prog_33_method_6_code 47 = .ok (.ladd, 1) := by decide +kernel
theorem d3_48 : decode prog_33_method_6_code 48 = .ok (.goto 5, 3) := by decide +kernel
theorem d3_51 : decode prog_33_method_6_code 51 = .ok (.lload 7, 2) := by decide +kernel
theorem d3_53 : decode prog_33_method_6_code 53 = .ok (.lreturn, 1) := by decide +kernel
theorem pn_3 : plainFor (⟨"com/example/tuck/tuck/service/ExpiryForm", "amount", "(JJ)J"⟩ : MethodName) = true := plainFor_of_name (by first | (simp [plainName, overriddenIn]; done) | decide +kernel)
set_option maxRecDepth 65536 in
set_option maxHeartbeats 40000000 in
theorem rm3 (l : Launch) (Z : State) (a0 : Array Value) (hw : ∀ d ∈ tables_1, d.before a0 Z = true) (a1 : Addr) (q1 q2 u : Int64) (se : Int32) (h0 : Heap) (n0 : Nat) (Z0 : n0 ≤ h0.size) (F1 : Fld Z h0 a1 "com/example/tuck/tuck/service/ExpiryForm" "sinceEpoch" "Z" (.int se)) (F2 : Fld Z h0 a1 "com/example/tuck/tuck/service/ExpiryForm" "unitMillis" "J" (.long u)) (hu : ¬ u = 0) :
    own_Met l Z (⟨"com/example/tuck/tuck/service/ExpiryForm", "amount", "(JJ)J"⟩ : MethodName) prog_33_method_6_code 9 (some .long) ({ frames := 0, cells := 0, slots := 0, locals := 0 } : Room) #[(.ref a1), (.long q1), (.long q2)] h0 (fun v h L => ∃ r ms, v = some (.long r) ∧ Fr n0 L ∧ h = h0 ∧ ((se = 0 ∧ ms = q1 - q2) ∨ (¬ se = 0 ∧ ms = q1)) ∧ own_Am ms u r) := by
  refine own_body pn_3 ?_
  intro p e s m below meth c T0 hZ hx hby hml hown hnm hret hlk X0 e0 F hF
  have N0 := Fr.nil n0
  have K0 := Keep.refl h0 []
  refine own_cast (g' := (mkF m 0 #[.val (.ref a1), .val (.long q1), .second, .val (.long q2), .second, .unset, .unset, .unset, .unset] [])) (by first | rfl | simp [entryFrame, mkF, argsToLocals, Value.category]) ?_
  refine own_st (T' := T0) (g' := (mkF m 1 #[.val (.ref a1), .val (.long q1), .second, .val (.long q2), .second, .unset, .unset, .unset, .unset] [(.ref a1)])) (fun t9 k9 => XS.aloadN X0.here hx rfl (hb hby d3_0) rfl rfl k9) ?_
  obtain ⟨T1, X1, e1, st1⟩ := getF X0 hx hZ hown (host := "") (Or.inl (hw _ (List.mem_of_getElem? (i := 16) rfl))) Via.refl e0 F1 (g := (mkF m 1 #[.val (.ref a1), .val (.long q1), .second, .val (.long q2), .second, .unset, .unset, .unset, .unset] [(.ref a1)])) rfl rfl (hb hby d3_1)
  refine own_st (T' := T1) (g' := (mkF m 4 #[.val (.ref a1), .val (.long q1), .second, .val (.long q2), .second, .unset, .unset, .unset, .unset] [(.int se)])) (fun t9 k9 => st1 t9 k9) ?_
  have j14 : ∀ (ms : Int64), ((se = 0 ∧ ms = q1 - q2) ∨ (¬ se = 0 ∧ ms = q1)) → own_Go p e below F T1 (mkF m 14 #[.val (.ref a1), .val (.long q1), .second, .val (.long q2), .second, .unset, .unset, .unset, .unset] [(.long ms)]) := by
    intro ms hms
    refine own_st (T' := T1) (g' := (mkF m 16 #[.val (.ref a1), .val (.long q1), .second, .val (.long q2), .second, .val (.long ms), .second, .unset, .unset] [])) (fun t9 k9 => XS.lstore X1.here hx rfl (hb hby d3_14) rfl (l' := #[.val (.ref a1), .val (.long q1), .second, .val (.long q2), .second, .val (.long ms), .second, .unset, .unset]) rfl k9) ?_
    refine own_st (T' := T1) (g' := (mkF m 18 #[.val (.ref a1), .val (.long q1), .second, .val (.long q2), .second, .val (.long ms), .second, .unset, .unset] [(.long ms)])) (fun t9 k9 => XS.lload X1.here hx rfl (hb hby d3_16) rfl k9) ?_
    refine own_st (T' := T1) (g' := (mkF m 19 #[.val (.ref a1), .val (.long q1), .second, .val (.long q2), .second, .val (.long ms), .second, .unset, .unset] [(.ref a1), (.long ms)])) (fun t9 k9 => XS.aloadN X1.here hx rfl (hb hby d3_18) rfl rfl k9) ?_
    obtain ⟨T2, X2, e2, st2⟩ := getF X1 hx hZ hown (host := "") (Or.inl (hw _ (List.mem_of_getElem? (i := 18) rfl))) Via.refl e1 F2 (g := (mkF m 19 #[.val (.ref a1), .val (.long q1), .second, .val (.long q2), .second, .val (.long ms), .second, .unset, .unset] [(.ref a1), (.long ms)])) rfl rfl (hb hby d3_19)
    refine own_st (T' := T2) (g' := (mkF m 22 #[.val (.ref a1), .val (.long q1), .second, .val (.long q2), .second, .val (.long ms), .second, .unset, .unset] [(.long u), (.long ms)])) (fun t9 k9 => st2 t9 k9) ?_
    refine own_st (T' := T2) (g' := (mkF m 23 #[.val (.ref a1), .val (.long q1), .second, .val (.long q2), .second, .val (.long ms), .second, .unset, .unset] [(.long (ms / u))])) (fun t9 k9 => XS.ldiv X2.here hx rfl (hb hby d3_22) rfl hu k9) ?_
    refine own_st (T' := T2) (g' := (mkF m 25 #[.val (.ref a1), .val (.long q1), .second, .val (.long q2), .second, .val (.long ms), .second, .val (.long (ms / u)), .second] [])) (fun t9 k9 => XS.lstore X2.here hx rfl (hb hby d3_23) rfl (l' := #[.val (.ref a1), .val (.long q1), .second, .val (.long q2), .second, .val (.long ms), .second, .val (.long (ms / u)), .second]) rfl k9) ?_
    refine own_st (T' := T2) (g' := (mkF m 27 #[.val (.ref a1), .val (.long q1), .second, .val (.long q2), .second, .val (.long ms), .second, .val (.long (ms / u)), .second] [(.long ms)])) (fun t9 k9 => XS.lload X2.here hx rfl (hb hby d3_25) rfl k9) ?_
    refine own_st (T' := T2) (g' := (mkF m 28 #[.val (.ref a1), .val (.long q1), .second, .val (.long q2), .second, .val (.long ms), .second, .val (.long (ms / u)), .second] [(.ref a1), (.long ms)])) (fun t9 k9 => XS.aloadN X2.here hx rfl (hb hby d3_27) rfl rfl k9) ?_
    obtain ⟨T3, X3, e3, st3⟩ := getF X2 hx hZ hown (host := "") (Or.inl (hw _ (List.mem_of_getElem? (i := 18) rfl))) Via.refl e2 F2 (g := (mkF m 28 #[.val (.ref a1), .val (.long q1), .second, .val (.long q2), .second, .val (.long ms), .second, .val (.long (ms / u)), .second] [(.ref a1), (.long ms)])) rfl rfl (hb hby d3_28)
    refine own_st (T' := T3) (g' := (mkF m 31 #[.val (.ref a1), .val (.long q1), .second, .val (.long q2), .second, .val (.long ms), .second, .val (.long (ms / u)), .second] [(.long u), (.long ms)])) (fun t9 k9 => st3 t9 k9) ?_
    refine own_st (T' := T3) (g' := (mkF m 32 #[.val (.ref a1), .val (.long q1), .second, .val (.long q2), .second, .val (.long ms), .second, .val (.long (ms / u)), .second] [(.long (ms - (ms / u) * u))])) (fun t9 k9 => XS.lrem X3.here hx rfl (hb hby d3_31) rfl hu k9) ?_
    refine own_st (T' := T3) (g' := (mkF m 35 #[.val (.ref a1), .val (.long q1), .second, .val (.long q2), .second, .val (.long ms), .second, .val (.long (ms / u)), .second] [(.long (2 : Int64)), (.long (ms - (ms / u) * u))])) (fun t9 k9 => X3.ldc2Long hx hown (mvT hZ (hw _ (List.mem_of_getElem? (i := 20) rfl))) (g := (mkF m 32 #[.val (.ref a1), .val (.long q1), .second, .val (.long q2), .second, .val (.long ms), .second, .val (.long (ms / u)), .second] [(.long (ms - (ms / u) * u))])) rfl (hb hby d3_32) t9 k9) ?_
    refine own_st (T' := T3) (g' := (mkF m 36 #[.val (.ref a1), .val (.long q1), .second, .val (.long q2), .second, .val (.long ms), .second, .val (.long (ms / u)), .second] [(.long ((ms - (ms / u) * u) * (2 : Int64)))])) (fun t9 k9 => XS.lmul X3.here hx rfl (hb hby d3_35) rfl k9) ?_
    refine own_st (T' := T3) (g' := (mkF m 37 #[.val (.ref a1), .val (.long q1), .second, .val (.long q2), .second, .val (.long ms), .second, .val (.long (ms / u)), .second] [(.ref a1), (.long ((ms - (ms / u) * u) * (2 : Int64)))])) (fun t9 k9 => XS.aloadN X3.here hx rfl (hb hby d3_36) rfl rfl k9) ?_
    obtain ⟨T4, X4, e4, st4⟩ := getF X3 hx hZ hown (host := "") (Or.inl (hw _ (List.mem_of_getElem? (i := 18) rfl))) Via.refl e3 F2 (g := (mkF m 37 #[.val (.ref a1), .val (.long q1), .second, .val (.long q2), .second, .val (.long ms), .second, .val (.long (ms / u)), .second] [(.ref a1), (.long ((ms - (ms / u) * u) * (2 : Int64)))])) rfl rfl (hb hby d3_37)
    refine own_st (T' := T4) (g' := (mkF m 40 #[.val (.ref a1), .val (.long q1), .second, .val (.long q2), .second, .val (.long ms), .second, .val (.long (ms / u)), .second] [(.long u), (.long ((ms - (ms / u) * u) * (2 : Int64)))])) (fun t9 k9 => st4 t9 k9) ?_
    refine own_st (T' := T4) (g' := (mkF m 41 #[.val (.ref a1), .val (.long q1), .second, .val (.long q2), .second, .val (.long ms), .second, .val (.long (ms / u)), .second] [(.int (lcmpW ((ms - (ms / u) * u) * (2 : Int64)) u))])) (fun t9 k9 => XS.lcmp X4.here hx rfl (hb hby d3_40) rfl k9) ?_
    by_cases hp : ((ms - (ms / u) * u) * (2 : Int64)) < u
    · refine own_st (T' := T4) (g' := (mkF m 51 #[.val (.ref a1), .val (.long q1), .second, .val (.long q2), .second, .val (.long ms), .second, .val (.long (ms / u)), .second] [])) (fun t9 k9 => XS.ifYes X4.here hx rfl (pc0 := 41) (pc' := 51) rfl (hb hby d3_41) rfl ((if0 _ _).trans (tlt ((lw_lt _ _).mpr hp : (lcmpW ((ms - (ms / u) * u) * (2 : Int64)) u) < (0 : Int32))).1) (by decide) (by decide) k9) ?_
      refine own_st (T' := T4) (g' := (mkF m 53 #[.val (.ref a1), .val (.long q1), .second, .val (.long q2), .second, .val (.long ms), .second, .val (.long (ms / u)), .second] [(.long (ms / u))])) (fun t9 k9 => XS.lload X4.here hx rfl (hb hby d3_51) rfl k9) ?_
      refine own_ret (v := some (.long (ms / u))) hF X4 (own_some hret) hlk (fun fs hr => X4.lreturnOut hx hret (hb hby d3_53) hr) ?_ (by decide) (by decide)
      try rw [e4]
      exact ⟨_, ms, rfl, N0, rfl, hms, Or.inl ⟨hp, rfl⟩⟩
    · refine own_st (T' := T4) (g' := (mkF m 44 #[.val (.ref a1), .val (.long q1), .second, .val (.long q2), .second, .val (.long ms), .second, .val (.long (ms / u)), .second] [])) (fun t9 k9 => XS.ifNo X4.here hx rfl (hb hby d3_41) rfl ((if0 _ _).trans (flt (fun q => hp ((lw_lt _ _).mp q) : ¬ ((lcmpW ((ms - (ms / u) * u) * (2 : Int64)) u) < (0 : Int32)))).1) k9) ?_
      refine own_st (T' := T4) (g' := (mkF m 46 #[.val (.ref a1), .val (.long q1), .second, .val (.long q2), .second, .val (.long ms), .second, .val (.long (ms / u)), .second] [(.long (ms / u))])) (fun t9 k9 => XS.lload X4.here hx rfl (hb hby d3_44) rfl k9) ?_
      refine own_st (T' := T4) (g' := (mkF m 47 #[.val (.ref a1), .val (.long q1), .second, .val (.long q2), .second, .val (.long ms), .second, .val (.long (ms / u)), .second] [(.long (1 : Int64)), (.long (ms / u))])) (fun t9 k9 => XS.lconst X4.here hx rfl (hb hby d3_46) k9) ?_
      refine own_st (T' := T4) (g' := (mkF m 48 #[.val (.ref a1), .val (.long q1), .second, .val (.long q2), .second, .val (.long ms), .second, .val (.long (ms / u)), .second] [(.long ((ms / u) + (1 : Int64)))])) (fun t9 k9 => XS.ladd X4.here hx rfl (hb hby d3_47) rfl k9) ?_
      refine own_st (T' := T4) (g' := (mkF m 53 #[.val (.ref a1), .val (.long q1), .second, .val (.long q2), .second, .val (.long ms), .second, .val (.long (ms / u)), .second] [(.long ((ms / u) + (1 : Int64)))])) (fun t9 k9 => XS.goto X4.here hx rfl (pc0 := 48) (pc' := 53) rfl (hb hby d3_48) (by decide) (by decide) k9) ?_
      refine own_ret (v := some (.long ((ms / u) + (1 : Int64)))) hF X4 (own_some hret) hlk (fun fs hr => X4.lreturnOut hx hret (hb hby d3_53) hr) ?_ (by decide) (by decide)
      try rw [e4]
      exact ⟨_, ms, rfl, N0, rfl, hms, Or.inr ⟨hp, rfl⟩⟩
  by_cases hs : se = (0 : Int32)
  · refine own_st (T' := T1) (g' := (mkF m 11 #[.val (.ref a1), .val (.long q1), .second, .val (.long q2), .second, .unset, .unset, .unset, .unset] [])) (fun t9 k9 => XS.ifYes X1.here hx rfl (pc0 := 4) (pc' := 11) rfl (hb hby d3_4) rfl ((if0 _ _).trans (teq hs).1) (by decide) (by decide) k9) ?_
    refine own_st (T' := T1) (g' := (mkF m 12 #[.val (.ref a1), .val (.long q1), .second, .val (.long q2), .second, .unset, .unset, .unset, .unset] [(.long q1)])) (fun t9 k9 => XS.lloadN X1.here hx rfl (hb hby d3_11) rfl k9) ?_
    refine own_st (T' := T1) (g' := (mkF m 13 #[.val (.ref a1), .val (.long q1), .second, .val (.long q2), .second, .unset, .unset, .unset, .unset] [(.long q2), (.long q1)])) (fun t9 k9 => XS.lloadN X1.here hx rfl (hb hby d3_12) rfl k9) ?_
    refine own_st (T' := T1) (g' := (mkF m 14 #[.val (.ref a1), .val (.long q1), .second, .val (.long q2), .second, .unset, .unset, .unset, .unset] [(.long (q1 - q2))])) (fun t9 k9 => XS.lsub X1.here hx rfl (hb hby d3_13) rfl k9) ?_
    exact j14 _ (Or.inl ⟨hs, rfl⟩)
  · refine own_st (T' := T1) (g' := (mkF m 7 #[.val (.ref a1), .val (.long q1), .second, .val (.long q2), .second, .unset, .unset, .unset, .unset] [])) (fun t9 k9 => XS.ifNo X1.here hx rfl (hb hby d3_4) rfl ((if0 _ _).trans (feq hs).1) k9) ?_
    refine own_st (T' := T1) (g' := (mkF m 8 #[.val (.ref a1), .val (.long q1), .second, .val (.long q2), .second, .unset, .unset, .unset, .unset] [(.long q1)])) (fun t9 k9 => XS.lloadN X1.here hx rfl (hb hby d3_7) rfl k9) ?_
    refine own_st (T' := T1) (g' := (mkF m 14 #[.val (.ref a1), .val (.long q1), .second, .val (.long q2), .second, .unset, .unset, .unset, .unset] [(.long q1)])) (fun t9 k9 => XS.goto X1.here hx rfl (pc0 := 8) (pc' := 14) rfl (hb hby d3_8) (by decide) (by decide) k9) ?_
    exact j14 _ (Or.inr ⟨hs, rfl⟩)
theorem d4_0 : decode method_3_code 0 = .ok (.lload_n 0, 1) := by decide +kernel
theorem d4_1 : decode method_3_code 1 = .ok (.lconst 0, 1) := by decide +kernel
theorem d4_2 : decode method_3_code 2 = .ok (.lcmp, 1) := by decide +kernel
theorem d4_3 : decode method_3_code 3 = .ok (.ifCond .lt 11, 3) := by decide +kernel
theorem d4_6 : decode method_3_code 6 = .ok (.lload_n 0, 1) := by decide +kernel
theorem d4_7 : decode method_3_code 7 = .ok (.ldc2_w 44, 3) := by decide +kernel
theorem d4_10 : decode method_3_code 10 = .ok (.lcmp, 1) := by decide +kernel
theorem d4_11 : decode method_3_code 11 = .ok (.ifCond .le 5, 3) := by decide +kernel
theorem d4_14 : decode method_3_code 14 = .ok (.iconst 0, 1) := by decide +kernel
theorem d4_15 : decode method_3_code 15 = .ok (.ireturn, 1) := by decide +kernel
theorem d4_16 : decode method_3_code 16 = .ok (.lload_n 2, 1) := by decide +kernel
theorem d4_17 : decode method_3_code 17 = .ok (.lload_n 0, 1) := by decide +kernel
theorem d4_18 : decode method_3_code 18 = .ok (.ldc2_w 46, 3) := by decide +kernel
theorem d4_21 : decode method_3_code 21 = .ok (.lmul, 1) := by decide +kernel
theorem d4_22 : decode method_3_code 22 = .ok (.lsub, 1) := by decide +kernel
theorem d4_23 : decode method_3_code 23 = .ok (.lstore 4, 2) := by decide +kernel
theorem d4_25 : decode method_3_code 25 = .ok (.lload 4, 2) := by decide +kernel
theorem d4_27 : decode method_3_code 27 = .ok (.ldc2_w 48, 3) := by decide +kernel
theorem d4_30 : decode method_3_code 30 = .ok (.lcmp, 1) := by decide +kernel
theorem d4_31 : decode method_3_code 31 = .ok (.ifCond .lt 16, 3) := by decide +kernel
theorem d4_34 : decode method_3_code 34 = .ok (.lload 4, 2) := by decide +kernel
theorem d4_36 : decode method_3_code 36 = .ok (.ldc2_w 50, 3) := by decide +kernel
theorem d4_39 : decode method_3_code 39 = .ok (.lcmp, 1) := by decide +kernel
theorem d4_40 : decode method_3_code 40 = .ok (.ifCond .ge 7, 3) := by decide +kernel
theorem d4_43 : decode method_3_code 43 = .ok (.iconst 1, 1) := by decide +kernel
theorem d4_44 : decode method_3_code 44 = .ok (.goto 4, 3) := by decide +kernel
theorem d4_47 : decode method_3_code 47 = .ok (.iconst 0, 1) := by decide +kernel
theorem d4_48 : decode method_3_code 48 = .ok (.ireturn, 1) := by decide +kernel
theorem pn_4 : plainFor (⟨"com/example/tuck/tuck/service/ExpiryFormAmountPinLaw", "nearestSecond", "(JJ)Z"⟩ : MethodName) = true := plainFor_of_name (by first | (simp [plainName, overriddenIn]; done) | decide +kernel)
set_option maxRecDepth 65536 in
set_option maxHeartbeats 40000000 in
theorem rm4 (l : Launch) (Z : State) (a0 : Array Value) (hw : ∀ d ∈ tables_1, d.before a0 Z = true) (r ms : Int64) (h0 : Heap) (n0 : Nat) (Z0 : n0 ≤ h0.size) (h1 : ¬ r < (0 : Int64)) (h2 : ¬ ((9223372036854776 : Int64) < r)) (h3 : ¬ ((ms - (r * (1000 : Int64))) < (-500 : Int64))) (h4 : (ms - (r * (1000 : Int64))) < (500 : Int64)) :
    own_Met l Z (⟨"com/example/tuck/tuck/service/ExpiryFormAmountPinLaw", "nearestSecond", "(JJ)Z"⟩ : MethodName) method_3_code 6 (some .boolean) ({ frames := 0, cells := 0, slots := 0, locals := 0 } : Room) #[(.long r), (.long ms)] h0 (fun v h L => v = some (.int (1 : Int32)) ∧ Fr n0 L ∧ h = h0) := by
  refine own_body pn_4 ?_
  intro p e s m below meth c T0 hZ hx hby hml hown hnm hret hlk X0 e0 F hF
  have N0 := Fr.nil n0
  have K0 := Keep.refl h0 []
  refine own_cast (g' := (mkF m 0 #[.val (.long r), .second, .val (.long ms), .second, .unset, .unset] [])) (by first | rfl | simp [entryFrame, mkF, argsToLocals, Value.category]) ?_
  refine own_st (T' := T0) (g' := (mkF m 1 #[.val (.long r), .second, .val (.long ms), .second, .unset, .unset] [(.long r)])) (fun t9 k9 => XS.lloadN X0.here hx rfl (hb hby d4_0) rfl k9) ?_
  refine own_st (T' := T0) (g' := (mkF m 2 #[.val (.long r), .second, .val (.long ms), .second, .unset, .unset] [(.long (0 : Int64)), (.long r)])) (fun t9 k9 => XS.lconst X0.here hx rfl (hb hby d4_1) k9) ?_
  refine own_st (T' := T0) (g' := (mkF m 3 #[.val (.long r), .second, .val (.long ms), .second, .unset, .unset] [(.int (lcmpW r (0 : Int64)))])) (fun t9 k9 => XS.lcmp X0.here hx rfl (hb hby d4_2) rfl k9) ?_
  refine own_st (T' := T0) (g' := (mkF m 6 #[.val (.long r), .second, .val (.long ms), .second, .unset, .unset] [])) (fun t9 k9 => XS.ifNo X0.here hx rfl (hb hby d4_3) rfl ((if0 _ _).trans (flt (fun q => h1 ((lw_lt _ _).mp q) : ¬ ((lcmpW r (0 : Int64)) < (0 : Int32)))).1) k9) ?_
  refine own_st (T' := T0) (g' := (mkF m 7 #[.val (.long r), .second, .val (.long ms), .second, .unset, .unset] [(.long r)])) (fun t9 k9 => XS.lloadN X0.here hx rfl (hb hby d4_6) rfl k9) ?_
  refine own_st (T' := T0) (g' := (mkF m 10 #[.val (.long r), .second, .val (.long ms), .second, .unset, .unset] [(.long (9223372036854776 : Int64)), (.long r)])) (fun t9 k9 => X0.ldc2Long hx hown (mvT hZ (hw _ (List.mem_of_getElem? (i := 25) rfl))) (g := (mkF m 7 #[.val (.long r), .second, .val (.long ms), .second, .unset, .unset] [(.long r)])) rfl (hb hby d4_7) t9 k9) ?_
  refine own_st (T' := T0) (g' := (mkF m 11 #[.val (.long r), .second, .val (.long ms), .second, .unset, .unset] [(.int (lcmpW r (9223372036854776 : Int64)))])) (fun t9 k9 => XS.lcmp X0.here hx rfl (hb hby d4_10) rfl k9) ?_
  refine own_st (T' := T0) (g' := (mkF m 16 #[.val (.long r), .second, .val (.long ms), .second, .unset, .unset] [])) (fun t9 k9 => XS.ifYes X0.here hx rfl (pc0 := 11) (pc' := 16) rfl (hb hby d4_11) rfl ((if0 _ _).trans (flt (fun q => h2 ((lw_gt _ _).mp q) : ¬ ((0 : Int32) < (lcmpW r (9223372036854776 : Int64))))).2.2.2) (by decide) (by decide) k9) ?_
  refine own_st (T' := T0) (g' := (mkF m 17 #[.val (.long r), .second, .val (.long ms), .second, .unset, .unset] [(.long ms)])) (fun t9 k9 => XS.lloadN X0.here hx rfl (hb hby d4_16) rfl k9) ?_
  refine own_st (T' := T0) (g' := (mkF m 18 #[.val (.long r), .second, .val (.long ms), .second, .unset, .unset] [(.long r), (.long ms)])) (fun t9 k9 => XS.lloadN X0.here hx rfl (hb hby d4_17) rfl k9) ?_
  refine own_st (T' := T0) (g' := (mkF m 21 #[.val (.long r), .second, .val (.long ms), .second, .unset, .unset] [(.long (1000 : Int64)), (.long r), (.long ms)])) (fun t9 k9 => X0.ldc2Long hx hown (mvT hZ (hw _ (List.mem_of_getElem? (i := 26) rfl))) (g := (mkF m 18 #[.val (.long r), .second, .val (.long ms), .second, .unset, .unset] [(.long r), (.long ms)])) rfl (hb hby d4_18) t9 k9) ?_
  refine own_st (T' := T0) (g' := (mkF m 22 #[.val (.long r), .second, .val (.long ms), .second, .unset, .unset] [(.long (r * (1000 : Int64))), (.long ms)])) (fun t9 k9 => XS.lmul X0.here hx rfl (hb hby d4_21) rfl k9) ?_
  refine own_st (T' := T0) (g' := (mkF m 23 #[.val (.long r), .second, .val (.long ms), .second, .unset, .unset] [(.long (ms - (r * (1000 : Int64))))])) (fun t9 k9 => XS.lsub X0.here hx rfl (hb hby d4_22) rfl k9) ?_
  refine own_st (T' := T0) (g' := (mkF m 25 #[.val (.long r), .second, .val (.long ms), .second, .val (.long (ms - (r * (1000 : Int64)))), .second] [])) (fun t9 k9 => XS.lstore X0.here hx rfl (hb hby d4_23) rfl (l' := #[.val (.long r), .second, .val (.long ms), .second, .val (.long (ms - (r * (1000 : Int64)))), .second]) rfl k9) ?_
  refine own_st (T' := T0) (g' := (mkF m 27 #[.val (.long r), .second, .val (.long ms), .second, .val (.long (ms - (r * (1000 : Int64)))), .second] [(.long (ms - (r * (1000 : Int64))))])) (fun t9 k9 => XS.lload X0.here hx rfl (hb hby d4_25) rfl k9) ?_
  refine own_st (T' := T0) (g' := (mkF m 30 #[.val (.long r), .second, .val (.long ms), .second, .val (.long (ms - (r * (1000 : Int64)))), .second] [(.long (-500 : Int64)), (.long (ms - (r * (1000 : Int64))))])) (fun t9 k9 => X0.ldc2Long hx hown (mvT hZ (hw _ (List.mem_of_getElem? (i := 27) rfl))) (g := (mkF m 27 #[.val (.long r), .second, .val (.long ms), .second, .val (.long (ms - (r * (1000 : Int64)))), .second] [(.long (ms - (r * (1000 : Int64))))])) rfl (hb hby d4_27) t9 k9) ?_
  refine own_st (T' := T0) (g' := (mkF m 31 #[.val (.long r), .second, .val (.long ms), .second, .val (.long (ms - (r * (1000 : Int64)))), .second] [(.int (lcmpW (ms - (r * (1000 : Int64))) (-500 : Int64)))])) (fun t9 k9 => XS.lcmp X0.here hx rfl (hb hby d4_30) rfl k9) ?_
  refine own_st (T' := T0) (g' := (mkF m 34 #[.val (.long r), .second, .val (.long ms), .second, .val (.long (ms - (r * (1000 : Int64)))), .second] [])) (fun t9 k9 => XS.ifNo X0.here hx rfl (hb hby d4_31) rfl ((if0 _ _).trans (flt (fun q => h3 ((lw_lt _ _).mp q) : ¬ ((lcmpW (ms - (r * (1000 : Int64))) (-500 : Int64)) < (0 : Int32)))).1) k9) ?_
  refine own_st (T' := T0) (g' := (mkF m 36 #[.val (.long r), .second, .val (.long ms), .second, .val (.long (ms - (r * (1000 : Int64)))), .second] [(.long (ms - (r * (1000 : Int64))))])) (fun t9 k9 => XS.lload X0.here hx rfl (hb hby d4_34) rfl k9) ?_
  refine own_st (T' := T0) (g' := (mkF m 39 #[.val (.long r), .second, .val (.long ms), .second, .val (.long (ms - (r * (1000 : Int64)))), .second] [(.long (500 : Int64)), (.long (ms - (r * (1000 : Int64))))])) (fun t9 k9 => X0.ldc2Long hx hown (mvT hZ (hw _ (List.mem_of_getElem? (i := 28) rfl))) (g := (mkF m 36 #[.val (.long r), .second, .val (.long ms), .second, .val (.long (ms - (r * (1000 : Int64)))), .second] [(.long (ms - (r * (1000 : Int64))))])) rfl (hb hby d4_36) t9 k9) ?_
  refine own_st (T' := T0) (g' := (mkF m 40 #[.val (.long r), .second, .val (.long ms), .second, .val (.long (ms - (r * (1000 : Int64)))), .second] [(.int (lcmpW (ms - (r * (1000 : Int64))) (500 : Int64)))])) (fun t9 k9 => XS.lcmp X0.here hx rfl (hb hby d4_39) rfl k9) ?_
  refine own_st (T' := T0) (g' := (mkF m 43 #[.val (.long r), .second, .val (.long ms), .second, .val (.long (ms - (r * (1000 : Int64)))), .second] [])) (fun t9 k9 => XS.ifNo X0.here hx rfl (hb hby d4_40) rfl ((if0 _ _).trans (tlt ((lw_lt _ _).mpr h4 : (lcmpW (ms - (r * (1000 : Int64))) (500 : Int64)) < (0 : Int32))).2.1) k9) ?_
  refine own_st (T' := T0) (g' := (mkF m 44 #[.val (.long r), .second, .val (.long ms), .second, .val (.long (ms - (r * (1000 : Int64)))), .second] [(.int (1 : Int32))])) (fun t9 k9 => XS.iconst X0.here hx rfl (hb hby d4_43) k9) ?_
  refine own_st (T' := T0) (g' := (mkF m 48 #[.val (.long r), .second, .val (.long ms), .second, .val (.long (ms - (r * (1000 : Int64)))), .second] [(.int (1 : Int32))])) (fun t9 k9 => XS.goto X0.here hx rfl (pc0 := 44) (pc' := 48) rfl (hb hby d4_44) (by decide) (by decide) k9) ?_
  refine own_ret (v := some (.int (1 : Int32))) hF X0 (own_some hret) hlk (fun fs hr => retN X0 hx (t := .boolean) hret (by simp) (hb hby d4_48) hr) ?_ (by decide) (by decide)
  try rw [e0]
  exact ⟨rfl, N0, rfl⟩
theorem pn_0 : plainFor (⟨"com/example/tuck/tuck/service/ExpiryFormAmountPinLaw", "law", "(JJI)Z"⟩ : MethodName) = true := plainFor_of_name (by first | (simp [plainName, overriddenIn]; done) | decide +kernel)
set_option maxRecDepth 65536 in
set_option maxHeartbeats 40000000 in
theorem rm0 (l : Launch) (Z : State) (a0 : Array Value) (hw : ∀ d ∈ tables_1, d.before a0 Z = true) (a b : Int64) (k : Int32) (c_EX c_PX c_EXAT c_PXAT : Addr) (h0 : Heap) (n0 : Nat) (Z0 : n0 ≤ h0.size) (S_EX : Sta Z h0 "com/example/tuck/tuck/service/ExpiryForm" "EX" "Lcom/example/tuck/tuck/service/ExpiryForm;" (.ref c_EX)) (E_EX : Exa Z h0 c_EX "com/example/tuck/tuck/service/ExpiryForm") (Fs_EX : Fld Z h0 c_EX "com/example/tuck/tuck/service/ExpiryForm" "sinceEpoch" "Z" (.int (0 : Int32))) (Fu_EX : Fld Z h0 c_EX "com/example/tuck/tuck/service/ExpiryForm" "unitMillis" "J" (.long (1000 : Int64))) (S_PX : Sta Z h0 "com/example/tuck/tuck/service/ExpiryForm" "PX" "Lcom/example/tuck/tuck/service/ExpiryForm;" (.ref c_PX)) (E_PX : Exa Z h0 c_PX "com/example/tuck/tuck/service/ExpiryForm") (Fs_PX : Fld Z h0 c_PX "com/example/tuck/tuck/service/ExpiryForm" "sinceEpoch" "Z" (.int (0 : Int32))) (Fu_PX : Fld Z h0 c_PX "com/example/tuck/tuck/service/ExpiryForm" "unitMillis" "J" (.long (1 : Int64))) (S_EXAT : Sta Z h0 "com/example/tuck/tuck/service/ExpiryForm" "EXAT" "Lcom/example/tuck/tuck/service/ExpiryForm;" (.ref c_EXAT)) (E_EXAT : Exa Z h0 c_EXAT "com/example/tuck/tuck/service/ExpiryForm") (Fs_EXAT : Fld Z h0 c_EXAT "com/example/tuck/tuck/service/ExpiryForm" "sinceEpoch" "Z" (.int (1 : Int32))) (Fu_EXAT : Fld Z h0 c_EXAT "com/example/tuck/tuck/service/ExpiryForm" "unitMillis" "J" (.long (1000 : Int64))) (S_PXAT : Sta Z h0 "com/example/tuck/tuck/service/ExpiryForm" "PXAT" "Lcom/example/tuck/tuck/service/ExpiryForm;" (.ref c_PXAT)) (E_PXAT : Exa Z h0 c_PXAT "com/example/tuck/tuck/service/ExpiryForm") (Fs_PXAT : Fld Z h0 c_PXAT "com/example/tuck/tuck/service/ExpiryForm" "sinceEpoch" "Z" (.int (1 : Int32))) (Fu_PXAT : Fld Z h0 c_PXAT "com/example/tuck/tuck/service/ExpiryForm" "unitMillis" "J" (.long (1 : Int64))) :
    own_Met l Z x code maxLocals ret room_1 #[(.long a), (.long b), (.int k)] h0 (fun v h L => v = some (.int (1 : Int32)) ∧ Fr n0 L) := by
  refine own_body pn_0 ?_
  intro p e s m below meth c T0 hZ hx hby hml hown hnm hret hlk X0 e0 F hF
  have N0 := Fr.nil n0
  have K0 := Keep.refl h0 []
  refine own_cast (g' := (mkF m 0 #[.val (.long a), .second, .val (.long b), .second, .val (.int k), .unset, .unset, .unset, .unset, .unset, .unset, .unset, .unset, .unset, .unset, .unset, .unset] [])) (by first | rfl | simp [entryFrame, mkF, argsToLocals, Value.category, maxLocals]) ?_
  have hx0 : 0 ≤ (a &&& (9223372036854775807 : Int64)).toInt := by rw [c_maskL a (9223372036854775807 : Int64) 63 (by decide) (by decide)]; omega
  have hy0 : 0 ≤ (b &&& (9223372036854775807 : Int64)).toInt := by rw [c_maskL b (9223372036854775807 : Int64) 63 (by decide) (by decide)]; omega
  refine own_st (T' := T0) (g' := (mkF m 1 #[.val (.long a), .second, .val (.long b), .second, .val (.int k), .unset, .unset, .unset, .unset, .unset, .unset, .unset, .unset, .unset, .unset, .unset, .unset] [(.long a)])) (fun t9 k9 => XS.lloadN X0.here hx rfl (hb hby at_0) rfl k9) ?_
  refine own_st (T' := T0) (g' := (mkF m 4 #[.val (.long a), .second, .val (.long b), .second, .val (.int k), .unset, .unset, .unset, .unset, .unset, .unset, .unset, .unset, .unset, .unset, .unset, .unset] [(.long (9223372036854775807 : Int64)), (.long a)])) (fun t9 k9 => X0.ldc2Long hx hown (mvT hZ (hw _ (List.mem_of_getElem? (i := 0) rfl))) (g := (mkF m 1 #[.val (.long a), .second, .val (.long b), .second, .val (.int k), .unset, .unset, .unset, .unset, .unset, .unset, .unset, .unset, .unset, .unset, .unset, .unset] [(.long a)])) rfl (hb hby at_1) t9 k9) ?_
  refine own_st (T' := T0) (g' := (mkF m 5 #[.val (.long a), .second, .val (.long b), .second, .val (.int k), .unset, .unset, .unset, .unset, .unset, .unset, .unset, .unset, .unset, .unset, .unset, .unset] [(.long (a &&& (9223372036854775807 : Int64)))])) (fun t9 k9 => XS.land X0.here hx rfl (hb hby at_4) rfl k9) ?_
  refine own_st (T' := T0) (g' := (mkF m 7 #[.val (.long a), .second, .val (.long b), .second, .val (.int k), .val (.long (a &&& (9223372036854775807 : Int64))), .second, .unset, .unset, .unset, .unset, .unset, .unset, .unset, .unset, .unset, .unset] [])) (fun t9 k9 => XS.lstore X0.here hx rfl (hb hby at_5) rfl (l' := #[.val (.long a), .second, .val (.long b), .second, .val (.int k), .val (.long (a &&& (9223372036854775807 : Int64))), .second, .unset, .unset, .unset, .unset, .unset, .unset, .unset, .unset, .unset, .unset]) rfl k9) ?_
  refine own_st (T' := T0) (g' := (mkF m 8 #[.val (.long a), .second, .val (.long b), .second, .val (.int k), .val (.long (a &&& (9223372036854775807 : Int64))), .second, .unset, .unset, .unset, .unset, .unset, .unset, .unset, .unset, .unset, .unset] [(.long b)])) (fun t9 k9 => XS.lloadN X0.here hx rfl (hb hby at_7) rfl k9) ?_
  refine own_st (T' := T0) (g' := (mkF m 11 #[.val (.long a), .second, .val (.long b), .second, .val (.int k), .val (.long (a &&& (9223372036854775807 : Int64))), .second, .unset, .unset, .unset, .unset, .unset, .unset, .unset, .unset, .unset, .unset] [(.long (9223372036854775807 : Int64)), (.long b)])) (fun t9 k9 => X0.ldc2Long hx hown (mvT hZ (hw _ (List.mem_of_getElem? (i := 0) rfl))) (g := (mkF m 8 #[.val (.long a), .second, .val (.long b), .second, .val (.int k), .val (.long (a &&& (9223372036854775807 : Int64))), .second, .unset, .unset, .unset, .unset, .unset, .unset, .unset, .unset, .unset, .unset] [(.long b)])) rfl (hb hby at_8) t9 k9) ?_
  refine own_st (T' := T0) (g' := (mkF m 12 #[.val (.long a), .second, .val (.long b), .second, .val (.int k), .val (.long (a &&& (9223372036854775807 : Int64))), .second, .unset, .unset, .unset, .unset, .unset, .unset, .unset, .unset, .unset, .unset] [(.long (b &&& (9223372036854775807 : Int64)))])) (fun t9 k9 => XS.land X0.here hx rfl (hb hby at_11) rfl k9) ?_
  refine own_st (T' := T0) (g' := (mkF m 14 #[.val (.long a), .second, .val (.long b), .second, .val (.int k), .val (.long (a &&& (9223372036854775807 : Int64))), .second, .val (.long (b &&& (9223372036854775807 : Int64))), .second, .unset, .unset, .unset, .unset, .unset, .unset, .unset, .unset] [])) (fun t9 k9 => XS.lstore X0.here hx rfl (hb hby at_12) rfl (l' := #[.val (.long a), .second, .val (.long b), .second, .val (.int k), .val (.long (a &&& (9223372036854775807 : Int64))), .second, .val (.long (b &&& (9223372036854775807 : Int64))), .second, .unset, .unset, .unset, .unset, .unset, .unset, .unset, .unset]) rfl k9) ?_
  refine own_st (T' := T0) (g' := (mkF m 16 #[.val (.long a), .second, .val (.long b), .second, .val (.int k), .val (.long (a &&& (9223372036854775807 : Int64))), .second, .val (.long (b &&& (9223372036854775807 : Int64))), .second, .unset, .unset, .unset, .unset, .unset, .unset, .unset, .unset] [(.long (a &&& (9223372036854775807 : Int64)))])) (fun t9 k9 => XS.lload X0.here hx rfl (hb hby at_14) rfl k9) ?_
  refine own_st (T' := T0) (g' := (mkF m 18 #[.val (.long a), .second, .val (.long b), .second, .val (.int k), .val (.long (a &&& (9223372036854775807 : Int64))), .second, .val (.long (b &&& (9223372036854775807 : Int64))), .second, .unset, .unset, .unset, .unset, .unset, .unset, .unset, .unset] [(.long (b &&& (9223372036854775807 : Int64))), (.long (a &&& (9223372036854775807 : Int64)))])) (fun t9 k9 => XS.lload X0.here hx rfl (hb hby at_16) rfl k9) ?_
  obtain ⟨_, _, ⟨T1, L1, k1, n1⟩, -, X1, ⟨Lc1, hQ1, l1, y1, z1⟩, st1⟩ := Jvm.LawKit.callS X0 hx (y := (⟨"java/lang/Math", "max", "(JJ)J"⟩ : MethodName)) hown (mvT hZ (hw _ (List.mem_of_getElem? (i := 1) rfl))) (mvT hZ (hw _ (List.mem_of_getElem? (i := 2) rfl))) (mvT hZ (hw _ (List.mem_of_getElem? (i := 3) rfl))) (mvT hZ (hw _ (List.mem_of_getElem? (i := 4) rfl))) (by decide) (own_back (W := 0) (rm1 l Z a0 hw (a &&& (9223372036854775807 : Int64)) (b &&& (9223372036854775807 : Int64)) h0 n0 Z0) hZ (hw _ (List.mem_of_getElem? (i := 4) rfl)) (hw _ (List.mem_of_getElem? (i := 3) rfl)) (by decide) (by decide)) (g := (mkF m 18 #[.val (.long a), .second, .val (.long b), .second, .val (.int k), .val (.long (a &&& (9223372036854775807 : Int64))), .second, .val (.long (b &&& (9223372036854775807 : Int64))), .second, .unset, .unset, .unset, .unset, .unset, .unset, .unset, .unset] [(.long (b &&& (9223372036854775807 : Int64))), (.long (a &&& (9223372036854775807 : Int64)))])) rfl (by rw [hml]; rfl) (argsL := [(.long (a &&& (9223372036854775807 : Int64))), (.long (b &&& (9223372036854775807 : Int64)))]) (rest := []) (lenOf pd_0 rfl) rfl (by show 2 * 0 + _ ≤ _; exact Nat.le_of_eq rfl) (hb hby at_18) (fun _ _ => ⟨rfl, e0, (Nat.le_of_ble_eq_true rfl), (Nat.le_of_ble_eq_true rfl)⟩)
  dsimp only [Pt.U, Pt.locs, Pt.cells, Pt.slots] at X1 l1 y1 z1 st1 hQ1
  subst l1 y1 z1
  obtain ⟨r1, rfl, Nq1, he1, hr1⟩ := hQ1
  have N1 := Fr.app N0 Nq1
  have e1 : T1.heap = h0 := he1
  refine own_st (T' := T1) (g' := (mkF m 21 #[.val (.long a), .second, .val (.long b), .second, .val (.int k), .val (.long (a &&& (9223372036854775807 : Int64))), .second, .val (.long (b &&& (9223372036854775807 : Int64))), .second, .unset, .unset, .unset, .unset, .unset, .unset, .unset, .unset] [(.long r1)])) (fun t9 k9 => st1 t9 k9) ?_
  refine own_st (T' := T1) (g' := (mkF m 23 #[.val (.long a), .second, .val (.long b), .second, .val (.int k), .val (.long (a &&& (9223372036854775807 : Int64))), .second, .val (.long (b &&& (9223372036854775807 : Int64))), .second, .val (.long r1), .second, .unset, .unset, .unset, .unset, .unset, .unset] [])) (fun t9 k9 => XS.lstore X1.here hx rfl (hb hby at_21) rfl (l' := #[.val (.long a), .second, .val (.long b), .second, .val (.int k), .val (.long (a &&& (9223372036854775807 : Int64))), .second, .val (.long (b &&& (9223372036854775807 : Int64))), .second, .val (.long r1), .second, .unset, .unset, .unset, .unset, .unset, .unset]) rfl k9) ?_
  refine own_st (T' := T1) (g' := (mkF m 25 #[.val (.long a), .second, .val (.long b), .second, .val (.int k), .val (.long (a &&& (9223372036854775807 : Int64))), .second, .val (.long (b &&& (9223372036854775807 : Int64))), .second, .val (.long r1), .second, .unset, .unset, .unset, .unset, .unset, .unset] [(.long (a &&& (9223372036854775807 : Int64)))])) (fun t9 k9 => XS.lload X1.here hx rfl (hb hby at_23) rfl k9) ?_
  refine own_st (T' := T1) (g' := (mkF m 27 #[.val (.long a), .second, .val (.long b), .second, .val (.int k), .val (.long (a &&& (9223372036854775807 : Int64))), .second, .val (.long (b &&& (9223372036854775807 : Int64))), .second, .val (.long r1), .second, .unset, .unset, .unset, .unset, .unset, .unset] [(.long (b &&& (9223372036854775807 : Int64))), (.long (a &&& (9223372036854775807 : Int64)))])) (fun t9 k9 => XS.lload X1.here hx rfl (hb hby at_25) rfl k9) ?_
  obtain ⟨_, _, ⟨T2, L2, k2, n2⟩, -, X2, ⟨Lc2, hQ2, l2, y2, z2⟩, st2⟩ := Jvm.LawKit.callS X1 hx (y := (⟨"java/lang/Math", "min", "(JJ)J"⟩ : MethodName)) hown (mvT hZ (hw _ (List.mem_of_getElem? (i := 5) rfl))) (mvT hZ (hw _ (List.mem_of_getElem? (i := 6) rfl))) (mvT hZ (hw _ (List.mem_of_getElem? (i := 3) rfl))) (mvT hZ (hw _ (List.mem_of_getElem? (i := 7) rfl))) (by decide) (own_back (W := 0) (rm2 l Z a0 hw (a &&& (9223372036854775807 : Int64)) (b &&& (9223372036854775807 : Int64)) h0 n0 Z0) hZ (hw _ (List.mem_of_getElem? (i := 7) rfl)) (hw _ (List.mem_of_getElem? (i := 3) rfl)) (by decide) (by decide)) (g := (mkF m 27 #[.val (.long a), .second, .val (.long b), .second, .val (.int k), .val (.long (a &&& (9223372036854775807 : Int64))), .second, .val (.long (b &&& (9223372036854775807 : Int64))), .second, .val (.long r1), .second, .unset, .unset, .unset, .unset, .unset, .unset] [(.long (b &&& (9223372036854775807 : Int64))), (.long (a &&& (9223372036854775807 : Int64)))])) rfl (by rw [hml]; rfl) (argsL := [(.long (a &&& (9223372036854775807 : Int64))), (.long (b &&& (9223372036854775807 : Int64)))]) (rest := []) (lenOf pd_0 rfl) rfl (by show 2 * 0 + _ ≤ _; exact Nat.le_of_eq rfl) (hb hby at_27) (fun _ _ => ⟨rfl, e1, (Nat.le_of_ble_eq_true rfl), (Nat.le_of_ble_eq_true rfl)⟩)
  dsimp only [Pt.U, Pt.locs, Pt.cells, Pt.slots] at X2 l2 y2 z2 st2 hQ2
  subst l2 y2 z2
  obtain ⟨r2, rfl, Nq2, he2, hr2⟩ := hQ2
  have N2 := Fr.app N1 Nq2
  have e2 : T2.heap = h0 := he2
  refine own_st (T' := T2) (g' := (mkF m 30 #[.val (.long a), .second, .val (.long b), .second, .val (.int k), .val (.long (a &&& (9223372036854775807 : Int64))), .second, .val (.long (b &&& (9223372036854775807 : Int64))), .second, .val (.long r1), .second, .unset, .unset, .unset, .unset, .unset, .unset] [(.long r2)])) (fun t9 k9 => st2 t9 k9) ?_
  have hd : 0 ≤ r1.toInt ∧ 0 ≤ r2.toInt ∧ r2.toInt ≤ r1.toInt := by
    rcases hr1 with ⟨p1, rfl⟩ | ⟨p1, rfl⟩ <;> rcases hr2 with ⟨p2, rfl⟩ | ⟨p2, rfl⟩ <;> (first | have p1' := own_lt' p1 | have p1' := own_nlt' p1) <;> (first | have p2' := own_lt' p2 | have p2' := own_nlt' p2) <;> omega
  have hdn : 0 ≤ (r1 - r2).toInt := by
    have := c_lsub r1 r2; have := rng64 (r1 - r2); have := rng64 r1; have := rng64 r2; omega
  refine own_st (T' := T2) (g' := (mkF m 32 #[.val (.long a), .second, .val (.long b), .second, .val (.int k), .val (.long (a &&& (9223372036854775807 : Int64))), .second, .val (.long (b &&& (9223372036854775807 : Int64))), .second, .val (.long r1), .second, .val (.long r2), .second, .unset, .unset, .unset, .unset] [])) (fun t9 k9 => XS.lstore X2.here hx rfl (hb hby at_30) rfl (l' := #[.val (.long a), .second, .val (.long b), .second, .val (.int k), .val (.long (a &&& (9223372036854775807 : Int64))), .second, .val (.long (b &&& (9223372036854775807 : Int64))), .second, .val (.long r1), .second, .val (.long r2), .second, .unset, .unset, .unset, .unset]) rfl k9) ?_
  refine own_st (T' := T2) (g' := (mkF m 34 #[.val (.long a), .second, .val (.long b), .second, .val (.int k), .val (.long (a &&& (9223372036854775807 : Int64))), .second, .val (.long (b &&& (9223372036854775807 : Int64))), .second, .val (.long r1), .second, .val (.long r2), .second, .unset, .unset, .unset, .unset] [(.int k)])) (fun t9 k9 => XS.iload X2.here hx rfl (hb hby at_32) rfl k9) ?_
  refine own_st (T' := T2) (g' := (mkF m 35 #[.val (.long a), .second, .val (.long b), .second, .val (.int k), .val (.long (a &&& (9223372036854775807 : Int64))), .second, .val (.long (b &&& (9223372036854775807 : Int64))), .second, .val (.long r1), .second, .val (.long r2), .second, .unset, .unset, .unset, .unset] [(.int (3 : Int32)), (.int k)])) (fun t9 k9 => XS.iconst X2.here hx rfl (hb hby at_34) k9) ?_
  refine own_st (T' := T2) (g' := (mkF m 36 #[.val (.long a), .second, .val (.long b), .second, .val (.int k), .val (.long (a &&& (9223372036854775807 : Int64))), .second, .val (.long (b &&& (9223372036854775807 : Int64))), .second, .val (.long r1), .second, .val (.long r2), .second, .unset, .unset, .unset, .unset] [(.int (k &&& (3 : Int32)))])) (fun t9 k9 => XS.iand X2.here hx rfl (hb hby at_35) rfl k9) ?_
  refine own_st (T' := T2) (g' := (mkF m 38 #[.val (.long a), .second, .val (.long b), .second, .val (.int k), .val (.long (a &&& (9223372036854775807 : Int64))), .second, .val (.long (b &&& (9223372036854775807 : Int64))), .second, .val (.long r1), .second, .val (.long r2), .second, .val (.int (k &&& (3 : Int32))), .unset, .unset, .unset] [])) (fun t9 k9 => XS.istore X2.here hx rfl (hb hby at_36) rfl (l' := #[.val (.long a), .second, .val (.long b), .second, .val (.int k), .val (.long (a &&& (9223372036854775807 : Int64))), .second, .val (.long (b &&& (9223372036854775807 : Int64))), .second, .val (.long r1), .second, .val (.long r2), .second, .val (.int (k &&& (3 : Int32))), .unset, .unset, .unset]) rfl k9) ?_
  refine own_st (T' := T2) (g' := (mkF m 40 #[.val (.long a), .second, .val (.long b), .second, .val (.int k), .val (.long (a &&& (9223372036854775807 : Int64))), .second, .val (.long (b &&& (9223372036854775807 : Int64))), .second, .val (.long r1), .second, .val (.long r2), .second, .val (.int (k &&& (3 : Int32))), .unset, .unset, .unset] [(.int (k &&& (3 : Int32)))])) (fun t9 k9 => XS.iload X2.here hx rfl (hb hby at_38) rfl k9) ?_
  by_cases hk0 : (k &&& (3 : Int32)) = (0 : Int32)
  · refine own_st (T' := T2) (g' := (mkF m 43 #[.val (.long a), .second, .val (.long b), .second, .val (.int k), .val (.long (a &&& (9223372036854775807 : Int64))), .second, .val (.long (b &&& (9223372036854775807 : Int64))), .second, .val (.long r1), .second, .val (.long r2), .second, .val (.int (k &&& (3 : Int32))), .unset, .unset, .unset] [])) (fun t9 k9 => XS.ifNo X2.here hx rfl (hb hby at_40) rfl ((if0 _ _).trans (teq hk0).2) k9) ?_
    obtain ⟨T3, X3, e3, st3⟩ := getS2 X2 hx hZ hown (host := "") (Or.inl (hw _ (List.mem_of_getElem? (i := 8) rfl))) Via.refl e2 S_EX (g := (mkF m 43 #[.val (.long a), .second, .val (.long b), .second, .val (.int k), .val (.long (a &&& (9223372036854775807 : Int64))), .second, .val (.long (b &&& (9223372036854775807 : Int64))), .second, .val (.long r1), .second, .val (.long r2), .second, .val (.int (k &&& (3 : Int32))), .unset, .unset, .unset] [])) rfl (hb hby at_43)
    refine own_st (T' := T3) (g' := (mkF m 46 #[.val (.long a), .second, .val (.long b), .second, .val (.int k), .val (.long (a &&& (9223372036854775807 : Int64))), .second, .val (.long (b &&& (9223372036854775807 : Int64))), .second, .val (.long r1), .second, .val (.long r2), .second, .val (.int (k &&& (3 : Int32))), .unset, .unset, .unset] [(.ref c_EX)])) (fun t9 k9 => st3 t9 k9) ?_
    refine own_st (T' := T3) (g' := (mkF m 76 #[.val (.long a), .second, .val (.long b), .second, .val (.int k), .val (.long (a &&& (9223372036854775807 : Int64))), .second, .val (.long (b &&& (9223372036854775807 : Int64))), .second, .val (.long r1), .second, .val (.long r2), .second, .val (.int (k &&& (3 : Int32))), .unset, .unset, .unset] [(.ref c_EX)])) (fun t9 k9 => XS.goto X3.here hx rfl (pc0 := 46) (pc' := 76) rfl (hb hby at_46) (by decide) (by decide) k9) ?_
    refine own_st (T' := T3) (g' := (mkF m 78 #[.val (.long a), .second, .val (.long b), .second, .val (.int k), .val (.long (a &&& (9223372036854775807 : Int64))), .second, .val (.long (b &&& (9223372036854775807 : Int64))), .second, .val (.long r1), .second, .val (.long r2), .second, .val (.int (k &&& (3 : Int32))), .val (.ref c_EX), .unset, .unset] [])) (fun t9 k9 => XS.astore X3.here hx rfl (hb hby at_76) rfl rfl (l' := #[.val (.long a), .second, .val (.long b), .second, .val (.int k), .val (.long (a &&& (9223372036854775807 : Int64))), .second, .val (.long (b &&& (9223372036854775807 : Int64))), .second, .val (.long r1), .second, .val (.long r2), .second, .val (.int (k &&& (3 : Int32))), .val (.ref c_EX), .unset, .unset]) rfl k9) ?_
    refine own_st (T' := T3) (g' := (mkF m 80 #[.val (.long a), .second, .val (.long b), .second, .val (.int k), .val (.long (a &&& (9223372036854775807 : Int64))), .second, .val (.long (b &&& (9223372036854775807 : Int64))), .second, .val (.long r1), .second, .val (.long r2), .second, .val (.int (k &&& (3 : Int32))), .val (.ref c_EX), .unset, .unset] [(.ref c_EX)])) (fun t9 k9 => XS.aload X3.here hx rfl (hb hby at_78) rfl rfl k9) ?_
    refine own_st (T' := T3) (g' := (mkF m 82 #[.val (.long a), .second, .val (.long b), .second, .val (.int k), .val (.long (a &&& (9223372036854775807 : Int64))), .second, .val (.long (b &&& (9223372036854775807 : Int64))), .second, .val (.long r1), .second, .val (.long r2), .second, .val (.int (k &&& (3 : Int32))), .val (.ref c_EX), .unset, .unset] [(.long r1), (.ref c_EX)])) (fun t9 k9 => XS.lload X3.here hx rfl (hb hby at_80) rfl k9) ?_
    refine own_st (T' := T3) (g' := (mkF m 84 #[.val (.long a), .second, .val (.long b), .second, .val (.int k), .val (.long (a &&& (9223372036854775807 : Int64))), .second, .val (.long (b &&& (9223372036854775807 : Int64))), .second, .val (.long r1), .second, .val (.long r2), .second, .val (.int (k &&& (3 : Int32))), .val (.ref c_EX), .unset, .unset] [(.long r2), (.long r1), (.ref c_EX)])) (fun t9 k9 => XS.lload X3.here hx rfl (hb hby at_82) rfl k9) ?_
    obtain ⟨cq4, kq4, qa4, qb4, qc4⟩ := isOf hZ e3 E_EX
    obtain ⟨_, _, ⟨T4, L4, k4, n4⟩, -, X4, ⟨Lc4, hQ4, l4, y4, z4⟩, st4⟩ := X3.virtualBack hx (y := (⟨"com/example/tuck/tuck/service/ExpiryForm", "amount", "(JJ)J"⟩ : MethodName)) (z := (⟨"com/example/tuck/tuck/service/ExpiryForm", "amount", "(JJ)J"⟩ : MethodName)) hown (mvT hZ (hw _ (List.mem_of_getElem? (i := 11) rfl))) (mvT hZ (hw _ (List.mem_of_getElem? (i := 12) rfl))) (notFace_of_selects (args := #[]) (mvT hZ (hw _ (List.mem_of_getElem? (i := 14) rfl)))) (mvT hZ (hw _ (List.mem_of_getElem? (i := 14) rfl))) (mvT hZ (hw _ (List.mem_of_getElem? (i := 13) rfl))) (by decide) (own_back (W := 0) (rm3 l Z a0 hw c_EX r1 r2 (1000 : Int64) (0 : Int32) h0 n0 Z0 Fs_EX Fu_EX (by decide)) hZ (hw _ (List.mem_of_getElem? (i := 15) rfl)) (hw _ (List.mem_of_getElem? (i := 9) rfl)) (by decide) (by decide)) qa4 qc4 (g := (mkF m 84 #[.val (.long a), .second, .val (.long b), .second, .val (.int k), .val (.long (a &&& (9223372036854775807 : Int64))), .second, .val (.long (b &&& (9223372036854775807 : Int64))), .second, .val (.long r1), .second, .val (.long r2), .second, .val (.int (k &&& (3 : Int32))), .val (.ref c_EX), .unset, .unset] [(.long r2), (.long r1), (.ref c_EX)])) rfl (by rw [hml]; rfl) (Steps.refl _) (argsL := [(.long r1), (.long r2)]) (rest := []) (lenOf pd_0 rfl) rfl (by show 2 * 0 + _ ≤ _; exact Nat.le_of_eq rfl) (hb hby at_84) (fun _ _ => ⟨rfl, e3, (Nat.le_of_ble_eq_true rfl), (Nat.le_of_ble_eq_true rfl)⟩)
    dsimp only [Pt.U, Pt.locs, Pt.cells, Pt.slots] at X4 l4 y4 z4 st4 hQ4
    subst l4 y4 z4
    obtain ⟨r4, ms4, rfl, Nq4, he4, hm4, ha4⟩ := hQ4
    have N4 := Fr.app N2 Nq4
    have e4 : T4.heap = h0 := he4
    refine own_st (T' := T4) (g' := (mkF m 87 #[.val (.long a), .second, .val (.long b), .second, .val (.int k), .val (.long (a &&& (9223372036854775807 : Int64))), .second, .val (.long (b &&& (9223372036854775807 : Int64))), .second, .val (.long r1), .second, .val (.long r2), .second, .val (.int (k &&& (3 : Int32))), .val (.ref c_EX), .unset, .unset] [(.long r4)])) (fun t9 k9 => st4.trans k9) ?_
    have hms : ms4 = (r1 - r2) := by
      rcases hm4 with ⟨q1, q2⟩ | ⟨q1, q2⟩
      · exact q2
      · exact absurd rfl q1
    subst ms4
    refine own_st (T' := T4) (g' := (mkF m 89 #[.val (.long a), .second, .val (.long b), .second, .val (.int k), .val (.long (a &&& (9223372036854775807 : Int64))), .second, .val (.long (b &&& (9223372036854775807 : Int64))), .second, .val (.long r1), .second, .val (.long r2), .second, .val (.int (k &&& (3 : Int32))), .val (.ref c_EX), .val (.long r4), .second] [])) (fun t9 k9 => XS.lstore X4.here hx rfl (hb hby at_87) rfl (l' := #[.val (.long a), .second, .val (.long b), .second, .val (.int k), .val (.long (a &&& (9223372036854775807 : Int64))), .second, .val (.long (b &&& (9223372036854775807 : Int64))), .second, .val (.long r1), .second, .val (.long r2), .second, .val (.int (k &&& (3 : Int32))), .val (.ref c_EX), .val (.long r4), .second]) rfl k9) ?_
    refine own_st (T' := T4) (g' := (mkF m 91 #[.val (.long a), .second, .val (.long b), .second, .val (.int k), .val (.long (a &&& (9223372036854775807 : Int64))), .second, .val (.long (b &&& (9223372036854775807 : Int64))), .second, .val (.long r1), .second, .val (.long r2), .second, .val (.int (k &&& (3 : Int32))), .val (.ref c_EX), .val (.long r4), .second] [(.int (k &&& (3 : Int32)))])) (fun t9 k9 => XS.iload X4.here hx rfl (hb hby at_89) rfl k9) ?_
    refine own_st (T' := T4) (g' := (mkF m 94 #[.val (.long a), .second, .val (.long b), .second, .val (.int k), .val (.long (a &&& (9223372036854775807 : Int64))), .second, .val (.long (b &&& (9223372036854775807 : Int64))), .second, .val (.long r1), .second, .val (.long r2), .second, .val (.int (k &&& (3 : Int32))), .val (.ref c_EX), .val (.long r4), .second] [])) (fun t9 k9 => XS.ifNo X4.here hx rfl (hb hby at_91) rfl ((if0 _ _).trans (teq hk0).2) k9) ?_
    obtain ⟨z1, z2, z3, z4⟩ := own_near (r1 - r2) r4 hdn ha4
    refine own_st (T' := T4) (g' := (mkF m 96 #[.val (.long a), .second, .val (.long b), .second, .val (.int k), .val (.long (a &&& (9223372036854775807 : Int64))), .second, .val (.long (b &&& (9223372036854775807 : Int64))), .second, .val (.long r1), .second, .val (.long r2), .second, .val (.int (k &&& (3 : Int32))), .val (.ref c_EX), .val (.long r4), .second] [(.long r4)])) (fun t9 k9 => XS.lload X4.here hx rfl (hb hby at_94) rfl k9) ?_
    refine own_st (T' := T4) (g' := (mkF m 98 #[.val (.long a), .second, .val (.long b), .second, .val (.int k), .val (.long (a &&& (9223372036854775807 : Int64))), .second, .val (.long (b &&& (9223372036854775807 : Int64))), .second, .val (.long r1), .second, .val (.long r2), .second, .val (.int (k &&& (3 : Int32))), .val (.ref c_EX), .val (.long r4), .second] [(.long r1), (.long r4)])) (fun t9 k9 => XS.lload X4.here hx rfl (hb hby at_96) rfl k9) ?_
    refine own_st (T' := T4) (g' := (mkF m 100 #[.val (.long a), .second, .val (.long b), .second, .val (.int k), .val (.long (a &&& (9223372036854775807 : Int64))), .second, .val (.long (b &&& (9223372036854775807 : Int64))), .second, .val (.long r1), .second, .val (.long r2), .second, .val (.int (k &&& (3 : Int32))), .val (.ref c_EX), .val (.long r4), .second] [(.long r2), (.long r1), (.long r4)])) (fun t9 k9 => XS.lload X4.here hx rfl (hb hby at_98) rfl k9) ?_
    refine own_st (T' := T4) (g' := (mkF m 101 #[.val (.long a), .second, .val (.long b), .second, .val (.int k), .val (.long (a &&& (9223372036854775807 : Int64))), .second, .val (.long (b &&& (9223372036854775807 : Int64))), .second, .val (.long r1), .second, .val (.long r2), .second, .val (.int (k &&& (3 : Int32))), .val (.ref c_EX), .val (.long r4), .second] [(.long (r1 - r2)), (.long r4)])) (fun t9 k9 => XS.lsub X4.here hx rfl (hb hby at_100) rfl k9) ?_
    obtain ⟨_, _, ⟨T5, L5, k5, n5⟩, -, X5, ⟨Lc5, hQ5, l5, y5, z5⟩, st5⟩ := Jvm.LawKit.callS X4 hx (y := (⟨"com/example/tuck/tuck/service/ExpiryFormAmountPinLaw", "nearestSecond", "(JJ)Z"⟩ : MethodName)) hown (mvT hZ (hw _ (List.mem_of_getElem? (i := 21) rfl))) (mvT hZ (hw _ (List.mem_of_getElem? (i := 22) rfl))) (mvT hZ (hw _ (List.mem_of_getElem? (i := 23) rfl))) (mvT hZ (hw _ (List.mem_of_getElem? (i := 24) rfl))) (by decide) (own_back (W := 0) (rm4 l Z a0 hw r4 (r1 - r2) h0 n0 Z0 z1 z2 z3 z4) hZ (hw _ (List.mem_of_getElem? (i := 24) rfl)) (hw _ (List.mem_of_getElem? (i := 23) rfl)) (by decide) (by decide)) (g := (mkF m 101 #[.val (.long a), .second, .val (.long b), .second, .val (.int k), .val (.long (a &&& (9223372036854775807 : Int64))), .second, .val (.long (b &&& (9223372036854775807 : Int64))), .second, .val (.long r1), .second, .val (.long r2), .second, .val (.int (k &&& (3 : Int32))), .val (.ref c_EX), .val (.long r4), .second] [(.long (r1 - r2)), (.long r4)])) rfl (by rw [hml]; rfl) (argsL := [(.long r4), (.long (r1 - r2))]) (rest := []) (lenOf pd_1 rfl) rfl (by show 2 * 0 + _ ≤ _; exact Nat.le_of_eq rfl) (hb hby at_101) (fun _ _ => ⟨rfl, e4, (Nat.le_of_ble_eq_true rfl), (Nat.le_of_ble_eq_true rfl)⟩)
    dsimp only [Pt.U, Pt.locs, Pt.cells, Pt.slots] at X5 l5 y5 z5 st5 hQ5
    subst l5 y5 z5
    obtain ⟨rfl, Nq5, he5⟩ := hQ5
    have N5 := Fr.app N4 Nq5
    have e5 : T5.heap = h0 := he5
    refine own_st (T' := T5) (g' := (mkF m 104 #[.val (.long a), .second, .val (.long b), .second, .val (.int k), .val (.long (a &&& (9223372036854775807 : Int64))), .second, .val (.long (b &&& (9223372036854775807 : Int64))), .second, .val (.long r1), .second, .val (.long r2), .second, .val (.int (k &&& (3 : Int32))), .val (.ref c_EX), .val (.long r4), .second] [(.int (1 : Int32))])) (fun t9 k9 => st5 t9 k9) ?_
    refine own_ret (v := some (.int (1 : Int32))) hF X5 (own_some hret) hlk (fun fs hr => retN X5 hx (t := .boolean) hret (by simp) (hb hby at_104) hr) ?_ (by decide) (by decide)
    try rw [e5]
    exact ⟨rfl, N5⟩
  · refine own_st (T' := T2) (g' := (mkF m 49 #[.val (.long a), .second, .val (.long b), .second, .val (.int k), .val (.long (a &&& (9223372036854775807 : Int64))), .second, .val (.long (b &&& (9223372036854775807 : Int64))), .second, .val (.long r1), .second, .val (.long r2), .second, .val (.int (k &&& (3 : Int32))), .unset, .unset, .unset] [])) (fun t9 k9 => XS.ifYes X2.here hx rfl (pc0 := 40) (pc' := 49) rfl (hb hby at_40) rfl ((if0 _ _).trans (feq hk0).2) (by decide) (by decide) k9) ?_
    refine own_st (T' := T2) (g' := (mkF m 51 #[.val (.long a), .second, .val (.long b), .second, .val (.int k), .val (.long (a &&& (9223372036854775807 : Int64))), .second, .val (.long (b &&& (9223372036854775807 : Int64))), .second, .val (.long r1), .second, .val (.long r2), .second, .val (.int (k &&& (3 : Int32))), .unset, .unset, .unset] [(.int (k &&& (3 : Int32)))])) (fun t9 k9 => XS.iload X2.here hx rfl (hb hby at_49) rfl k9) ?_
    refine own_st (T' := T2) (g' := (mkF m 52 #[.val (.long a), .second, .val (.long b), .second, .val (.int k), .val (.long (a &&& (9223372036854775807 : Int64))), .second, .val (.long (b &&& (9223372036854775807 : Int64))), .second, .val (.long r1), .second, .val (.long r2), .second, .val (.int (k &&& (3 : Int32))), .unset, .unset, .unset] [(.int (1 : Int32)), (.int (k &&& (3 : Int32)))])) (fun t9 k9 => XS.iconst X2.here hx rfl (hb hby at_51) k9) ?_
    by_cases hk1 : (k &&& (3 : Int32)) = (1 : Int32)
    · refine own_st (T' := T2) (g' := (mkF m 55 #[.val (.long a), .second, .val (.long b), .second, .val (.int k), .val (.long (a &&& (9223372036854775807 : Int64))), .second, .val (.long (b &&& (9223372036854775807 : Int64))), .second, .val (.long r1), .second, .val (.long r2), .second, .val (.int (k &&& (3 : Int32))), .unset, .unset, .unset] [])) (fun t9 k9 => XS.icmpNo X2.here hx rfl (hb hby at_52) rfl (teq hk1).2 k9) ?_
      obtain ⟨T6, X6, e6, st6⟩ := getS2 X2 hx hZ hown (host := "") (Or.inl (hw _ (List.mem_of_getElem? (i := 31) rfl))) Via.refl e2 S_PX (g := (mkF m 55 #[.val (.long a), .second, .val (.long b), .second, .val (.int k), .val (.long (a &&& (9223372036854775807 : Int64))), .second, .val (.long (b &&& (9223372036854775807 : Int64))), .second, .val (.long r1), .second, .val (.long r2), .second, .val (.int (k &&& (3 : Int32))), .unset, .unset, .unset] [])) rfl (hb hby at_55)
      refine own_st (T' := T6) (g' := (mkF m 58 #[.val (.long a), .second, .val (.long b), .second, .val (.int k), .val (.long (a &&& (9223372036854775807 : Int64))), .second, .val (.long (b &&& (9223372036854775807 : Int64))), .second, .val (.long r1), .second, .val (.long r2), .second, .val (.int (k &&& (3 : Int32))), .unset, .unset, .unset] [(.ref c_PX)])) (fun t9 k9 => st6 t9 k9) ?_
      refine own_st (T' := T6) (g' := (mkF m 76 #[.val (.long a), .second, .val (.long b), .second, .val (.int k), .val (.long (a &&& (9223372036854775807 : Int64))), .second, .val (.long (b &&& (9223372036854775807 : Int64))), .second, .val (.long r1), .second, .val (.long r2), .second, .val (.int (k &&& (3 : Int32))), .unset, .unset, .unset] [(.ref c_PX)])) (fun t9 k9 => XS.goto X6.here hx rfl (pc0 := 58) (pc' := 76) rfl (hb hby at_58) (by decide) (by decide) k9) ?_
      refine own_st (T' := T6) (g' := (mkF m 78 #[.val (.long a), .second, .val (.long b), .second, .val (.int k), .val (.long (a &&& (9223372036854775807 : Int64))), .second, .val (.long (b &&& (9223372036854775807 : Int64))), .second, .val (.long r1), .second, .val (.long r2), .second, .val (.int (k &&& (3 : Int32))), .val (.ref c_PX), .unset, .unset] [])) (fun t9 k9 => XS.astore X6.here hx rfl (hb hby at_76) rfl rfl (l' := #[.val (.long a), .second, .val (.long b), .second, .val (.int k), .val (.long (a &&& (9223372036854775807 : Int64))), .second, .val (.long (b &&& (9223372036854775807 : Int64))), .second, .val (.long r1), .second, .val (.long r2), .second, .val (.int (k &&& (3 : Int32))), .val (.ref c_PX), .unset, .unset]) rfl k9) ?_
      refine own_st (T' := T6) (g' := (mkF m 80 #[.val (.long a), .second, .val (.long b), .second, .val (.int k), .val (.long (a &&& (9223372036854775807 : Int64))), .second, .val (.long (b &&& (9223372036854775807 : Int64))), .second, .val (.long r1), .second, .val (.long r2), .second, .val (.int (k &&& (3 : Int32))), .val (.ref c_PX), .unset, .unset] [(.ref c_PX)])) (fun t9 k9 => XS.aload X6.here hx rfl (hb hby at_78) rfl rfl k9) ?_
      refine own_st (T' := T6) (g' := (mkF m 82 #[.val (.long a), .second, .val (.long b), .second, .val (.int k), .val (.long (a &&& (9223372036854775807 : Int64))), .second, .val (.long (b &&& (9223372036854775807 : Int64))), .second, .val (.long r1), .second, .val (.long r2), .second, .val (.int (k &&& (3 : Int32))), .val (.ref c_PX), .unset, .unset] [(.long r1), (.ref c_PX)])) (fun t9 k9 => XS.lload X6.here hx rfl (hb hby at_80) rfl k9) ?_
      refine own_st (T' := T6) (g' := (mkF m 84 #[.val (.long a), .second, .val (.long b), .second, .val (.int k), .val (.long (a &&& (9223372036854775807 : Int64))), .second, .val (.long (b &&& (9223372036854775807 : Int64))), .second, .val (.long r1), .second, .val (.long r2), .second, .val (.int (k &&& (3 : Int32))), .val (.ref c_PX), .unset, .unset] [(.long r2), (.long r1), (.ref c_PX)])) (fun t9 k9 => XS.lload X6.here hx rfl (hb hby at_82) rfl k9) ?_
      obtain ⟨cq7, kq7, qa7, qb7, qc7⟩ := isOf hZ e6 E_PX
      obtain ⟨_, _, ⟨T7, L7, k7, n7⟩, -, X7, ⟨Lc7, hQ7, l7, y7, z7⟩, st7⟩ := X6.virtualBack hx (y := (⟨"com/example/tuck/tuck/service/ExpiryForm", "amount", "(JJ)J"⟩ : MethodName)) (z := (⟨"com/example/tuck/tuck/service/ExpiryForm", "amount", "(JJ)J"⟩ : MethodName)) hown (mvT hZ (hw _ (List.mem_of_getElem? (i := 11) rfl))) (mvT hZ (hw _ (List.mem_of_getElem? (i := 12) rfl))) (notFace_of_selects (args := #[]) (mvT hZ (hw _ (List.mem_of_getElem? (i := 14) rfl)))) (mvT hZ (hw _ (List.mem_of_getElem? (i := 14) rfl))) (mvT hZ (hw _ (List.mem_of_getElem? (i := 13) rfl))) (by decide) (own_back (W := 0) (rm3 l Z a0 hw c_PX r1 r2 (1 : Int64) (0 : Int32) h0 n0 Z0 Fs_PX Fu_PX (by decide)) hZ (hw _ (List.mem_of_getElem? (i := 15) rfl)) (hw _ (List.mem_of_getElem? (i := 9) rfl)) (by decide) (by decide)) qa7 qc7 (g := (mkF m 84 #[.val (.long a), .second, .val (.long b), .second, .val (.int k), .val (.long (a &&& (9223372036854775807 : Int64))), .second, .val (.long (b &&& (9223372036854775807 : Int64))), .second, .val (.long r1), .second, .val (.long r2), .second, .val (.int (k &&& (3 : Int32))), .val (.ref c_PX), .unset, .unset] [(.long r2), (.long r1), (.ref c_PX)])) rfl (by rw [hml]; rfl) (Steps.refl _) (argsL := [(.long r1), (.long r2)]) (rest := []) (lenOf pd_0 rfl) rfl (by show 2 * 0 + _ ≤ _; exact Nat.le_of_eq rfl) (hb hby at_84) (fun _ _ => ⟨rfl, e6, (Nat.le_of_ble_eq_true rfl), (Nat.le_of_ble_eq_true rfl)⟩)
      dsimp only [Pt.U, Pt.locs, Pt.cells, Pt.slots] at X7 l7 y7 z7 st7 hQ7
      subst l7 y7 z7
      obtain ⟨r7, ms7, rfl, Nq7, he7, hm7, ha7⟩ := hQ7
      have N7 := Fr.app N2 Nq7
      have e7 : T7.heap = h0 := he7
      refine own_st (T' := T7) (g' := (mkF m 87 #[.val (.long a), .second, .val (.long b), .second, .val (.int k), .val (.long (a &&& (9223372036854775807 : Int64))), .second, .val (.long (b &&& (9223372036854775807 : Int64))), .second, .val (.long r1), .second, .val (.long r2), .second, .val (.int (k &&& (3 : Int32))), .val (.ref c_PX), .unset, .unset] [(.long r7)])) (fun t9 k9 => st7.trans k9) ?_
      have hms : ms7 = (r1 - r2) := by
        rcases hm7 with ⟨q1, q2⟩ | ⟨q1, q2⟩
        · exact q2
        · exact absurd rfl q1
      subst ms7
      refine own_st (T' := T7) (g' := (mkF m 89 #[.val (.long a), .second, .val (.long b), .second, .val (.int k), .val (.long (a &&& (9223372036854775807 : Int64))), .second, .val (.long (b &&& (9223372036854775807 : Int64))), .second, .val (.long r1), .second, .val (.long r2), .second, .val (.int (k &&& (3 : Int32))), .val (.ref c_PX), .val (.long r7), .second] [])) (fun t9 k9 => XS.lstore X7.here hx rfl (hb hby at_87) rfl (l' := #[.val (.long a), .second, .val (.long b), .second, .val (.int k), .val (.long (a &&& (9223372036854775807 : Int64))), .second, .val (.long (b &&& (9223372036854775807 : Int64))), .second, .val (.long r1), .second, .val (.long r2), .second, .val (.int (k &&& (3 : Int32))), .val (.ref c_PX), .val (.long r7), .second]) rfl k9) ?_
      refine own_st (T' := T7) (g' := (mkF m 91 #[.val (.long a), .second, .val (.long b), .second, .val (.int k), .val (.long (a &&& (9223372036854775807 : Int64))), .second, .val (.long (b &&& (9223372036854775807 : Int64))), .second, .val (.long r1), .second, .val (.long r2), .second, .val (.int (k &&& (3 : Int32))), .val (.ref c_PX), .val (.long r7), .second] [(.int (k &&& (3 : Int32)))])) (fun t9 k9 => XS.iload X7.here hx rfl (hb hby at_89) rfl k9) ?_
      refine own_st (T' := T7) (g' := (mkF m 105 #[.val (.long a), .second, .val (.long b), .second, .val (.int k), .val (.long (a &&& (9223372036854775807 : Int64))), .second, .val (.long (b &&& (9223372036854775807 : Int64))), .second, .val (.long r1), .second, .val (.long r2), .second, .val (.int (k &&& (3 : Int32))), .val (.ref c_PX), .val (.long r7), .second] [])) (fun t9 k9 => XS.ifYes X7.here hx rfl (pc0 := 91) (pc' := 105) rfl (hb hby at_91) rfl ((if0 _ _).trans (feq hk0).2) (by decide) (by decide) k9) ?_
      refine own_st (T' := T7) (g' := (mkF m 107 #[.val (.long a), .second, .val (.long b), .second, .val (.int k), .val (.long (a &&& (9223372036854775807 : Int64))), .second, .val (.long (b &&& (9223372036854775807 : Int64))), .second, .val (.long r1), .second, .val (.long r2), .second, .val (.int (k &&& (3 : Int32))), .val (.ref c_PX), .val (.long r7), .second] [(.int (k &&& (3 : Int32)))])) (fun t9 k9 => XS.iload X7.here hx rfl (hb hby at_105) rfl k9) ?_
      refine own_st (T' := T7) (g' := (mkF m 108 #[.val (.long a), .second, .val (.long b), .second, .val (.int k), .val (.long (a &&& (9223372036854775807 : Int64))), .second, .val (.long (b &&& (9223372036854775807 : Int64))), .second, .val (.long r1), .second, .val (.long r2), .second, .val (.int (k &&& (3 : Int32))), .val (.ref c_PX), .val (.long r7), .second] [(.int (1 : Int32)), (.int (k &&& (3 : Int32)))])) (fun t9 k9 => XS.iconst X7.here hx rfl (hb hby at_107) k9) ?_
      refine own_st (T' := T7) (g' := (mkF m 111 #[.val (.long a), .second, .val (.long b), .second, .val (.int k), .val (.long (a &&& (9223372036854775807 : Int64))), .second, .val (.long (b &&& (9223372036854775807 : Int64))), .second, .val (.long r1), .second, .val (.long r2), .second, .val (.int (k &&& (3 : Int32))), .val (.ref c_PX), .val (.long r7), .second] [])) (fun t9 k9 => XS.icmpNo X7.here hx rfl (hb hby at_108) rfl (teq hk1).2 k9) ?_
      refine own_st (T' := T7) (g' := (mkF m 113 #[.val (.long a), .second, .val (.long b), .second, .val (.int k), .val (.long (a &&& (9223372036854775807 : Int64))), .second, .val (.long (b &&& (9223372036854775807 : Int64))), .second, .val (.long r1), .second, .val (.long r2), .second, .val (.int (k &&& (3 : Int32))), .val (.ref c_PX), .val (.long r7), .second] [(.long r7)])) (fun t9 k9 => XS.lload X7.here hx rfl (hb hby at_111) rfl k9) ?_
      refine own_st (T' := T7) (g' := (mkF m 115 #[.val (.long a), .second, .val (.long b), .second, .val (.int k), .val (.long (a &&& (9223372036854775807 : Int64))), .second, .val (.long (b &&& (9223372036854775807 : Int64))), .second, .val (.long r1), .second, .val (.long r2), .second, .val (.int (k &&& (3 : Int32))), .val (.ref c_PX), .val (.long r7), .second] [(.long r1), (.long r7)])) (fun t9 k9 => XS.lload X7.here hx rfl (hb hby at_113) rfl k9) ?_
      refine own_st (T' := T7) (g' := (mkF m 117 #[.val (.long a), .second, .val (.long b), .second, .val (.int k), .val (.long (a &&& (9223372036854775807 : Int64))), .second, .val (.long (b &&& (9223372036854775807 : Int64))), .second, .val (.long r1), .second, .val (.long r2), .second, .val (.int (k &&& (3 : Int32))), .val (.ref c_PX), .val (.long r7), .second] [(.long r2), (.long r1), (.long r7)])) (fun t9 k9 => XS.lload X7.here hx rfl (hb hby at_115) rfl k9) ?_
      refine own_st (T' := T7) (g' := (mkF m 118 #[.val (.long a), .second, .val (.long b), .second, .val (.int k), .val (.long (a &&& (9223372036854775807 : Int64))), .second, .val (.long (b &&& (9223372036854775807 : Int64))), .second, .val (.long r1), .second, .val (.long r2), .second, .val (.int (k &&& (3 : Int32))), .val (.ref c_PX), .val (.long r7), .second] [(.long (r1 - r2)), (.long r7)])) (fun t9 k9 => XS.lsub X7.here hx rfl (hb hby at_117) rfl k9) ?_
      refine own_st (T' := T7) (g' := (mkF m 119 #[.val (.long a), .second, .val (.long b), .second, .val (.int k), .val (.long (a &&& (9223372036854775807 : Int64))), .second, .val (.long (b &&& (9223372036854775807 : Int64))), .second, .val (.long r1), .second, .val (.long r2), .second, .val (.int (k &&& (3 : Int32))), .val (.ref c_PX), .val (.long r7), .second] [(.int (lcmpW r7 (r1 - r2)))])) (fun t9 k9 => XS.lcmp X7.here hx rfl (hb hby at_118) rfl k9) ?_
      refine own_st (T' := T7) (g' := (mkF m 122 #[.val (.long a), .second, .val (.long b), .second, .val (.int k), .val (.long (a &&& (9223372036854775807 : Int64))), .second, .val (.long (b &&& (9223372036854775807 : Int64))), .second, .val (.long r1), .second, .val (.long r2), .second, .val (.int (k &&& (3 : Int32))), .val (.ref c_PX), .val (.long r7), .second] [])) (fun t9 k9 => XS.ifNo X7.here hx rfl (hb hby at_119) rfl ((if0 _ _).trans (teq ((lw_eq _ _).mpr (own_unit (r1 - r2) r7 hdn ha7) : (lcmpW r7 (r1 - r2)) = (0 : Int32))).2) k9) ?_
      refine own_st (T' := T7) (g' := (mkF m 123 #[.val (.long a), .second, .val (.long b), .second, .val (.int k), .val (.long (a &&& (9223372036854775807 : Int64))), .second, .val (.long (b &&& (9223372036854775807 : Int64))), .second, .val (.long r1), .second, .val (.long r2), .second, .val (.int (k &&& (3 : Int32))), .val (.ref c_PX), .val (.long r7), .second] [(.int (1 : Int32))])) (fun t9 k9 => XS.iconst X7.here hx rfl (hb hby at_122) k9) ?_
      refine own_st (T' := T7) (g' := (mkF m 127 #[.val (.long a), .second, .val (.long b), .second, .val (.int k), .val (.long (a &&& (9223372036854775807 : Int64))), .second, .val (.long (b &&& (9223372036854775807 : Int64))), .second, .val (.long r1), .second, .val (.long r2), .second, .val (.int (k &&& (3 : Int32))), .val (.ref c_PX), .val (.long r7), .second] [(.int (1 : Int32))])) (fun t9 k9 => XS.goto X7.here hx rfl (pc0 := 123) (pc' := 127) rfl (hb hby at_123) (by decide) (by decide) k9) ?_
      refine own_ret (v := some (.int (1 : Int32))) hF X7 (own_some hret) hlk (fun fs hr => retN X7 hx (t := .boolean) hret (by simp) (hb hby at_127) hr) ?_ (by decide) (by decide)
      try rw [e7]
      exact ⟨rfl, N7⟩
    · refine own_st (T' := T2) (g' := (mkF m 61 #[.val (.long a), .second, .val (.long b), .second, .val (.int k), .val (.long (a &&& (9223372036854775807 : Int64))), .second, .val (.long (b &&& (9223372036854775807 : Int64))), .second, .val (.long r1), .second, .val (.long r2), .second, .val (.int (k &&& (3 : Int32))), .unset, .unset, .unset] [])) (fun t9 k9 => XS.icmpYes X2.here hx rfl (pc0 := 52) (pc' := 61) rfl (hb hby at_52) rfl (feq hk1).2 (by decide) (by decide) k9) ?_
      refine own_st (T' := T2) (g' := (mkF m 63 #[.val (.long a), .second, .val (.long b), .second, .val (.int k), .val (.long (a &&& (9223372036854775807 : Int64))), .second, .val (.long (b &&& (9223372036854775807 : Int64))), .second, .val (.long r1), .second, .val (.long r2), .second, .val (.int (k &&& (3 : Int32))), .unset, .unset, .unset] [(.int (k &&& (3 : Int32)))])) (fun t9 k9 => XS.iload X2.here hx rfl (hb hby at_61) rfl k9) ?_
      refine own_st (T' := T2) (g' := (mkF m 64 #[.val (.long a), .second, .val (.long b), .second, .val (.int k), .val (.long (a &&& (9223372036854775807 : Int64))), .second, .val (.long (b &&& (9223372036854775807 : Int64))), .second, .val (.long r1), .second, .val (.long r2), .second, .val (.int (k &&& (3 : Int32))), .unset, .unset, .unset] [(.int (2 : Int32)), (.int (k &&& (3 : Int32)))])) (fun t9 k9 => XS.iconst X2.here hx rfl (hb hby at_63) k9) ?_
      by_cases hk2 : (k &&& (3 : Int32)) = (2 : Int32)
      · refine own_st (T' := T2) (g' := (mkF m 67 #[.val (.long a), .second, .val (.long b), .second, .val (.int k), .val (.long (a &&& (9223372036854775807 : Int64))), .second, .val (.long (b &&& (9223372036854775807 : Int64))), .second, .val (.long r1), .second, .val (.long r2), .second, .val (.int (k &&& (3 : Int32))), .unset, .unset, .unset] [])) (fun t9 k9 => XS.icmpNo X2.here hx rfl (hb hby at_64) rfl (teq hk2).2 k9) ?_
        obtain ⟨T8, X8, e8, st8⟩ := getS2 X2 hx hZ hown (host := "") (Or.inl (hw _ (List.mem_of_getElem? (i := 33) rfl))) Via.refl e2 S_EXAT (g := (mkF m 67 #[.val (.long a), .second, .val (.long b), .second, .val (.int k), .val (.long (a &&& (9223372036854775807 : Int64))), .second, .val (.long (b &&& (9223372036854775807 : Int64))), .second, .val (.long r1), .second, .val (.long r2), .second, .val (.int (k &&& (3 : Int32))), .unset, .unset, .unset] [])) rfl (hb hby at_67)
        refine own_st (T' := T8) (g' := (mkF m 70 #[.val (.long a), .second, .val (.long b), .second, .val (.int k), .val (.long (a &&& (9223372036854775807 : Int64))), .second, .val (.long (b &&& (9223372036854775807 : Int64))), .second, .val (.long r1), .second, .val (.long r2), .second, .val (.int (k &&& (3 : Int32))), .unset, .unset, .unset] [(.ref c_EXAT)])) (fun t9 k9 => st8 t9 k9) ?_
        refine own_st (T' := T8) (g' := (mkF m 76 #[.val (.long a), .second, .val (.long b), .second, .val (.int k), .val (.long (a &&& (9223372036854775807 : Int64))), .second, .val (.long (b &&& (9223372036854775807 : Int64))), .second, .val (.long r1), .second, .val (.long r2), .second, .val (.int (k &&& (3 : Int32))), .unset, .unset, .unset] [(.ref c_EXAT)])) (fun t9 k9 => XS.goto X8.here hx rfl (pc0 := 70) (pc' := 76) rfl (hb hby at_70) (by decide) (by decide) k9) ?_
        refine own_st (T' := T8) (g' := (mkF m 78 #[.val (.long a), .second, .val (.long b), .second, .val (.int k), .val (.long (a &&& (9223372036854775807 : Int64))), .second, .val (.long (b &&& (9223372036854775807 : Int64))), .second, .val (.long r1), .second, .val (.long r2), .second, .val (.int (k &&& (3 : Int32))), .val (.ref c_EXAT), .unset, .unset] [])) (fun t9 k9 => XS.astore X8.here hx rfl (hb hby at_76) rfl rfl (l' := #[.val (.long a), .second, .val (.long b), .second, .val (.int k), .val (.long (a &&& (9223372036854775807 : Int64))), .second, .val (.long (b &&& (9223372036854775807 : Int64))), .second, .val (.long r1), .second, .val (.long r2), .second, .val (.int (k &&& (3 : Int32))), .val (.ref c_EXAT), .unset, .unset]) rfl k9) ?_
        refine own_st (T' := T8) (g' := (mkF m 80 #[.val (.long a), .second, .val (.long b), .second, .val (.int k), .val (.long (a &&& (9223372036854775807 : Int64))), .second, .val (.long (b &&& (9223372036854775807 : Int64))), .second, .val (.long r1), .second, .val (.long r2), .second, .val (.int (k &&& (3 : Int32))), .val (.ref c_EXAT), .unset, .unset] [(.ref c_EXAT)])) (fun t9 k9 => XS.aload X8.here hx rfl (hb hby at_78) rfl rfl k9) ?_
        refine own_st (T' := T8) (g' := (mkF m 82 #[.val (.long a), .second, .val (.long b), .second, .val (.int k), .val (.long (a &&& (9223372036854775807 : Int64))), .second, .val (.long (b &&& (9223372036854775807 : Int64))), .second, .val (.long r1), .second, .val (.long r2), .second, .val (.int (k &&& (3 : Int32))), .val (.ref c_EXAT), .unset, .unset] [(.long r1), (.ref c_EXAT)])) (fun t9 k9 => XS.lload X8.here hx rfl (hb hby at_80) rfl k9) ?_
        refine own_st (T' := T8) (g' := (mkF m 84 #[.val (.long a), .second, .val (.long b), .second, .val (.int k), .val (.long (a &&& (9223372036854775807 : Int64))), .second, .val (.long (b &&& (9223372036854775807 : Int64))), .second, .val (.long r1), .second, .val (.long r2), .second, .val (.int (k &&& (3 : Int32))), .val (.ref c_EXAT), .unset, .unset] [(.long r2), (.long r1), (.ref c_EXAT)])) (fun t9 k9 => XS.lload X8.here hx rfl (hb hby at_82) rfl k9) ?_
        obtain ⟨cq9, kq9, qa9, qb9, qc9⟩ := isOf hZ e8 E_EXAT
        obtain ⟨_, _, ⟨T9, L9, k9, n9⟩, -, X9, ⟨Lc9, hQ9, l9, y9, z9⟩, st9⟩ := X8.virtualBack hx (y := (⟨"com/example/tuck/tuck/service/ExpiryForm", "amount", "(JJ)J"⟩ : MethodName)) (z := (⟨"com/example/tuck/tuck/service/ExpiryForm", "amount", "(JJ)J"⟩ : MethodName)) hown (mvT hZ (hw _ (List.mem_of_getElem? (i := 11) rfl))) (mvT hZ (hw _ (List.mem_of_getElem? (i := 12) rfl))) (notFace_of_selects (args := #[]) (mvT hZ (hw _ (List.mem_of_getElem? (i := 14) rfl)))) (mvT hZ (hw _ (List.mem_of_getElem? (i := 14) rfl))) (mvT hZ (hw _ (List.mem_of_getElem? (i := 13) rfl))) (by decide) (own_back (W := 0) (rm3 l Z a0 hw c_EXAT r1 r2 (1000 : Int64) (1 : Int32) h0 n0 Z0 Fs_EXAT Fu_EXAT (by decide)) hZ (hw _ (List.mem_of_getElem? (i := 15) rfl)) (hw _ (List.mem_of_getElem? (i := 9) rfl)) (by decide) (by decide)) qa9 qc9 (g := (mkF m 84 #[.val (.long a), .second, .val (.long b), .second, .val (.int k), .val (.long (a &&& (9223372036854775807 : Int64))), .second, .val (.long (b &&& (9223372036854775807 : Int64))), .second, .val (.long r1), .second, .val (.long r2), .second, .val (.int (k &&& (3 : Int32))), .val (.ref c_EXAT), .unset, .unset] [(.long r2), (.long r1), (.ref c_EXAT)])) rfl (by rw [hml]; rfl) (Steps.refl _) (argsL := [(.long r1), (.long r2)]) (rest := []) (lenOf pd_0 rfl) rfl (by show 2 * 0 + _ ≤ _; exact Nat.le_of_eq rfl) (hb hby at_84) (fun _ _ => ⟨rfl, e8, (Nat.le_of_ble_eq_true rfl), (Nat.le_of_ble_eq_true rfl)⟩)
        dsimp only [Pt.U, Pt.locs, Pt.cells, Pt.slots] at X9 l9 y9 z9 st9 hQ9
        subst l9 y9 z9
        obtain ⟨r9, ms9, rfl, Nq9, he9, hm9, ha9⟩ := hQ9
        have N9 := Fr.app N2 Nq9
        have e9 : T9.heap = h0 := he9
        refine own_st (T' := T9) (g' := (mkF m 87 #[.val (.long a), .second, .val (.long b), .second, .val (.int k), .val (.long (a &&& (9223372036854775807 : Int64))), .second, .val (.long (b &&& (9223372036854775807 : Int64))), .second, .val (.long r1), .second, .val (.long r2), .second, .val (.int (k &&& (3 : Int32))), .val (.ref c_EXAT), .unset, .unset] [(.long r9)])) (fun t9 k9 => st9.trans k9) ?_
        have hms : ms9 = r1 := by
          rcases hm9 with ⟨q1, q2⟩ | ⟨q1, q2⟩
          · exact absurd q1 (by decide)
          · exact q2
        subst ms9
        refine own_st (T' := T9) (g' := (mkF m 89 #[.val (.long a), .second, .val (.long b), .second, .val (.int k), .val (.long (a &&& (9223372036854775807 : Int64))), .second, .val (.long (b &&& (9223372036854775807 : Int64))), .second, .val (.long r1), .second, .val (.long r2), .second, .val (.int (k &&& (3 : Int32))), .val (.ref c_EXAT), .val (.long r9), .second] [])) (fun t9 k9 => XS.lstore X9.here hx rfl (hb hby at_87) rfl (l' := #[.val (.long a), .second, .val (.long b), .second, .val (.int k), .val (.long (a &&& (9223372036854775807 : Int64))), .second, .val (.long (b &&& (9223372036854775807 : Int64))), .second, .val (.long r1), .second, .val (.long r2), .second, .val (.int (k &&& (3 : Int32))), .val (.ref c_EXAT), .val (.long r9), .second]) rfl k9) ?_
        refine own_st (T' := T9) (g' := (mkF m 91 #[.val (.long a), .second, .val (.long b), .second, .val (.int k), .val (.long (a &&& (9223372036854775807 : Int64))), .second, .val (.long (b &&& (9223372036854775807 : Int64))), .second, .val (.long r1), .second, .val (.long r2), .second, .val (.int (k &&& (3 : Int32))), .val (.ref c_EXAT), .val (.long r9), .second] [(.int (k &&& (3 : Int32)))])) (fun t9 k9 => XS.iload X9.here hx rfl (hb hby at_89) rfl k9) ?_
        refine own_st (T' := T9) (g' := (mkF m 105 #[.val (.long a), .second, .val (.long b), .second, .val (.int k), .val (.long (a &&& (9223372036854775807 : Int64))), .second, .val (.long (b &&& (9223372036854775807 : Int64))), .second, .val (.long r1), .second, .val (.long r2), .second, .val (.int (k &&& (3 : Int32))), .val (.ref c_EXAT), .val (.long r9), .second] [])) (fun t9 k9 => XS.ifYes X9.here hx rfl (pc0 := 91) (pc' := 105) rfl (hb hby at_91) rfl ((if0 _ _).trans (feq hk0).2) (by decide) (by decide) k9) ?_
        refine own_st (T' := T9) (g' := (mkF m 107 #[.val (.long a), .second, .val (.long b), .second, .val (.int k), .val (.long (a &&& (9223372036854775807 : Int64))), .second, .val (.long (b &&& (9223372036854775807 : Int64))), .second, .val (.long r1), .second, .val (.long r2), .second, .val (.int (k &&& (3 : Int32))), .val (.ref c_EXAT), .val (.long r9), .second] [(.int (k &&& (3 : Int32)))])) (fun t9 k9 => XS.iload X9.here hx rfl (hb hby at_105) rfl k9) ?_
        refine own_st (T' := T9) (g' := (mkF m 108 #[.val (.long a), .second, .val (.long b), .second, .val (.int k), .val (.long (a &&& (9223372036854775807 : Int64))), .second, .val (.long (b &&& (9223372036854775807 : Int64))), .second, .val (.long r1), .second, .val (.long r2), .second, .val (.int (k &&& (3 : Int32))), .val (.ref c_EXAT), .val (.long r9), .second] [(.int (1 : Int32)), (.int (k &&& (3 : Int32)))])) (fun t9 k9 => XS.iconst X9.here hx rfl (hb hby at_107) k9) ?_
        refine own_st (T' := T9) (g' := (mkF m 128 #[.val (.long a), .second, .val (.long b), .second, .val (.int k), .val (.long (a &&& (9223372036854775807 : Int64))), .second, .val (.long (b &&& (9223372036854775807 : Int64))), .second, .val (.long r1), .second, .val (.long r2), .second, .val (.int (k &&& (3 : Int32))), .val (.ref c_EXAT), .val (.long r9), .second] [])) (fun t9 k9 => XS.icmpYes X9.here hx rfl (pc0 := 108) (pc' := 128) rfl (hb hby at_108) rfl (feq hk1).2 (by decide) (by decide) k9) ?_
        refine own_st (T' := T9) (g' := (mkF m 130 #[.val (.long a), .second, .val (.long b), .second, .val (.int k), .val (.long (a &&& (9223372036854775807 : Int64))), .second, .val (.long (b &&& (9223372036854775807 : Int64))), .second, .val (.long r1), .second, .val (.long r2), .second, .val (.int (k &&& (3 : Int32))), .val (.ref c_EXAT), .val (.long r9), .second] [(.int (k &&& (3 : Int32)))])) (fun t9 k9 => XS.iload X9.here hx rfl (hb hby at_128) rfl k9) ?_
        refine own_st (T' := T9) (g' := (mkF m 131 #[.val (.long a), .second, .val (.long b), .second, .val (.int k), .val (.long (a &&& (9223372036854775807 : Int64))), .second, .val (.long (b &&& (9223372036854775807 : Int64))), .second, .val (.long r1), .second, .val (.long r2), .second, .val (.int (k &&& (3 : Int32))), .val (.ref c_EXAT), .val (.long r9), .second] [(.int (2 : Int32)), (.int (k &&& (3 : Int32)))])) (fun t9 k9 => XS.iconst X9.here hx rfl (hb hby at_130) k9) ?_
        refine own_st (T' := T9) (g' := (mkF m 134 #[.val (.long a), .second, .val (.long b), .second, .val (.int k), .val (.long (a &&& (9223372036854775807 : Int64))), .second, .val (.long (b &&& (9223372036854775807 : Int64))), .second, .val (.long r1), .second, .val (.long r2), .second, .val (.int (k &&& (3 : Int32))), .val (.ref c_EXAT), .val (.long r9), .second] [])) (fun t9 k9 => XS.icmpNo X9.here hx rfl (hb hby at_131) rfl (teq hk2).2 k9) ?_
        obtain ⟨z1, z2, z3, z4⟩ := own_near r1 r9 hd.1 ha9
        refine own_st (T' := T9) (g' := (mkF m 136 #[.val (.long a), .second, .val (.long b), .second, .val (.int k), .val (.long (a &&& (9223372036854775807 : Int64))), .second, .val (.long (b &&& (9223372036854775807 : Int64))), .second, .val (.long r1), .second, .val (.long r2), .second, .val (.int (k &&& (3 : Int32))), .val (.ref c_EXAT), .val (.long r9), .second] [(.long r9)])) (fun t9 k9 => XS.lload X9.here hx rfl (hb hby at_134) rfl k9) ?_
        refine own_st (T' := T9) (g' := (mkF m 138 #[.val (.long a), .second, .val (.long b), .second, .val (.int k), .val (.long (a &&& (9223372036854775807 : Int64))), .second, .val (.long (b &&& (9223372036854775807 : Int64))), .second, .val (.long r1), .second, .val (.long r2), .second, .val (.int (k &&& (3 : Int32))), .val (.ref c_EXAT), .val (.long r9), .second] [(.long r1), (.long r9)])) (fun t9 k9 => XS.lload X9.here hx rfl (hb hby at_136) rfl k9) ?_
        obtain ⟨_, _, ⟨T10, L10, k10, n10⟩, -, X10, ⟨Lc10, hQ10, l10, y10, z10⟩, st10⟩ := Jvm.LawKit.callS X9 hx (y := (⟨"com/example/tuck/tuck/service/ExpiryFormAmountPinLaw", "nearestSecond", "(JJ)Z"⟩ : MethodName)) hown (mvT hZ (hw _ (List.mem_of_getElem? (i := 21) rfl))) (mvT hZ (hw _ (List.mem_of_getElem? (i := 22) rfl))) (mvT hZ (hw _ (List.mem_of_getElem? (i := 23) rfl))) (mvT hZ (hw _ (List.mem_of_getElem? (i := 24) rfl))) (by decide) (own_back (W := 0) (rm4 l Z a0 hw r9 r1 h0 n0 Z0 z1 z2 z3 z4) hZ (hw _ (List.mem_of_getElem? (i := 24) rfl)) (hw _ (List.mem_of_getElem? (i := 23) rfl)) (by decide) (by decide)) (g := (mkF m 138 #[.val (.long a), .second, .val (.long b), .second, .val (.int k), .val (.long (a &&& (9223372036854775807 : Int64))), .second, .val (.long (b &&& (9223372036854775807 : Int64))), .second, .val (.long r1), .second, .val (.long r2), .second, .val (.int (k &&& (3 : Int32))), .val (.ref c_EXAT), .val (.long r9), .second] [(.long r1), (.long r9)])) rfl (by rw [hml]; rfl) (argsL := [(.long r9), (.long r1)]) (rest := []) (lenOf pd_1 rfl) rfl (by show 2 * 0 + _ ≤ _; exact Nat.le_of_eq rfl) (hb hby at_138) (fun _ _ => ⟨rfl, e9, (Nat.le_of_ble_eq_true rfl), (Nat.le_of_ble_eq_true rfl)⟩)
        dsimp only [Pt.U, Pt.locs, Pt.cells, Pt.slots] at X10 l10 y10 z10 st10 hQ10
        subst l10 y10 z10
        obtain ⟨rfl, Nq10, he10⟩ := hQ10
        have N10 := Fr.app N9 Nq10
        have e10 : T10.heap = h0 := he10
        refine own_st (T' := T10) (g' := (mkF m 141 #[.val (.long a), .second, .val (.long b), .second, .val (.int k), .val (.long (a &&& (9223372036854775807 : Int64))), .second, .val (.long (b &&& (9223372036854775807 : Int64))), .second, .val (.long r1), .second, .val (.long r2), .second, .val (.int (k &&& (3 : Int32))), .val (.ref c_EXAT), .val (.long r9), .second] [(.int (1 : Int32))])) (fun t9 k9 => st10 t9 k9) ?_
        refine own_ret (v := some (.int (1 : Int32))) hF X10 (own_some hret) hlk (fun fs hr => retN X10 hx (t := .boolean) hret (by simp) (hb hby at_141) hr) ?_ (by decide) (by decide)
        try rw [e10]
        exact ⟨rfl, N10⟩
      · refine own_st (T' := T2) (g' := (mkF m 73 #[.val (.long a), .second, .val (.long b), .second, .val (.int k), .val (.long (a &&& (9223372036854775807 : Int64))), .second, .val (.long (b &&& (9223372036854775807 : Int64))), .second, .val (.long r1), .second, .val (.long r2), .second, .val (.int (k &&& (3 : Int32))), .unset, .unset, .unset] [])) (fun t9 k9 => XS.icmpYes X2.here hx rfl (pc0 := 64) (pc' := 73) rfl (hb hby at_64) rfl (feq hk2).2 (by decide) (by decide) k9) ?_
        obtain ⟨T11, X11, e11, st11⟩ := getS2 X2 hx hZ hown (host := "") (Or.inl (hw _ (List.mem_of_getElem? (i := 29) rfl))) Via.refl e2 S_PXAT (g := (mkF m 73 #[.val (.long a), .second, .val (.long b), .second, .val (.int k), .val (.long (a &&& (9223372036854775807 : Int64))), .second, .val (.long (b &&& (9223372036854775807 : Int64))), .second, .val (.long r1), .second, .val (.long r2), .second, .val (.int (k &&& (3 : Int32))), .unset, .unset, .unset] [])) rfl (hb hby at_73)
        refine own_st (T' := T11) (g' := (mkF m 76 #[.val (.long a), .second, .val (.long b), .second, .val (.int k), .val (.long (a &&& (9223372036854775807 : Int64))), .second, .val (.long (b &&& (9223372036854775807 : Int64))), .second, .val (.long r1), .second, .val (.long r2), .second, .val (.int (k &&& (3 : Int32))), .unset, .unset, .unset] [(.ref c_PXAT)])) (fun t9 k9 => st11 t9 k9) ?_
        refine own_st (T' := T11) (g' := (mkF m 78 #[.val (.long a), .second, .val (.long b), .second, .val (.int k), .val (.long (a &&& (9223372036854775807 : Int64))), .second, .val (.long (b &&& (9223372036854775807 : Int64))), .second, .val (.long r1), .second, .val (.long r2), .second, .val (.int (k &&& (3 : Int32))), .val (.ref c_PXAT), .unset, .unset] [])) (fun t9 k9 => XS.astore X11.here hx rfl (hb hby at_76) rfl rfl (l' := #[.val (.long a), .second, .val (.long b), .second, .val (.int k), .val (.long (a &&& (9223372036854775807 : Int64))), .second, .val (.long (b &&& (9223372036854775807 : Int64))), .second, .val (.long r1), .second, .val (.long r2), .second, .val (.int (k &&& (3 : Int32))), .val (.ref c_PXAT), .unset, .unset]) rfl k9) ?_
        refine own_st (T' := T11) (g' := (mkF m 80 #[.val (.long a), .second, .val (.long b), .second, .val (.int k), .val (.long (a &&& (9223372036854775807 : Int64))), .second, .val (.long (b &&& (9223372036854775807 : Int64))), .second, .val (.long r1), .second, .val (.long r2), .second, .val (.int (k &&& (3 : Int32))), .val (.ref c_PXAT), .unset, .unset] [(.ref c_PXAT)])) (fun t9 k9 => XS.aload X11.here hx rfl (hb hby at_78) rfl rfl k9) ?_
        refine own_st (T' := T11) (g' := (mkF m 82 #[.val (.long a), .second, .val (.long b), .second, .val (.int k), .val (.long (a &&& (9223372036854775807 : Int64))), .second, .val (.long (b &&& (9223372036854775807 : Int64))), .second, .val (.long r1), .second, .val (.long r2), .second, .val (.int (k &&& (3 : Int32))), .val (.ref c_PXAT), .unset, .unset] [(.long r1), (.ref c_PXAT)])) (fun t9 k9 => XS.lload X11.here hx rfl (hb hby at_80) rfl k9) ?_
        refine own_st (T' := T11) (g' := (mkF m 84 #[.val (.long a), .second, .val (.long b), .second, .val (.int k), .val (.long (a &&& (9223372036854775807 : Int64))), .second, .val (.long (b &&& (9223372036854775807 : Int64))), .second, .val (.long r1), .second, .val (.long r2), .second, .val (.int (k &&& (3 : Int32))), .val (.ref c_PXAT), .unset, .unset] [(.long r2), (.long r1), (.ref c_PXAT)])) (fun t9 k9 => XS.lload X11.here hx rfl (hb hby at_82) rfl k9) ?_
        obtain ⟨cq12, kq12, qa12, qb12, qc12⟩ := isOf hZ e11 E_PXAT
        obtain ⟨_, _, ⟨T12, L12, k12, n12⟩, -, X12, ⟨Lc12, hQ12, l12, y12, z12⟩, st12⟩ := X11.virtualBack hx (y := (⟨"com/example/tuck/tuck/service/ExpiryForm", "amount", "(JJ)J"⟩ : MethodName)) (z := (⟨"com/example/tuck/tuck/service/ExpiryForm", "amount", "(JJ)J"⟩ : MethodName)) hown (mvT hZ (hw _ (List.mem_of_getElem? (i := 11) rfl))) (mvT hZ (hw _ (List.mem_of_getElem? (i := 12) rfl))) (notFace_of_selects (args := #[]) (mvT hZ (hw _ (List.mem_of_getElem? (i := 14) rfl)))) (mvT hZ (hw _ (List.mem_of_getElem? (i := 14) rfl))) (mvT hZ (hw _ (List.mem_of_getElem? (i := 13) rfl))) (by decide) (own_back (W := 0) (rm3 l Z a0 hw c_PXAT r1 r2 (1 : Int64) (1 : Int32) h0 n0 Z0 Fs_PXAT Fu_PXAT (by decide)) hZ (hw _ (List.mem_of_getElem? (i := 15) rfl)) (hw _ (List.mem_of_getElem? (i := 9) rfl)) (by decide) (by decide)) qa12 qc12 (g := (mkF m 84 #[.val (.long a), .second, .val (.long b), .second, .val (.int k), .val (.long (a &&& (9223372036854775807 : Int64))), .second, .val (.long (b &&& (9223372036854775807 : Int64))), .second, .val (.long r1), .second, .val (.long r2), .second, .val (.int (k &&& (3 : Int32))), .val (.ref c_PXAT), .unset, .unset] [(.long r2), (.long r1), (.ref c_PXAT)])) rfl (by rw [hml]; rfl) (Steps.refl _) (argsL := [(.long r1), (.long r2)]) (rest := []) (lenOf pd_0 rfl) rfl (by show 2 * 0 + _ ≤ _; exact Nat.le_of_eq rfl) (hb hby at_84) (fun _ _ => ⟨rfl, e11, (Nat.le_of_ble_eq_true rfl), (Nat.le_of_ble_eq_true rfl)⟩)
        dsimp only [Pt.U, Pt.locs, Pt.cells, Pt.slots] at X12 l12 y12 z12 st12 hQ12
        subst l12 y12 z12
        obtain ⟨r12, ms12, rfl, Nq12, he12, hm12, ha12⟩ := hQ12
        have N12 := Fr.app N2 Nq12
        have e12 : T12.heap = h0 := he12
        refine own_st (T' := T12) (g' := (mkF m 87 #[.val (.long a), .second, .val (.long b), .second, .val (.int k), .val (.long (a &&& (9223372036854775807 : Int64))), .second, .val (.long (b &&& (9223372036854775807 : Int64))), .second, .val (.long r1), .second, .val (.long r2), .second, .val (.int (k &&& (3 : Int32))), .val (.ref c_PXAT), .unset, .unset] [(.long r12)])) (fun t9 k9 => st12.trans k9) ?_
        have hms : ms12 = r1 := by
          rcases hm12 with ⟨q1, q2⟩ | ⟨q1, q2⟩
          · exact absurd q1 (by decide)
          · exact q2
        subst ms12
        refine own_st (T' := T12) (g' := (mkF m 89 #[.val (.long a), .second, .val (.long b), .second, .val (.int k), .val (.long (a &&& (9223372036854775807 : Int64))), .second, .val (.long (b &&& (9223372036854775807 : Int64))), .second, .val (.long r1), .second, .val (.long r2), .second, .val (.int (k &&& (3 : Int32))), .val (.ref c_PXAT), .val (.long r12), .second] [])) (fun t9 k9 => XS.lstore X12.here hx rfl (hb hby at_87) rfl (l' := #[.val (.long a), .second, .val (.long b), .second, .val (.int k), .val (.long (a &&& (9223372036854775807 : Int64))), .second, .val (.long (b &&& (9223372036854775807 : Int64))), .second, .val (.long r1), .second, .val (.long r2), .second, .val (.int (k &&& (3 : Int32))), .val (.ref c_PXAT), .val (.long r12), .second]) rfl k9) ?_
        refine own_st (T' := T12) (g' := (mkF m 91 #[.val (.long a), .second, .val (.long b), .second, .val (.int k), .val (.long (a &&& (9223372036854775807 : Int64))), .second, .val (.long (b &&& (9223372036854775807 : Int64))), .second, .val (.long r1), .second, .val (.long r2), .second, .val (.int (k &&& (3 : Int32))), .val (.ref c_PXAT), .val (.long r12), .second] [(.int (k &&& (3 : Int32)))])) (fun t9 k9 => XS.iload X12.here hx rfl (hb hby at_89) rfl k9) ?_
        refine own_st (T' := T12) (g' := (mkF m 105 #[.val (.long a), .second, .val (.long b), .second, .val (.int k), .val (.long (a &&& (9223372036854775807 : Int64))), .second, .val (.long (b &&& (9223372036854775807 : Int64))), .second, .val (.long r1), .second, .val (.long r2), .second, .val (.int (k &&& (3 : Int32))), .val (.ref c_PXAT), .val (.long r12), .second] [])) (fun t9 k9 => XS.ifYes X12.here hx rfl (pc0 := 91) (pc' := 105) rfl (hb hby at_91) rfl ((if0 _ _).trans (feq hk0).2) (by decide) (by decide) k9) ?_
        refine own_st (T' := T12) (g' := (mkF m 107 #[.val (.long a), .second, .val (.long b), .second, .val (.int k), .val (.long (a &&& (9223372036854775807 : Int64))), .second, .val (.long (b &&& (9223372036854775807 : Int64))), .second, .val (.long r1), .second, .val (.long r2), .second, .val (.int (k &&& (3 : Int32))), .val (.ref c_PXAT), .val (.long r12), .second] [(.int (k &&& (3 : Int32)))])) (fun t9 k9 => XS.iload X12.here hx rfl (hb hby at_105) rfl k9) ?_
        refine own_st (T' := T12) (g' := (mkF m 108 #[.val (.long a), .second, .val (.long b), .second, .val (.int k), .val (.long (a &&& (9223372036854775807 : Int64))), .second, .val (.long (b &&& (9223372036854775807 : Int64))), .second, .val (.long r1), .second, .val (.long r2), .second, .val (.int (k &&& (3 : Int32))), .val (.ref c_PXAT), .val (.long r12), .second] [(.int (1 : Int32)), (.int (k &&& (3 : Int32)))])) (fun t9 k9 => XS.iconst X12.here hx rfl (hb hby at_107) k9) ?_
        refine own_st (T' := T12) (g' := (mkF m 128 #[.val (.long a), .second, .val (.long b), .second, .val (.int k), .val (.long (a &&& (9223372036854775807 : Int64))), .second, .val (.long (b &&& (9223372036854775807 : Int64))), .second, .val (.long r1), .second, .val (.long r2), .second, .val (.int (k &&& (3 : Int32))), .val (.ref c_PXAT), .val (.long r12), .second] [])) (fun t9 k9 => XS.icmpYes X12.here hx rfl (pc0 := 108) (pc' := 128) rfl (hb hby at_108) rfl (feq hk1).2 (by decide) (by decide) k9) ?_
        refine own_st (T' := T12) (g' := (mkF m 130 #[.val (.long a), .second, .val (.long b), .second, .val (.int k), .val (.long (a &&& (9223372036854775807 : Int64))), .second, .val (.long (b &&& (9223372036854775807 : Int64))), .second, .val (.long r1), .second, .val (.long r2), .second, .val (.int (k &&& (3 : Int32))), .val (.ref c_PXAT), .val (.long r12), .second] [(.int (k &&& (3 : Int32)))])) (fun t9 k9 => XS.iload X12.here hx rfl (hb hby at_128) rfl k9) ?_
        refine own_st (T' := T12) (g' := (mkF m 131 #[.val (.long a), .second, .val (.long b), .second, .val (.int k), .val (.long (a &&& (9223372036854775807 : Int64))), .second, .val (.long (b &&& (9223372036854775807 : Int64))), .second, .val (.long r1), .second, .val (.long r2), .second, .val (.int (k &&& (3 : Int32))), .val (.ref c_PXAT), .val (.long r12), .second] [(.int (2 : Int32)), (.int (k &&& (3 : Int32)))])) (fun t9 k9 => XS.iconst X12.here hx rfl (hb hby at_130) k9) ?_
        refine own_st (T' := T12) (g' := (mkF m 142 #[.val (.long a), .second, .val (.long b), .second, .val (.int k), .val (.long (a &&& (9223372036854775807 : Int64))), .second, .val (.long (b &&& (9223372036854775807 : Int64))), .second, .val (.long r1), .second, .val (.long r2), .second, .val (.int (k &&& (3 : Int32))), .val (.ref c_PXAT), .val (.long r12), .second] [])) (fun t9 k9 => XS.icmpYes X12.here hx rfl (pc0 := 131) (pc' := 142) rfl (hb hby at_131) rfl (feq hk2).2 (by decide) (by decide) k9) ?_
        refine own_st (T' := T12) (g' := (mkF m 144 #[.val (.long a), .second, .val (.long b), .second, .val (.int k), .val (.long (a &&& (9223372036854775807 : Int64))), .second, .val (.long (b &&& (9223372036854775807 : Int64))), .second, .val (.long r1), .second, .val (.long r2), .second, .val (.int (k &&& (3 : Int32))), .val (.ref c_PXAT), .val (.long r12), .second] [(.long r12)])) (fun t9 k9 => XS.lload X12.here hx rfl (hb hby at_142) rfl k9) ?_
        refine own_st (T' := T12) (g' := (mkF m 146 #[.val (.long a), .second, .val (.long b), .second, .val (.int k), .val (.long (a &&& (9223372036854775807 : Int64))), .second, .val (.long (b &&& (9223372036854775807 : Int64))), .second, .val (.long r1), .second, .val (.long r2), .second, .val (.int (k &&& (3 : Int32))), .val (.ref c_PXAT), .val (.long r12), .second] [(.long r1), (.long r12)])) (fun t9 k9 => XS.lload X12.here hx rfl (hb hby at_144) rfl k9) ?_
        refine own_st (T' := T12) (g' := (mkF m 147 #[.val (.long a), .second, .val (.long b), .second, .val (.int k), .val (.long (a &&& (9223372036854775807 : Int64))), .second, .val (.long (b &&& (9223372036854775807 : Int64))), .second, .val (.long r1), .second, .val (.long r2), .second, .val (.int (k &&& (3 : Int32))), .val (.ref c_PXAT), .val (.long r12), .second] [(.int (lcmpW r12 r1))])) (fun t9 k9 => XS.lcmp X12.here hx rfl (hb hby at_146) rfl k9) ?_
        refine own_st (T' := T12) (g' := (mkF m 150 #[.val (.long a), .second, .val (.long b), .second, .val (.int k), .val (.long (a &&& (9223372036854775807 : Int64))), .second, .val (.long (b &&& (9223372036854775807 : Int64))), .second, .val (.long r1), .second, .val (.long r2), .second, .val (.int (k &&& (3 : Int32))), .val (.ref c_PXAT), .val (.long r12), .second] [])) (fun t9 k9 => XS.ifNo X12.here hx rfl (hb hby at_147) rfl ((if0 _ _).trans (teq ((lw_eq _ _).mpr (own_unit r1 r12 hd.1 ha12) : (lcmpW r12 r1) = (0 : Int32))).2) k9) ?_
        refine own_st (T' := T12) (g' := (mkF m 151 #[.val (.long a), .second, .val (.long b), .second, .val (.int k), .val (.long (a &&& (9223372036854775807 : Int64))), .second, .val (.long (b &&& (9223372036854775807 : Int64))), .second, .val (.long r1), .second, .val (.long r2), .second, .val (.int (k &&& (3 : Int32))), .val (.ref c_PXAT), .val (.long r12), .second] [(.int (1 : Int32))])) (fun t9 k9 => XS.iconst X12.here hx rfl (hb hby at_150) k9) ?_
        refine own_st (T' := T12) (g' := (mkF m 155 #[.val (.long a), .second, .val (.long b), .second, .val (.int k), .val (.long (a &&& (9223372036854775807 : Int64))), .second, .val (.long (b &&& (9223372036854775807 : Int64))), .second, .val (.long r1), .second, .val (.long r2), .second, .val (.int (k &&& (3 : Int32))), .val (.ref c_PXAT), .val (.long r12), .second] [(.int (1 : Int32))])) (fun t9 k9 => XS.goto X12.here hx rfl (pc0 := 151) (pc' := 155) rfl (hb hby at_151) (by decide) (by decide) k9) ?_
        refine own_ret (v := some (.int (1 : Int32))) hF X12 (own_some hret) hlk (fun fs hr => retN X12 hx (t := .boolean) hret (by simp) (hb hby at_155) hr) ?_ (by decide) (by decide)
        try rw [e12]
        exact ⟨rfl, N12⟩
set_option maxRecDepth 65536 in
set_option maxHeartbeats 40000000 in
theorem comes_1 {Post : Tables → Env → Array Value → State → Outcome → State → Prop} (hpost : ∀ tb e args s v u, (limb_1_1.after args s (.returned v) u = true ∧ limb_1_2.after args s (.returned v) u = true ∧ True) → FrameEnd s (.returned v) u (Jvm.fieldLocs frame_1_writes args s ++ Jvm.arrayLocs frame_1_arrays args s ++ Jvm.staticLocs frame_1_statics s) 0 0 → Post tb e args s (.returned v) u) :
    ArmFor flags0 classFile x code maxLocals ret World_1 tables_1 room_1 Calls_1 rest_1 Pre_1 Post := by
  intro l hfl _ _ p e ha hc hk s m args below hf hA hF happ hP
  obtain ⟨hcalls, hrest, hpre⟩ := hP
  obtain ⟨-, -, -, hnamed, -, -, -, hat⟩ := (Spec.applies_iff hf).mp happ
  obtain ⟨hg, hn⟩ := and_e (Cond.before_iff.mp (show (Jvm.Cond.and given_1 narrow_1).before args s = true from hpre))
  obtain ⟨ga0, gb0⟩ := and_e hg
  obtain ⟨ga1, gb1⟩ := and_e gb0
  obtain ⟨ga2, gb2⟩ := and_e gb1
  obtain ⟨w0, w1, w2, rfl⟩ : ∃ w0 w1 w2 : Value, args = #[w0, w1, w2] := by
    have hs : args.size = 3 := by simpa [Cond.value, given_1] using ga0
    obtain ⟨L⟩ := args
    match L, hs with
    | [w0, w1, w2], _ => exact ⟨w0, w1, w2, rfl⟩
  have hw := fun d (hd : d ∈ tables_1) => atoms_spec (ws := Jvm.Cond.code x code maxLocals ret :: tables_1) hat d (List.mem_cons_of_mem _ hd)
  have hfit : Fit s := fun {y c} hc i hi => by
    obtain ⟨ha, rfl⟩ := Array.getElem?_eq_some_iff.mp hc
    have q := List.all_eq_true.mp ((Array.all_eq_true_iff_forall_mem.mp hF) _ (Array.getElem_mem ha)) i (List.mem_range.mpr hi)
    simpa [Array.getElem?_eq_getElem hi] using q
  obtain ⟨i0, ei0⟩ := isL_v ga1
  obtain rfl : w0 = (.long i0) := Option.some.inj ei0
  obtain ⟨i1, ei1⟩ := isL_v ga2
  obtain rfl : w1 = (.long i1) := Option.some.inj ei1
  obtain ⟨i2, ei2⟩ := is_v gb2
  obtain rfl : w2 = (.int i2) := Option.some.inj ei2
  obtain ⟨xEX1, yEX1⟩ := and_e hn
  obtain ⟨xEX2, yEX2⟩ := and_e yEX1
  obtain ⟨xEX3, yEX3⟩ := and_e yEX2
  obtain ⟨c_EX, ev_EX⟩ := exa_v xEX1
  have E_EX := Exa.start ev_EX xEX1
  have S_EX := Sta.start ev_EX (Or.inr ⟨(hw _ (List.mem_of_getElem? (i := 9) rfl)), (hw _ (List.mem_of_getElem? (i := 10) rfl))⟩)
  have Fs_EX := Fld.start ((fld_at ev_EX).symm.trans (eqv_i (Term.int_eval (0)) xEX2))
  have Fu_EX := Fld.start ((fld_at ev_EX).symm.trans (eqv_l (long_at (1000)) xEX3))
  obtain ⟨xPXAT1, yPXAT1⟩ := and_e yEX3
  obtain ⟨xPXAT2, yPXAT2⟩ := and_e yPXAT1
  obtain ⟨xPXAT3, yPXAT3⟩ := and_e yPXAT2
  obtain ⟨c_PXAT, ev_PXAT⟩ := exa_v xPXAT1
  have E_PXAT := Exa.start ev_PXAT xPXAT1
  have S_PXAT := Sta.start ev_PXAT (Or.inr ⟨(hw _ (List.mem_of_getElem? (i := 9) rfl)), (hw _ (List.mem_of_getElem? (i := 30) rfl))⟩)
  have Fs_PXAT := Fld.start ((fld_at ev_PXAT).symm.trans (eqv_i (Term.int_eval (1)) xPXAT2))
  have Fu_PXAT := Fld.start ((fld_at ev_PXAT).symm.trans (eqv_l (long_at (1)) xPXAT3))
  obtain ⟨xPX1, yPX1⟩ := and_e yPXAT3
  obtain ⟨xPX2, yPX2⟩ := and_e yPX1
  obtain ⟨xPX3, yPX3⟩ := and_e yPX2
  obtain ⟨c_PX, ev_PX⟩ := exa_v xPX1
  have E_PX := Exa.start ev_PX xPX1
  have S_PX := Sta.start ev_PX (Or.inr ⟨(hw _ (List.mem_of_getElem? (i := 9) rfl)), (hw _ (List.mem_of_getElem? (i := 32) rfl))⟩)
  have Fs_PX := Fld.start ((fld_at ev_PX).symm.trans (eqv_i (Term.int_eval (0)) xPX2))
  have Fu_PX := Fld.start ((fld_at ev_PX).symm.trans (eqv_l (long_at (1)) xPX3))
  obtain ⟨xEXAT1, yEXAT1⟩ := and_e yPX3
  obtain ⟨xEXAT2, yEXAT2⟩ := and_e yEXAT1
  have xEXAT3 := yEXAT2
  obtain ⟨c_EXAT, ev_EXAT⟩ := exa_v xEXAT1
  have E_EXAT := Exa.start ev_EXAT xEXAT1
  have S_EXAT := Sta.start ev_EXAT (Or.inr ⟨(hw _ (List.mem_of_getElem? (i := 9) rfl)), (hw _ (List.mem_of_getElem? (i := 34) rfl))⟩)
  have Fs_EXAT := Fld.start ((fld_at ev_EXAT).symm.trans (eqv_i (Term.int_eval (1)) xEXAT2))
  have Fu_EXAT := Fld.start ((fld_at ev_EXAT).symm.trans (eqv_l (long_at (1000)) xEXAT3))
  obtain ⟨n, o, h1, h2, h3, _, L, rfl, ⟨rfl, N⟩, hq⟩ := rm0 l s _ hw i0 i1 i2 c_EX c_PX c_EXAT c_PXAT s.heap s.heap.size (Nat.le_refl _) S_EX E_EX Fs_EX Fu_EX S_PX E_PX Fs_PX Fu_PX S_EXAT E_EXAT Fs_EXAT Fu_EXAT S_PXAT E_PXAT Fs_PXAT Fu_PXAT tables_1 p e ha hc hk s m _ below hf ((Spec.applies_iff_loose hf).mp happ).1 ⟨rfl, State.Warmed39.refl s, rfl⟩ trivial
  refine ⟨n, _, h1, h2, h3, hpost _ _ _ _ _ _ ⟨Cond.after_iff.mpr rfl, Cond.after_iff.mpr (eq_i res_at (Term.int_eval (1)) rfl), trivial⟩ ⟨hq.1, hq.2.1, (hq.2.2.sift fun y hy => Or.inr (N y hy)).mono (by decide) (by decide)⟩⟩
theorem main_1_1 : Claimed_1_1 := comes_1 fun _ _ _ _ _ _ h hF => ⟨h.1, hF⟩
theorem main_1_2 : Claimed_1_2 := comes_1 fun _ _ _ _ _ _ h hF => ⟨h.2.1, hF⟩
end Jvm.Pilot.@@N@@
namespace Jvm.Pilot.@@N@@
open Jvm Jvm.ClassFile Sem Op Lib Jvm.Free Jvm.Stand Jvm.Pilot.@@N@@.Jvm.D
/-! MADE BY PROGRAM (witnessworld.py) out of the Statement's table words and the real class files: 13 classes; the members and pool entries that the words name. The judged class is class 1, her method 1. -/
namespace start1
open Jvm.ClassFile
def u (s : String) : CpInfo := .utf8 (stringToUtf16 s)
/-- a pool by its gaps: so many unusable entries, then the entry; so many at the end -/
def gap : Nat → List CpInfo → List CpInfo
  | 0, r => r
  | n + 1, r => .unusable :: gap n r
def poolList (es : List (Nat × CpInfo)) (last : Nat) : List CpInfo := es.foldr (fun e r => gap e.1 (e.2 :: r)) (gap last [])
def pool (es : List (Nat × CpInfo)) (last : Nat) : Array CpInfo := ⟨poolList es last⟩
def fileOf (pool : Array CpInfo) (this : Nat) (attrs : Array Attribute := #[]) (ms : Array MethodInfo := #[]) (fl : Nat := 33) (sup : Nat := 0) (ifs : Array Nat := #[]) (fds : Array FieldInfo := #[]) : ClassFile where
  minorVersion := 0
  majorVersion := 65
  constantPool := pool
  accessFlags := fl
  thisClass := this
  superClass := sup
  interfaces := ifs
  fields := fds
  methods := ms
  attributes := attrs
def plain (name : String) (sup : Option ClassId) : Class where
  name := name
  kind := .ordinary
  loader := none
  accessFlags := 33
  super := sup
  interfaces := #[]
  cf := none
  fields := #[]
  methods := #[]
  instanceTypes := #[]
  staticTypes := #[]
  resolved := #[]
  callSites := []
  init := .initialized
  statics := none
  mirror := none

def pool0 : Array CpInfo := pool [(5, u "<init>"), (0, u "()V"), (1, .class_ 10), (1, u "java/lang/Object")] 113

def k0m0 : Method := { name := "<init>", desc := "()V", sig := { parameters := [], returnType := none }, accessFlags := 1, code := none }
/-- java/lang/Object -/
def k0 : Class := { plain "java/lang/Object" none with
  accessFlags := 33
  interfaces := #[]
  cf := some (fileOf pool0 8 #[] #[{ accessFlags := 1, nameIndex := 5, descriptorIndex := 6, attributes := #[] }] 33 0 #[] #[])
  fields := #[]
  methods := #[k0m0]
  instanceTypes := #[]
  staticTypes := #[]
  resolved := Array.replicate 124 none
  statics := none }

def pool1 : Array CpInfo := pool [(2, .class_ 4), (1, u "java/lang/Object"), (0, u "<init>"), (0, u "()V"), (2, .long 9223372036854775807), (1, .methodref 12 13), (0, .class_ 14), (0, .nameAndType 15 16), (0, u "java/lang/Math"), (0, u "max"), (0, u "(JJ)J"), (0, .methodref 12 18), (0, .nameAndType 19 16), (0, u "min"), (0, .fieldref 21 22), (0, .class_ 23), (0, .nameAndType 24 25), (0, u "com/example/tuck/tuck/service/ExpiryForm"), (0, u "EX"), (0, u "Lcom/example/tuck/tuck/service/ExpiryForm;"), (0, .fieldref 21 27), (0, .nameAndType 28 25), (0, u "PX"), (0, .fieldref 21 30), (0, .nameAndType 31 25), (0, u "EXAT"), (0, .fieldref 21 33), (0, .nameAndType 34 25), (0, u "PXAT"), (0, .methodref 21 36), (0, .nameAndType 37 16), (0, u "amount"), (0, .methodref 39 40), (0, .class_ 41), (0, .nameAndType 42 43), (0, u "com/example/tuck/tuck/service/ExpiryFormAmountPinLaw"), (0, u "nearestSecond"), (0, u "(JJ)Z"), (0, .long 9223372036854776), (1, .long 1000), (1, .long 18446744073709551116), (1, .long 500), (3, u "law"), (0, u "(JJI)Z")] 3

def k1m0 : Method := { name := "<init>", desc := "()V", sig := { parameters := [], returnType := none }, accessFlags := 2, code := none }
def k1c1 : Code := { maxStack := 6, maxLocals := 17, code := code, exceptionTable := #[], attributes := #[] }
def k1m1 : Method := { name := "law", desc := "(JJI)Z", sig := { parameters := [.long, .long, .int], returnType := some .boolean }, accessFlags := 9, code := some k1c1 }
def k1c2 : Code := { maxStack := 6, maxLocals := 6, code := method_3_code, exceptionTable := #[], attributes := #[] }
def k1m2 : Method := { name := "nearestSecond", desc := "(JJ)Z", sig := { parameters := [.long, .long], returnType := some .boolean }, accessFlags := 10, code := some k1c2 }
/-- com/example/tuck/tuck/service/ExpiryFormAmountPinLaw -/
def k1 : Class := { plain "com/example/tuck/tuck/service/ExpiryFormAmountPinLaw" (some 0) with
  accessFlags := 49
  interfaces := #[]
  cf := some (fileOf pool1 39 #[] #[{ accessFlags := 2, nameIndex := 5, descriptorIndex := 6, attributes := #[] }, { accessFlags := 9, nameIndex := 54, descriptorIndex := 55, attributes := #[] }, { accessFlags := 10, nameIndex := 42, descriptorIndex := 43, attributes := #[] }] 49 2 #[] #[])
  fields := #[]
  methods := #[k1m0, k1m1, k1m2]
  instanceTypes := #[]
  staticTypes := #[]
  resolved := Array.replicate 59 none
  statics := none }

def pool2 : Array CpInfo := pool [(1, .class_ 2), (0, u "java/lang/Math"), (1, .class_ 6), (1, u "java/lang/Object"), (0, u "<init>"), (0, u "()V"), (89, .class_ 100), (1, u "java/lang/Math$RandomNumberGeneratorHolder"), (20, u "(JJ)J"), (50, u "negativeZeroFloatBits"), (0, u "J"), (2, u "negativeZeroDoubleBits"), (21, u "max"), (2, u "min"), (43, u "$assertionsDisabled"), (0, u "Z"), (91, u "twoToTheDoubleScaleDown"), (0, u "D"), (4, u "twoToTheDoubleScaleUp"), (9, u "E"), (3, u "PI"), (2, u "TAU"), (2, u "DEGREES_TO_RADIANS"), (0, u "RADIANS_TO_DEGREES")] 94

def k2m0 : Method := { name := "<init>", desc := "()V", sig := { parameters := [], returnType := none }, accessFlags := 2, code := none }
def k2c1 : Code := { maxStack := 4, maxLocals := 4, code := jdk_29_method_66_code, exceptionTable := #[], attributes := #[] }
def k2m1 : Method := { name := "max", desc := "(JJ)J", sig := { parameters := [.long, .long], returnType := some .long }, accessFlags := 9, code := some k2c1 }
def k2c2 : Code := { maxStack := 4, maxLocals := 4, code := jdk_29_method_70_code, exceptionTable := #[], attributes := #[] }
def k2m2 : Method := { name := "min", desc := "(JJ)J", sig := { parameters := [.long, .long], returnType := some .long }, accessFlags := 9, code := some k2c2 }
/-- java/lang/Math -/
def k2 : Class := { plain "java/lang/Math" (some 0) with
  accessFlags := 49
  interfaces := #[]
  cf := some (fileOf pool2 1 #[.nestMembers #[98]] #[{ accessFlags := 2, nameIndex := 7, descriptorIndex := 8, attributes := #[] }, { accessFlags := 9, nameIndex := 198, descriptorIndex := 121, attributes := #[] }, { accessFlags := 9, nameIndex := 201, descriptorIndex := 121, attributes := #[] }] 49 4 #[] #[{ accessFlags := 25, nameIndex := 354, descriptorIndex := 339, attributes := #[] }, { accessFlags := 25, nameIndex := 358, descriptorIndex := 339, attributes := #[] }, { accessFlags := 25, nameIndex := 361, descriptorIndex := 339, attributes := #[] }, { accessFlags := 26, nameIndex := 364, descriptorIndex := 339, attributes := #[] }, { accessFlags := 26, nameIndex := 365, descriptorIndex := 339, attributes := #[] }, { accessFlags := 26, nameIndex := 172, descriptorIndex := 173, attributes := #[] }, { accessFlags := 26, nameIndex := 176, descriptorIndex := 173, attributes := #[] }, { accessFlags := 8, nameIndex := 344, descriptorIndex := 339, attributes := #[] }, { accessFlags := 8, nameIndex := 338, descriptorIndex := 339, attributes := #[] }, { accessFlags := 4120, nameIndex := 245, descriptorIndex := 246, attributes := #[] }])
  fields := #[{ name := "E", type := .double, accessFlags := 25, slot := 0, constantValue := 0 }, { name := "PI", type := .double, accessFlags := 25, slot := 1, constantValue := 0 }, { name := "TAU", type := .double, accessFlags := 25, slot := 2, constantValue := 0 }, { name := "DEGREES_TO_RADIANS", type := .double, accessFlags := 26, slot := 3, constantValue := 0 }, { name := "RADIANS_TO_DEGREES", type := .double, accessFlags := 26, slot := 4, constantValue := 0 }, { name := "negativeZeroFloatBits", type := .long, accessFlags := 26, slot := 5, constantValue := 0 }, { name := "negativeZeroDoubleBits", type := .long, accessFlags := 26, slot := 6, constantValue := 0 }, { name := "twoToTheDoubleScaleUp", type := .double, accessFlags := 8, slot := 7, constantValue := 0 }, { name := "twoToTheDoubleScaleDown", type := .double, accessFlags := 8, slot := 8, constantValue := 0 }, { name := "$assertionsDisabled", type := .boolean, accessFlags := 4120, slot := 9, constantValue := 0 }]
  methods := #[k2m0, k2m1, k2m2]
  instanceTypes := #[]
  staticTypes := #[.double, .double, .double, .double, .double, .long, .long, .double, .double, .boolean]
  resolved := Array.replicate 460 none
  statics := none }

def pool3 : Array CpInfo := pool [(1, .class_ 2), (0, u "java/lang/constant/Constable"), (0, .class_ 4), (0, u "java/lang/Object")] 6

/-- java/lang/constant/Constable -/
def k3 : Class := { plain "java/lang/constant/Constable" (some 0) with
  accessFlags := 1537
  interfaces := #[]
  cf := some (fileOf pool3 1 #[] #[] 1537 3 #[] #[])
  fields := #[]
  methods := #[]
  instanceTypes := #[]
  staticTypes := #[]
  resolved := Array.replicate 11 none
  statics := none }

def pool4 : Array CpInfo := pool [(1, .class_ 2), (0, u "java/lang/Comparable"), (0, .class_ 4), (0, u "java/lang/Object")] 7

/-- java/lang/Comparable -/
def k4 : Class := { plain "java/lang/Comparable" (some 0) with
  accessFlags := 1537
  interfaces := #[]
  cf := some (fileOf pool4 1 #[] #[] 1537 3 #[] #[])
  fields := #[]
  methods := #[]
  instanceTypes := #[]
  staticTypes := #[]
  resolved := Array.replicate 12 none
  statics := none }

def pool5 : Array CpInfo := pool [(1, .class_ 2), (0, u "java/io/Serializable"), (0, .class_ 4), (0, u "java/lang/Object")] 2

/-- java/io/Serializable -/
def k5 : Class := { plain "java/io/Serializable" (some 0) with
  accessFlags := 1537
  interfaces := #[]
  cf := some (fileOf pool5 1 #[] #[] 1537 3 #[] #[])
  fields := #[]
  methods := #[]
  instanceTypes := #[]
  staticTypes := #[]
  resolved := Array.replicate 7 none
  statics := none }

def pool6 : Array CpInfo := pool [(2, .class_ 4), (1, u "java/lang/Enum"), (0, u "name"), (0, u "Ljava/lang/String;"), (2, u "ordinal"), (0, u "I"), (1, .class_ 14), (1, u "java/lang/Object"), (4, u "hash"), (86, .class_ 108), (1, u "java/lang/Enum$EnumDesc"), (2, .class_ 112), (0, u "java/lang/constant/Constable"), (0, .class_ 114), (0, u "java/lang/Comparable"), (0, .class_ 116), (0, u "java/io/Serializable")] 87

/-- java/lang/Enum -/
def k6 : Class := { plain "java/lang/Enum" (some 0) with
  accessFlags := 1057
  interfaces := #[3, 4, 5]
  cf := some (fileOf pool6 2 #[.nestMembers #[106]] #[] 1057 12 #[111, 113, 115] #[{ accessFlags := 18, nameIndex := 5, descriptorIndex := 6, attributes := #[] }, { accessFlags := 18, nameIndex := 9, descriptorIndex := 10, attributes := #[] }, { accessFlags := 2, nameIndex := 19, descriptorIndex := 10, attributes := #[] }])
  fields := #[{ name := "name", type := (.object "java/lang/String"), accessFlags := 18, slot := 0, constantValue := 0 }, { name := "ordinal", type := .int, accessFlags := 18, slot := 1, constantValue := 0 }, { name := "hash", type := .int, accessFlags := 2, slot := 2, constantValue := 0 }]
  methods := #[]
  instanceTypes := #[(.object "java/lang/String"), .int, .int]
  staticTypes := #[]
  resolved := Array.replicate 204 none
  statics := none }

def pool7 : Array CpInfo := pool [(1, .class_ 2), (0, u "com/example/tuck/tuck/service/ExpiryForm"), (2, u "EX"), (0, u "Lcom/example/tuck/tuck/service/ExpiryForm;"), (2, u "PX"), (2, u "EXAT"), (2, u "PXAT"), (2, u "$VALUES"), (0, u "[Lcom/example/tuck/tuck/service/ExpiryForm;"), (6, .class_ 28), (1, u "java/lang/Enum"), (6, .fieldref 1 36), (0, .nameAndType 37 38), (0, u "unitMillis"), (0, u "J"), (0, .fieldref 1 40), (0, .nameAndType 41 42), (0, u "sinceEpoch"), (0, u "Z"), (19, u "(JJ)J"), (16, .long 2), (24, u "amount")] 5

def k7c0 : Code := { maxStack := 4, maxLocals := 9, code := prog_33_method_6_code, exceptionTable := #[], attributes := #[] }
def k7m0 : Method := { name := "amount", desc := "(JJ)J", sig := { parameters := [.long, .long], returnType := some .long }, accessFlags := 0, code := some k7c0 }
/-- com/example/tuck/tuck/service/ExpiryForm -/
def k7 : Class := { plain "com/example/tuck/tuck/service/ExpiryForm" (some 6) with
  accessFlags := 16432
  interfaces := #[]
  cf := some (fileOf pool7 1 #[] #[{ accessFlags := 0, nameIndex := 104, descriptorIndex := 62, attributes := #[] }] 16432 26 #[] #[{ accessFlags := 16409, nameIndex := 5, descriptorIndex := 6, attributes := #[] }, { accessFlags := 16409, nameIndex := 9, descriptorIndex := 6, attributes := #[] }, { accessFlags := 16409, nameIndex := 12, descriptorIndex := 6, attributes := #[] }, { accessFlags := 16409, nameIndex := 15, descriptorIndex := 6, attributes := #[] }, { accessFlags := 18, nameIndex := 37, descriptorIndex := 38, attributes := #[] }, { accessFlags := 18, nameIndex := 41, descriptorIndex := 42, attributes := #[] }, { accessFlags := 4122, nameIndex := 18, descriptorIndex := 19, attributes := #[] }])
  fields := #[{ name := "EX", type := (.object "com/example/tuck/tuck/service/ExpiryForm"), accessFlags := 16409, slot := 0, constantValue := 0 }, { name := "PX", type := (.object "com/example/tuck/tuck/service/ExpiryForm"), accessFlags := 16409, slot := 1, constantValue := 0 }, { name := "EXAT", type := (.object "com/example/tuck/tuck/service/ExpiryForm"), accessFlags := 16409, slot := 2, constantValue := 0 }, { name := "PXAT", type := (.object "com/example/tuck/tuck/service/ExpiryForm"), accessFlags := 16409, slot := 3, constantValue := 0 }, { name := "unitMillis", type := .long, accessFlags := 18, slot := 3, constantValue := 0 }, { name := "sinceEpoch", type := .boolean, accessFlags := 18, slot := 4, constantValue := 0 }, { name := "$VALUES", type := (.array (.object "com/example/tuck/tuck/service/ExpiryForm")), accessFlags := 4122, slot := 4, constantValue := 0 }]
  methods := #[k7m0]
  instanceTypes := #[(.object "java/lang/String"), .int, .int, .long, .boolean]
  staticTypes := #[(.object "com/example/tuck/tuck/service/ExpiryForm"), (.object "com/example/tuck/tuck/service/ExpiryForm"), (.object "com/example/tuck/tuck/service/ExpiryForm"), (.object "com/example/tuck/tuck/service/ExpiryForm"), (.array (.object "com/example/tuck/tuck/service/ExpiryForm"))]
  resolved := Array.replicate 110 none
  statics := some 0 }

def pool8 : Array CpInfo := pool [(1, u "java/lang/Cloneable"), (0, .class_ 1), (0, u "java/lang/Object"), (0, .class_ 3)] 3

/-- java/lang/Cloneable -/
def k8 : Class := { plain "java/lang/Cloneable" (some 0) with
  accessFlags := 1537
  interfaces := #[]
  cf := some (fileOf pool8 2 #[] #[] 1537 4 #[] #[])
  fields := #[]
  methods := #[]
  instanceTypes := #[]
  staticTypes := #[]
  resolved := Array.replicate 8 none
  statics := none }

/-- the primitive byte -/
def k9 : Class := { plain "byte" none with kind := .primitive 'B', accessFlags := 0x411 }
/-- [B -/
def k10 : Class := { plain "[B" (some 0) with kind := .array 9 .byte, interfaces := #[8, 5], accessFlags := 1041 }

/-- the primitive int -/
def k11 : Class := { plain "int" none with kind := .primitive 'I', accessFlags := 0x411 }
/-- [I -/
def k12 : Class := { plain "[I" (some 0) with kind := .array 11 .int, interfaces := #[8, 5], accessFlags := 1041 }

def heap : Heap := #[{ cls := 7, slots := #[.ref 1, .ref 2, .ref 3, .ref 4, .null], vm := .statics 7 },
  { cls := 7, slots := #[.null, .int 0, .int 0, .long 1000, .int 0], vm := .none },
  { cls := 7, slots := #[.null, .int 1, .int 0, .long 1, .int 0], vm := .none },
  { cls := 7, slots := #[.null, .int 2, .int 0, .long 1000, .int 1], vm := .none },
  { cls := 7, slots := #[.null, .int 3, .int 0, .long 1, .int 1], vm := .none }]
def classes : Array Class := #[k0, k1, k2, k3, k4, k5, k6, k7, k8, k9, k10, k11, k12]
def interned : List (Array UInt16 × Addr) := []
def slotsUsed : Nat := 25
def theMethod : MethodId := ⟨1, 1⟩
def args0 : Array Value := #[.long 5, .long 9, .int 3]
def aboutOver (below : List Frame) : State where
  vm := { classes := classes, interned := interned.toArray }
  heap := heap
  slotsUsed := slotsUsed
  threads := #[{ frames := .invoking theMethod args0 :: below }]
def below0 : List Frame := [.native { method := ⟨0, 0⟩, args := #[] }]
def about1 : State := aboutOver below0
def p0 : Program := .bare "" "" ""
def e0 : Env := launch0.env 0 0 0
theorem w_frames : about1.frames = Frame.invoking theMethod args0 :: below0 := rfl
set_option maxRecDepth 65536 in
theorem w_args : argsFit about1.vm theMethod args0 = true := by decide +kernel
set_option maxRecDepth 65536 in
theorem w_heap : heapFits about1 = true := by decide +kernel
set_option maxRecDepth 65536 in
theorem w_runnable : about1.curStatus? = some .runnable := by decide +kernel
set_option maxRecDepth 65536 in
theorem w_alone : about1.alone = true := by decide +kernel
set_option maxRecDepth 65536 in
theorem w_named : about1.methodNamed? x = some theMethod := by decide +kernel
set_option maxRecDepth 65536 in
theorem w_hears : about1.hears theMethod below0 = true := by decide +kernel
set_option maxRecDepth 65536 in
theorem w_ripe : about1.ripe theMethod args0 below0 = true := by decide +kernel
theorem w_running : about1.status = .running := rfl
set_option maxRecDepth 65536 in
theorem w_room : about1.hasRoom e0.platform room_1 = true :=
  launch0.hasRoom_least _ room_1 (by decide +kernel) (by decide +kernel) (by decide +kernel) (by decide +kernel) (by decide +kernel) (by decide +kernel)
theorem allAtoms_all (ts : List Jvm.Cond) (a : Array Jvm.Value) (st : Jvm.State) : (allAtoms ts).before a st = ts.all (fun c => c.before a st) := by
  induction ts with
  | nil => rfl
  | cons c t ih =>
    show (Jvm.Cond.and c (allAtoms t)).before a st = _
    rw [Jvm.Cond.before_and, ih, List.all_cons]
def words1 : List Jvm.Cond := Jvm.Cond.code x code maxLocals ret :: tables_1
/-- a 'code' word, met by the world's own term for the bytes: nothing is compared byte by byte -/
theorem code_word {y : MethodName} {bytes : ByteArray} {mx : Nat} {rt : Option FieldType} {a : Array Value} {s : State} {m : MethodId} {meth : Method} {c : Code} (h1 : s.methodNamed? y = some m) (h2 : s.vm.method? m = some meth) (h3 : meth.code = some c) (h4 : c.code = bytes)
    (h5 : (c.maxLocals == mx && c.exceptionTable.isEmpty && decide (c.maxStack ≤ mostOperands) && decide (meth.sig.returnType = rt) && !meth.locks && decide (parseMethodDescriptor y.desc = some meth.sig)) = true) : (Jvm.Cond.code y bytes mx rt).before a s = true := by
  simp only [Bool.and_eq_true, beq_iff_eq, Bool.not_eq_true', decide_eq_true_eq] at h5
  obtain ⟨⟨⟨⟨⟨g1, g2⟩, g3⟩, g4⟩, g5⟩, g6⟩ := h5
  simp [Cond.before, Cond.holds, Cond.value, h1, h2, h3, h4, g1, g2, g3, g4, g5, g6]
def isCode : Jvm.Cond → Bool
  | .code _ _ _ _ => true
  | _ => false
theorem all_split {L : List Jvm.Cond} {P : Jvm.Cond → Bool} (h1 : L.all (fun c => isCode c || P c) = true) (h2 : ∀ c ∈ L.filter isCode, P c = true) : L.all P = true := by
  refine List.all_eq_true.mpr fun c hc => ?_
  have h := List.all_eq_true.mp h1 c hc
  rcases Bool.eq_false_or_eq_true (isCode c) with hi | hi
  · exact h2 c (List.mem_filter.mpr ⟨hc, hi⟩)
  · simpa [hi] using h
set_option maxRecDepth 65536 in
theorem w_c0 : (Jvm.Cond.code x code maxLocals ret).before args0 about1 = true := code_word (m := ⟨1, 1⟩) (meth := k1m1) (c := k1c1) (by decide +kernel) rfl rfl rfl (by decide +kernel)
set_option maxRecDepth 65536 in
theorem w_c1 : (Jvm.Cond.code ({ cls := "java/lang/Math", name := "max", desc := "(JJ)J" } : Jvm.MethodName) jdk_29_method_66_code (4 : Nat) (Option.some Jvm.ClassFile.FieldType.long)).before args0 about1 = true := code_word (m := ⟨2, 1⟩) (meth := k2m1) (c := k2c1) (by decide +kernel) rfl rfl rfl (by decide +kernel)
set_option maxRecDepth 65536 in
theorem w_c2 : (Jvm.Cond.code ({ cls := "java/lang/Math", name := "min", desc := "(JJ)J" } : Jvm.MethodName) jdk_29_method_70_code (4 : Nat) (Option.some Jvm.ClassFile.FieldType.long)).before args0 about1 = true := code_word (m := ⟨2, 2⟩) (meth := k2m2) (c := k2c2) (by decide +kernel) rfl rfl rfl (by decide +kernel)
set_option maxRecDepth 65536 in
theorem w_c3 : (Jvm.Cond.code ({ cls := "com/example/tuck/tuck/service/ExpiryForm", name := "amount", desc := "(JJ)J" } : Jvm.MethodName) prog_33_method_6_code (9 : Nat) (Option.some Jvm.ClassFile.FieldType.long)).before args0 about1 = true := code_word (m := ⟨7, 0⟩) (meth := k7m0) (c := k7c0) (by decide +kernel) rfl rfl rfl (by decide +kernel)
set_option maxRecDepth 65536 in
theorem w_c4 : (Jvm.Cond.code ({ cls := "com/example/tuck/tuck/service/ExpiryFormAmountPinLaw", name := "nearestSecond", desc := "(JJ)Z" } : Jvm.MethodName) method_3_code (6 : Nat) (Option.some Jvm.ClassFile.FieldType.boolean)).before args0 about1 = true := code_word (m := ⟨1, 2⟩) (meth := k1m2) (c := k1c2) (by decide +kernel) rfl rfl rfl (by decide +kernel)
def codes1 : List Jvm.Cond := [Jvm.Cond.code x code maxLocals ret, Jvm.Cond.code ({ cls := "java/lang/Math", name := "max", desc := "(JJ)J" } : Jvm.MethodName) jdk_29_method_66_code (4 : Nat) (Option.some Jvm.ClassFile.FieldType.long), Jvm.Cond.code ({ cls := "java/lang/Math", name := "min", desc := "(JJ)J" } : Jvm.MethodName) jdk_29_method_70_code (4 : Nat) (Option.some Jvm.ClassFile.FieldType.long), Jvm.Cond.code ({ cls := "com/example/tuck/tuck/service/ExpiryForm", name := "amount", desc := "(JJ)J" } : Jvm.MethodName) prog_33_method_6_code (9 : Nat) (Option.some Jvm.ClassFile.FieldType.long), Jvm.Cond.code ({ cls := "com/example/tuck/tuck/service/ExpiryFormAmountPinLaw", name := "nearestSecond", desc := "(JJ)Z" } : Jvm.MethodName) method_3_code (6 : Nat) (Option.some Jvm.ClassFile.FieldType.boolean)]
set_option maxRecDepth 65536 in
theorem codes_eq : words1.filter isCode = codes1 := rfl
theorem w_codes : ∀ c ∈ words1.filter isCode, c.before args0 about1 = true := by
  rw [codes_eq]
  intro c hc
  simp only [codes1, List.mem_cons, List.not_mem_nil, or_false] at hc
  rcases hc with rfl | rfl | rfl | rfl | rfl
  · exact w_c0
  · exact w_c1
  · exact w_c2
  · exact w_c3
  · exact w_c4
set_option maxRecDepth 65536 in
theorem w_t1 : (words1.take 24).all (fun c => isCode c || c.before args0 about1) = true := by decide +kernel
set_option maxRecDepth 65536 in
theorem w_t2 : (words1.drop 24).all (fun c => isCode c || c.before args0 about1) = true := by decide +kernel
theorem w_tables : (allAtoms (Jvm.Cond.code x code maxLocals ret :: tables_1)).before args0 about1 = true := by
  rw [allAtoms_all]
  show words1.all (fun c => c.before args0 about1) = true
  refine all_split ?_ w_codes
  rw [← List.take_append_drop 24 words1, List.all_append, w_t1, w_t2]
  rfl
set_option maxRecDepth 65536 in
theorem w_case : (Jvm.Cond.and given_1 narrow_1).before args0 about1 = true := by decide +kernel
theorem w_applies : (headSpec (Jvm.Cond.code x code maxLocals ret :: tables_1) room_1).applies x e0.platform about1 = true :=
  (Spec.applies_iff w_frames).mpr ⟨w_running, w_runnable, w_alone, w_named, w_hears, w_ripe, w_room, w_tables⟩
theorem atStart : AtStart classFile x code maxLocals ret World_1 tables_1 room_1 Calls_1 rest_1 Pre_1 launch0 p0 e0 about1 theMethod args0 below0 :=
  ⟨lists_1, trivial, launch0.admits_env _ _ _, launch0.least_env, fairChoices_fair.cas, fairChoices_fair.clock, w_frames, w_args, w_heap, w_applies, trivial, trivial, w_case⟩
end start1
theorem witness_1 : WitnessClaimed_1 := ⟨start1.p0, start1.e0, start1.about1, start1.theMethod, start1.args0, start1.below0, start1.atStart⟩
end Jvm.Pilot.@@N@@
