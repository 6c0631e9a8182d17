import JvmDerived
import JvmDerived.Pilot.@@N@@Statement
import JvmDerived.Pilot.@@N@@Code
set_option linter.unusedVariables false
set_option linter.unusedSimpArgs false
namespace Jvm.RoadKit
open Sem ClassFile Op Lib Jvm.Stand Jvm.Free Jvm.LawKit
section New
variable {p : Program} {l : Launch} {e : Env} {R : Room} {s : State} {m : MethodId} {args : Array Value} {below : List Frame} {meth : Method} {c : Code} {T : State} {locs : List Loc} {cells slots : Nat}
theorem retI (X : Stand p l e R s m args below meth c T locs cells slots) (hx : p.tables.exec = Jvm.exec) {pc : Nat} {Ls : Array Slot} {z : Int32} {rest : List Value} (hret : meth.sig.returnType = some .int) (hd : decode c.code pc = .ok (.ireturn, 1)) {fs : List Frame}
    (hl : ∀ (f : JFrame) (acts : List Action), f.method = m → f.locked = none → f.entered = [] → (doReturn e (T.setTop f) acts (some (.int z))).1 = T.setFrames fs) : Steps p.tables e below (T.setTop (mkF m pc Ls (.int z :: rest))) (T.setFrames fs) := by
  have hm' : T.vm.method? m = some meth := X.method'
  have hn : narrow .int (.int z) = .int z := rfl
  show Steps p.tables e below (T.setTop { method := m, pc := pc, locals := Ls, stack := _ :: rest, locked := none }) _
  jvm_step X.here [X.here.top, hx, hd, hm', hret, hn]
  first | (intro acts; rw [hl _ acts rfl rfl rfl]) | rw [hl _ _ rfl rfl rfl]
  exact Steps.refl _
theorem own_retA (X : Stand p l e R s m args below meth c T locs cells slots) (hx : p.tables.exec = Jvm.exec) {pc : Nat} {Ls : Array Slot} {z : Value} {ty : FieldType} {rest : List Value} (hret : meth.sig.returnType = some ty) (hty : ty.isReference = true) (hz : z.isRef = true) (hd : decode c.code pc = .ok (.areturn, 1)) {fs : List Frame}
    (hl : ∀ (f : JFrame) (acts : List Action), f.method = m → f.locked = none → f.entered = [] → (doReturn e (T.setTop f) acts (some z)).1 = T.setFrames fs) : Steps p.tables e below (T.setTop (mkF m pc Ls (z :: rest))) (T.setFrames fs) := by
  have hm' : T.vm.method? m = some meth := X.method'
  show Steps p.tables e below (T.setTop { method := m, pc := pc, locals := Ls, stack := _ :: rest, locked := none }) _
  jvm_step X.here [X.here.top, hx, hd, hm', hret, hty, hz]
  first | (intro acts; rw [hl _ acts rfl rfl rfl]) | rw [hl _ _ rfl rfl rfl]
  exact Steps.refl _
theorem own_retD (X : Stand p l e R s m args below meth c T locs cells slots) (hx : p.tables.exec = Jvm.exec) {pc : Nat} {Ls : Array Slot} {z : UInt64} {rest : List Value} (hret : meth.sig.returnType = some .double) (hd : decode c.code pc = .ok (.dreturn, 1)) {fs : List Frame}
    (hl : ∀ (f : JFrame) (acts : List Action), f.method = m → f.locked = none → f.entered = [] → (doReturn e (T.setTop f) acts (some (.double z))).1 = T.setFrames fs) : Steps p.tables e below (T.setTop (mkF m pc Ls (.double z :: rest))) (T.setFrames fs) :=
  retOut X hx hret rfl (Or.inr (Or.inr (Or.inl ⟨rfl, rfl, z, rfl⟩))) hd hl
/-- where a body is to end: it runs, it has ended, it returned v, Q says what v and the heap are -/
def own_F (s : State) (below : List Frame) (Q : Option Value → Heap → List Loc → Prop) (C S : Nat) (t : State) (o : Outcome) : Prop := t.status = .running ∧ Ended t below o ∧ ∃ v L, o = .returned v ∧ Q v t.heap L ∧ FrameEnd s o t L C S
/-- the run from T, with the frame g on top, comes to such an end -/
def own_Go (p : Program) (e : Env) (below : List Frame) (F : State → Outcome → Prop) (T : State) (g : JFrame) : Prop := ∃ t o, Steps p.tables e below (T.setTop g) t ∧ F t o
theorem own_st {F : State → Outcome → Prop} {T T' : State} {g g' : JFrame} (h : ∀ t, Steps p.tables e below (T'.setTop g') t → Steps p.tables e below (T.setTop g) t) (k : own_Go p e below F T' g') : own_Go p e below F T g := by
  obtain ⟨t, o, h1, h2⟩ := k
  exact ⟨t, o, h t h1, h2⟩
theorem own_cast {F : State → Outcome → Prop} {T : State} {g g' : JFrame} (q : g = g') (k : own_Go p e below F T g') : own_Go p e below F T g := q ▸ k
theorem own_ret {F : State → Outcome → Prop} {Q : Option Value → Heap → List Loc → Prop} {C S : Nat} {g : JFrame} {v : Option Value} (hF : F = own_F s below Q C S) (X : Stand p l e R s m args below meth c T locs cells slots) (hv : meth.sig.returnType = none → v = none) (hlk : meth.locks = false)
    (hst : ∀ fs, (∀ (f : JFrame) (acts : List Action), f.method = m → f.locked = none → f.entered = [] → (doReturn e (T.setTop f) acts v).1 = T.setFrames fs) → Steps p.tables e below (T.setTop g) (T.setFrames fs)) (hQ : Q v T.heap locs) (hc : cells ≤ C) (hs : slots ≤ S) : own_Go p e below F T g := by
  subst hF
  obtain ⟨fs, hr, hrun, hended, hW, hsame⟩ := X.leave hv hlk
  exact ⟨T.setFrames fs, .returned v, hst fs hr, hrun, hended, v, locs, rfl, hQ, ⟨_, rfl⟩, hW, hsame.mono hc hs⟩
theorem own_some {ret : Option FieldType} {ty : FieldType} {v : Option Value} (hret : ret = some ty) : ret = none → v = none := fun h => by rw [hret] at h; cases h
/-- a body's contract: called with 'as' at the heap h0 it returns, and Q holds of what it returned, of the heap, of the places written -/
abbrev own_Met (l : Launch) (Z : State) (y : MethodName) (bytes : ByteArray) (maxL : Nat) (ret : Option FieldType) (rm : Room) (as : Array Value) (h0 : Heap) (Q : Option Value → Heap → List Loc → Prop) : Prop :=
  ∀ ws : List Jvm.Cond, MetFree l y (head1 (Jvm.Cond.code y bytes maxL ret :: ws) rm) (fun a U => a = as ∧ Z.Warmed39 U.vm ∧ U.heap = h0) (fun _ _ _ _ _ => True) (fun _ U o U' => ∃ v L, o = .returned v ∧ Q v U'.heap L ∧ FrameEnd U o U' L rm.cells rm.slots)
theorem own_body {Z : State} {y : MethodName} {bytes : ByteArray} {maxL : Nat} {ret : Option FieldType} {rm : Room} {as : Array Value} {h0 : Heap} {Q : Option Value → Heap → List Loc → Prop} (hpl : plainFor y = true)
    (body : ∀ (p : Program) (e : Env) (s : State) (m : MethodId) (below : List Frame) (meth : Method) (c : Code) (T : State), Z.Warmed39 s.vm → p.tables.exec = Jvm.exec → c.code = bytes → c.maxLocals = maxL → s.vm.findClass y.cls = some m.cls → meth.name = y.name → meth.sig.returnType = ret → meth.locks = false →
      Stand p l e rm s m as below meth c T [] 0 0 → T.heap = h0 → ∀ F : State → Outcome → Prop, F = own_F s below Q rm.cells rm.slots → own_Go p e below F T (entryFrame m as maxL)) : own_Met l Z y bytes maxL ret rm as h0 Q := by
  intro ws
  refine MetFree.of_bodySF hpl hisR ?_
  intro p e s m args below meth c s₁ Bd hml0 hP hK
  obtain ⟨rfl, hZ, hh⟩ := hP
  obtain ⟨t, o, h1, h2, h3, h4⟩ := body p e s m below meth c s₁ hZ Bd.exec Bd.bytes hml0 (findClass_of_methodNamed Bd.named) (name_of_methodNamed Bd.named Bd.method).1 Bd.returns (BodyLoose.notSynchronized Bd) (Stand.of_body Bd) (by rw [← hh, Bd.state]; rfl) _ rfl
  exact ⟨t, o, h1, h2, h3, h4⟩
theorem own_back {Z : State} {a0 : Array Value} {y : MethodName} {bytes : ByteArray} {maxL : Nat} {ret : Option FieldType} {rm : Room} {len W : Nat} {as' : Array Value} {h : Heap} {Q : Option Value → Heap → List Loc → Prop} (hM : own_Met l Z y bytes maxL ret rm as' h Q)
    (hZ : Z.Warmed39 s.vm) (wc : (Cond.code y bytes maxL ret).before a0 Z = true) (wz : (Cond.initialized y.cls).before a0 Z = true) (hf : rm.frames + 1 ≤ R.frames) (hl : W + (maxL + 11) + rm.locals ≤ R.locals) :
    Back l R p e below s args y len W (fun A a => a = as' ∧ A.U.heap = h ∧ A.cells + rm.cells ≤ R.cells ∧ A.slots + rm.slots ≤ R.slots)
      (fun A _ v B => ∃ L, Q v B.U.heap L ∧ B.locs = A.locs ++ L ∧ B.cells = A.cells + rm.cells ∧ B.slots = A.slots + rm.slots) := backOf (Q := Q) (rm := rm) (hM []) hZ wc wz hf hl
theorem own_selP {Z : State} {a0 : Array Value} {y : MethodName} {n : Nat} (hZ : Z.Warmed39 s.vm) (wi : (Cond.instantiable y.cls n).before a0 Z = true) (hpriv : s.PrivateAt y) (hinst : (Cond.instanceMethod y).before args s = true) (hy : y.cls ≠ "java/lang/invoke/MethodHandle" ∧ y.cls ≠ "java/lang/invoke/VarHandle") : (Cond.selects y.cls y y).before args s = true := by
  obtain ⟨c, k, h1, h2, h3, h4, -, -⟩ := Cond.instantiable_spec (mvT (args := args) hZ wi)
  exact selects_self_of_private h1 h2 (by cases hi : k.isInterface <;> simp [hi] at h4 ⊢) hpriv hinst hy
theorem own_dup2a (X : Stand p l e R s m args below meth c T locs cells slots) (hx : p.tables.exec = Jvm.exec) {pc : Nat} {Ls : Array Slot} {a b : Value} {rest : List Value} (hd : decode c.code pc = .ok (.dup2, 1)) (ha : a.category = 1) (hb : b.category = 1) {t : State}
    (k : Steps p.tables e below (T.setTop (mkF m (pc + 1) Ls (a :: b :: a :: b :: rest))) t) : Steps p.tables e below (T.setTop (mkF m pc Ls (a :: b :: rest))) t := by
  show Steps p.tables e below (T.setTop { method := m, pc := pc, locals := Ls, stack := a :: b :: rest, locked := none }) _
  jvm_step X.here [X.here.top, hx, hd, ha, hb]
  exact k
theorem own_dup2b (X : Stand p l e R s m args below meth c T locs cells slots) (hx : p.tables.exec = Jvm.exec) {pc : Nat} {Ls : Array Slot} {a : Value} {rest : List Value} (hd : decode c.code pc = .ok (.dup2, 1)) (ha : a.category = 2) {t : State}
    (k : Steps p.tables e below (T.setTop (mkF m (pc + 1) Ls (a :: a :: rest))) t) : Steps p.tables e below (T.setTop (mkF m pc Ls (a :: rest))) t := by
  show Steps p.tables e below (T.setTop { method := m, pc := pc, locals := Ls, stack := a :: rest, locked := none }) _
  jvm_step X.here [X.here.top, hx, hd, ha]
  exact k
theorem own_fresh {Z : State} {h : Heap} {b : Addr} (g : b = h.size) {n : Nat} (q : n ≤ h.size) : n ≤ b := g ▸ q
theorem own_ne {h : Heap} {a b : Addr} (g : b = h.size) (q : a < h.size) : a ≠ b := Nat.ne_of_lt (g ▸ q)
end New
end Jvm.RoadKit
namespace Jvm.Pilot.@@N@@
open Jvm Jvm.ClassFile Sem Op Lib Jvm.Free Jvm.Stand Jvm.LawKit Jvm.RoadKit Bundle Jvm.Pilot.@@N@@.Jvm.D

def own_B (z : Int32) (P : Prop) : Prop := (z = 1 ∧ P) ∨ (z = 0 ∧ ¬ P)
theorem own_B.eq {z y : Int32} {P R : Prop} (h : own_B z P) (k : own_B y R) (q : P ↔ R) : z = y := by
  rcases h with ⟨rfl, h⟩ | ⟨rfl, h⟩ <;> rcases k with ⟨rfl, k⟩ | ⟨rfl, k⟩
  · rfl
  · exact absurd (q.mp h) k
  · exact absurd (q.mpr k) h
  · rfl
theorem own_len31 {Z : State} {args : Array Value} {t : Term} {a : Addr} {cl : Cell} {y : Int32} (et : t.eval args Z none [] Z = some (.ref a)) (hA : Z.arrayAt? a = some cl) (v : (Term.length t).eval args Z none [] Z = some (.int y)) : cl.slots.size < 2 ^ 31 := by
  refine Decidable.byContradiction fun hn => ?_
  simp [Term.eval, et, hA] at v
  omega
theorem own_NSroot {Z : State} {a0 : Array Value} {O K : String} {n : Nat} (w : (Cond.noSuperclass O).before a0 Z = true) (wk : (Cond.instantiable K n).before a0 Z = true) (hn : O ≠ K) : NS Z O K := by
  obtain ⟨c, k, h1, h2, h3, -, -⟩ := Cond.noSuperclass_spec w
  obtain ⟨t, kt, g1, -⟩ := Cond.instantiable_spec wk
  have ne := ids_ne h1 g1 hn
  refine ⟨c, t, h1, g1, fun fuel => ?_⟩
  cases fuel with
  | zero => rfl
  | succ f => simp [Vm.isSubclassAux, ne, h2, h3]
theorem own_NSno {Z : State} {a0 : Array Value} {C S K : String} {n : Nat} (w : (Cond.superclass C S).before a0 Z = true) (wk : (Cond.instantiable K n).before a0 Z = true) (ns : NS Z C K) (hn : C ≠ K) : ∃ c t, Z.vm.findClass C = some c ∧ Z.vm.findClass K = some t ∧ Z.vm.assignable c t = false := by
  obtain ⟨c, t, h0, g0, n3⟩ := ns
  obtain ⟨p, k, kp, h1, h2, h3, h4, h5, -, h7⟩ := Cond.superclass_spec h0 w
  obtain ⟨t', kt, g1, g2, g3, g4, -, -⟩ := Cond.instantiable_spec wk
  cases g0.symm.trans g1
  have g5 : kt.isInterface = false := by cases hi : kt.isInterface <;> simp [hi] at g4 ⊢
  have ne := ids_ne h0 g0 hn
  refine ⟨c, t, h0, g0, ?_⟩
  show Z.vm.assignableAux (255 + 1) c t = false
  simp [Vm.assignableAux, ne, h2, g2, h5, g3, g5, Vm.isSubclass, n3]
theorem own_mask64 (a : Int64) : ¬ (a &&& (9223372036854775807 : Int64)) < (0 : Int64) := fun q => by
  have h := Int64.lt_iff_toInt_lt.mp q
  rw [c_maskL a (9223372036854775807 : Int64) 63 (by decide) (by decide)] at h
  have k : (0 : Int64).toInt = 0 := by decide
  omega
theorem own_mask15 (a : Int32) : ¬ (a &&& (32767 : Int32)) < (0 : Int32) ∧ ¬ (32767 : Int32) < (a &&& (32767 : Int32)) := by
  have m := c_mask a (32767 : Int32) 15 (by decide) (by decide)
  have k : (0 : Int32).toInt = 0 := by decide
  have k' : (32767 : Int32).toInt = 32767 := by decide
  refine ⟨fun q => ?_, fun q => ?_⟩
  · have h := Int32.lt_iff_toInt_lt.mp q; omega
  · have h := Int32.lt_iff_toInt_lt.mp q; omega
/-- the place in the cache of a small long -/
theorem own_place (q : Int64) (h0 : ¬ q < (0 : Int64)) (h1 : ¬ (127 : Int64) < q) {c : Cell} (hs : c.slots.size = (256 : Int32).toNatClampNeg) : ¬ (q.toInt32 + (128 : Int32) < 0 ∨ c.slots.size ≤ (q.toInt32 + (128 : Int32)).toNatClampNeg) := by
  have k0 : (0 : Int64).toInt = 0 := by decide
  have k1 : (127 : Int64).toInt = 127 := by decide
  have a0 : 0 ≤ q.toInt := Int.not_lt.mp fun e => h0 (Int64.lt_iff_toInt_lt.mpr (by omega))
  have a1 : q.toInt ≤ 127 := Int.not_lt.mp fun e => h1 (Int64.lt_iff_toInt_lt.mpr (by omega))
  have b := c_l2i q
  have r := rng32 q.toInt32
  have d := c_iadd q.toInt32 (128 : Int32)
  have k8 : (128 : Int32).toInt = 128 := by decide
  rw [k8] at d
  have r2 := rng32 (q.toInt32 + (128 : Int32))
  refine inb_of hs ⟨fun e => ?_, ?_⟩
  · have e' := Int32.lt_iff_toInt_lt.mp e
    have z0 : (0 : Int32).toInt = 0 := by decide
    omega
  · rw [Int32.lt_iff_toInt_lt]
    have z0 : (256 : Int32).toInt = 256 := by decide
    omega

theorem pd_0 : parseMethodDescriptor "(JI)V" = some ⟨[.long, .int], none⟩ := by decide +kernel
theorem pd_1 : parseMethodDescriptor "()V" = some ⟨[], none⟩ := by decide +kernel
theorem pd_2 : parseMethodDescriptor "(Ljava/lang/Object;)Z" = some ⟨[(.object "java/lang/Object")], some .boolean⟩ := by decide +kernel
theorem pd_3 : parseMethodDescriptor "(J)Ljava/lang/Long;" = some ⟨[.long], some (.object "java/lang/Long")⟩ := by decide +kernel
theorem pd_4 : parseMethodDescriptor "(J)V" = some ⟨[.long], none⟩ := by decide +kernel
theorem d6_0 : decode jdk_18_method_1_code 0 = .ok (.aload_n 0, 1) := by decide +kernel
theorem d6_1 : decode jdk_18_method_1_code 1 = .ok (.invokespecial 1, 3) := by decide +kernel
theorem d6_4 : decode jdk_18_method_1_code 4 = .ok (.return_, 1) := by decide +kernel
theorem pn_6 : plainFor (⟨"java/lang/Number", "<init>", "()V"⟩ : MethodName) = true := plainFor_of_name (by first | (simp [plainName, overriddenIn]; done) | decide +kernel)
set_option maxRecDepth 65536 in
set_option maxHeartbeats 40000000 in
theorem rm6 (l : Launch) (Z : State) (a0 : Array Value) (hw : ∀ d ∈ tables_1, d.before a0 Z = true) (a1 : Addr) (h0 : Heap) (n0 : Nat) (Z0 : n0 ≤ h0.size)  :
    own_Met l Z (⟨"java/lang/Number", "<init>", "()V"⟩ : MethodName) jdk_18_method_1_code 1 none ({ frames := 1, cells := 0, slots := 0, locals := 12 } : Room) #[(.ref a1)] h0 (fun v h L => v = none ∧ Fr n0 L ∧ h = h0) := by
  refine own_body pn_6 ?_
  intro p e s m below meth c T0 hZ hx hby hml hown hnm hret hlk X0 e0 F hF
  have N0 := Fr.nil n0
  have K0 := Keep.refl h0 []
  refine own_cast (g' := (mkF m 0 #[.val (.ref a1)] [])) (by first | (simp [entryFrame, mkF, argsToLocals, Value.category]; done) | rfl) ?_
  refine own_st (T' := T0) (g' := (mkF m 1 #[.val (.ref a1)] [(.ref a1)])) (fun t9 k9 => XS.aloadN X0.here hx rfl (hb hby d6_0) rfl rfl k9) ?_
  obtain ⟨T1, X1, e1, st1⟩ := initO X0 hx hZ hown (hw _ (List.mem_of_getElem? (i := 39) rfl)) (hw _ (List.mem_of_getElem? (i := 8) rfl)) (hw _ (List.mem_of_getElem? (i := 9) rfl)) e0 (g := (mkF m 1 #[.val (.ref a1)] [(.ref a1)])) rfl (by rw [hml]; rfl) rfl (hb hby d6_1) (by decide) (W := 0) (by show 2 * 0 + _ ≤ _; exact Nat.le_of_eq rfl) (by decide)
  refine own_st (T' := T1) (g' := (mkF m 4 #[.val (.ref a1)] [])) (fun t9 k9 => st1 t9 k9) ?_
  refine own_ret (v := none) hF X1 (fun _ => rfl) hlk (fun fs hr => X1.returnOut hx hret (hb hby d6_4) hr) ?_ (by decide) (by decide)
  try rw [e1]
  exact ⟨rfl, N0, rfl⟩
theorem d5_0 : decode jdk_35_method_26_code 0 = .ok (.aload_n 0, 1) := by decide +kernel
theorem d5_1 : decode jdk_35_method_26_code 1 = .ok (.invokespecial 270, 3) := by decide +kernel
theorem d5_4 : decode jdk_35_method_26_code 4 = .ok (.aload_n 0, 1) := by decide +kernel
theorem d5_5 : decode jdk_35_method_26_code 5 = .ok (.lload_n 1, 1) := by decide +kernel
theorem d5_6 : decode jdk_35_method_26_code 6 = .ok (.putfield 273, 3) := by decide +kernel
theorem d5_9 : decode jdk_35_method_26_code 9 = .ok (.return_, 1) := by decide +kernel
theorem pn_5 : plainFor (⟨"java/lang/Long", "<init>", "(J)V"⟩ : MethodName) = true := plainFor_of_name (by first | (simp [plainName, overriddenIn]; done) | decide +kernel)
set_option maxRecDepth 65536 in
set_option maxHeartbeats 40000000 in
theorem rm5 (l : Launch) (Z : State) (a0 : Array Value) (hw : ∀ d ∈ tables_1, d.before a0 Z = true) (a1 : Addr) (q : Int64) (u : Value) (h0 : Heap) (n0 : Nat) (Z0 : n0 ≤ h0.size) (E1 : Exa Z h0 a1 "java/lang/Long") (F1 : Fld Z h0 a1 "java/lang/Long" "value" "J" u) (g_a1 : n0 ≤ a1) :
    own_Met l Z (⟨"java/lang/Long", "<init>", "(J)V"⟩ : MethodName) jdk_35_method_26_code 3 none ({ frames := 2, cells := 0, slots := 0, locals := 24 } : Room) #[(.ref a1), (.long q)] h0 (fun v h L => v = none ∧ Fr n0 L ∧ Keep h0 h [a1] ∧ Exa Z h a1 "java/lang/Long") := by
  refine own_body pn_5 ?_
  intro p e s m below meth c T0 hZ hx hby hml hown hnm hret hlk X0 e0 F hF
  have N0 := Fr.nil n0
  have K0 := Keep.refl h0 [a1]
  refine own_cast (g' := (mkF m 0 #[.val (.ref a1), .val (.long q), .second] [])) (by first | (simp [entryFrame, mkF, argsToLocals, Value.category]; done) | rfl) ?_
  refine own_st (T' := T0) (g' := (mkF m 1 #[.val (.ref a1), .val (.long q), .second] [(.ref a1)])) (fun t9 k9 => XS.aloadN X0.here hx rfl (hb hby d5_0) rfl rfl k9) ?_
  obtain ⟨_, _, ⟨T1, L1, k1, n1⟩, -, X1, ⟨Lc1, hQ1, l1, y1, z1⟩, st1⟩ := X0.specialBack hx (y := (⟨"java/lang/Number", "<init>", "()V"⟩ : MethodName)) rfl hown (mvT hZ (hw _ (List.mem_of_getElem? (i := 33) rfl))) (mvT hZ (hw _ (List.mem_of_getElem? (i := 34) rfl))) (mvT hZ (hw _ (List.mem_of_getElem? (i := 38) rfl))) (by decide) (own_back (W := 0) (rm6 l Z a0 hw a1 h0 n0 Z0) hZ (hw _ (List.mem_of_getElem? (i := 38) rfl)) (hw _ (List.mem_of_getElem? (i := 37) rfl)) (by decide) (by decide)) (g := (mkF m 1 #[.val (.ref a1), .val (.long q), .second] [(.ref a1)])) rfl (by rw [hml]; rfl) (Steps.refl _) (a := a1) (argsL := []) (rest := []) (lenOf pd_1 rfl) rfl (by show 2 * 0 + _ ≤ _; exact Nat.le_of_eq rfl) (hb hby d5_1) (fun _ _ => ⟨rfl, e0, (Nat.le_of_ble_eq_true rfl), (Nat.le_of_ble_eq_true rfl)⟩)
  dsimp only [Pt.U, Pt.locs, Pt.cells, Pt.slots] at X1 l1 y1 z1 st1 hQ1
  subst l1 y1 z1
  obtain ⟨rfl, Nq1, he1⟩ := hQ1
  have N1 := Fr.app N0 Nq1
  have e1 : T1.heap = h0 := he1
  refine own_st (T' := T1) (g' := (mkF m 4 #[.val (.ref a1), .val (.long q), .second] [])) (fun t9 k9 => st1.trans k9) ?_
  refine own_st (T' := T1) (g' := (mkF m 5 #[.val (.ref a1), .val (.long q), .second] [(.ref a1)])) (fun t9 k9 => XS.aloadN X1.here hx rfl (hb hby d5_4) rfl rfl k9) ?_
  refine own_st (T' := T1) (g' := (mkF m 6 #[.val (.ref a1), .val (.long q), .second] [(.long q), (.ref a1)])) (fun t9 k9 => XS.lloadN X1.here hx rfl (hb hby d5_5) rfl k9) ?_
  obtain ⟨T2, h2, X2, e2, W2, st2⟩ := putF X1 hx hZ hown (host := "") (Or.inl (hw _ (List.mem_of_getElem? (i := 40) rfl))) Via.refl e1 F1 E1 (Or.inr ⟨(hw _ (List.mem_of_getElem? (i := 41) rfl)), rfl, hnm⟩) (hw _ (List.mem_of_getElem? (i := 28) rfl)) (ty := .long) (by decide) rfl rfl (g := (mkF m 6 #[.val (.ref a1), .val (.long q), .second] [(.long q), (.ref a1)])) rfl rfl (hb hby d5_6)
  have Fw2 := F1.same W2
  have E1_3 := E1.wr W2
  have K2 := K0.wr W2 (Or.inl (by simp))
  have N2 := Fr.snoc X2 N1 g_a1
  have Z2 : n0 ≤ h2.size := by rw [W2.size]; exact Z0
  refine own_st (T' := T2) (g' := (mkF m 9 #[.val (.ref a1), .val (.long q), .second] [])) (fun t9 k9 => st2 t9 k9) ?_
  refine own_ret (v := none) hF X2 (fun _ => rfl) hlk (fun fs hr => X2.returnOut hx hret (hb hby d5_9) hr) ?_ (by decide) (by decide)
  try rw [e2]
  exact ⟨rfl, N2, K2, E1_3⟩
theorem d4_0 : decode jdk_35_method_24_code 0 = .ok (.sipush 128, 3) := by decide +kernel
theorem d4_3 : decode jdk_35_method_24_code 3 = .ok (.istore_n 2, 1) := by decide +kernel
theorem d4_4 : decode jdk_35_method_24_code 4 = .ok (.lload_n 0, 1) := by decide +kernel
theorem d4_5 : decode jdk_35_method_24_code 5 = .ok (.ldc2_w 230, 3) := by decide +kernel
theorem d4_8 : decode jdk_35_method_24_code 8 = .ok (.lcmp, 1) := by decide +kernel
theorem d4_9 : decode jdk_35_method_24_code 9 = .ok (.ifCond .lt 22, 3) := by decide +kernel
theorem d4_12 : decode jdk_35_method_24_code 12 = .ok (.lload_n 0, 1) := by decide +kernel
theorem d4_13 : decode jdk_35_method_24_code 13 = .ok (.ldc2_w 232, 3) := by decide +kernel
theorem d4_16 : decode jdk_35_method_24_code 16 = .ok (.lcmp, 1) := by decide +kernel
theorem d4_17 : decode jdk_35_method_24_code 17 = .ok (.ifCond .gt 14, 3) := by decide +kernel
theorem d4_20 : decode jdk_35_method_24_code 20 = .ok (.getstatic 234, 3) := by decide +kernel
theorem d4_23 : decode jdk_35_method_24_code 23 = .ok (.lload_n 0, 1) := by decide +kernel
theorem d4_24 : decode jdk_35_method_24_code 24 = .ok (.l2i, 1) := by decide +kernel
theorem d4_25 : decode jdk_35_method_24_code 25 = .ok (.sipush 128, 3) := by decide +kernel
theorem d4_28 : decode jdk_35_method_24_code 28 = .ok (.iadd, 1) := by decide +kernel
theorem d4_29 : decode jdk_35_method_24_code 29 = .ok (.aaload, 1) := by decide +kernel
theorem d4_30 : decode jdk_35_method_24_code 30 = .ok (.areturn, 1) := by decide +kernel
theorem d4_31 : decode jdk_35_method_24_code 31 = .ok (.new 1, 3) := by decide +kernel
theorem d4_34 : decode jdk_35_method_24_code 34 = .ok (.dup, 1) := by decide +kernel
theorem d4_35 : decode jdk_35_method_24_code 35 = .ok (.lload_n 0, 1) := by decide +kernel
theorem d4_36 : decode jdk_35_method_24_code 36 = .ok (.invokespecial 240, 3) := by decide +kernel
theorem d4_39 : decode jdk_35_method_24_code 39 = .ok (.areturn, 1) := by decide +kernel
theorem pn_4 : plainFor (⟨"java/lang/Long", "valueOf", "(J)Ljava/lang/Long;"⟩ : MethodName) = true := plainFor_of_name (by first | (simp [plainName, overriddenIn]; done) | decide +kernel)
set_option maxRecDepth 65536 in
set_option maxHeartbeats 40000000 in
theorem rm4 (l : Launch) (Z : State) (a0 : Array Value) (hw : ∀ d ∈ tables_1, d.before a0 Z = true) (q : Int64) (cc : Addr) (cl : Cell) (h0 : Heap) (n0 : Nat) (Z0 : n0 ≤ h0.size) (O0 : Old Z n0 h0) (S1 : Sta Z h0 "java/lang/Long$LongCache" "cache" "[Ljava/lang/Long;" (.ref cc)) (B1 : Bxs Z cc cl "java/lang/Long" "J" (256 : Int32) (fun j : Int32 => Value.long (j - (128 : Int32)).toInt64)) (hq : ¬ q < (0 : Int64)) :
    own_Met l Z (⟨"java/lang/Long", "valueOf", "(J)Ljava/lang/Long;"⟩ : MethodName) jdk_35_method_24_code 3 (some (.object "java/lang/Long")) ({ frames := 3, cells := 1, slots := 1, locals := 39 } : Room) #[(.long q)] h0 (fun v h L => ∃ b, v = some (.ref b) ∧ Fr n0 L ∧ Keep h0 h [] ∧ Exa Z h b "java/lang/Long") := by
  refine own_body pn_4 ?_
  intro p e s m below meth c T0 hZ hx hby hml hown hnm hret hlk X0 e0 F hF
  have N0 := Fr.nil n0
  have K0 := Keep.refl h0 []
  refine own_cast (g' := (mkF m 0 #[.val (.long q), .second, .unset] [])) (by first | (simp [entryFrame, mkF, argsToLocals, Value.category]; done) | rfl) ?_
  have hq' : ¬ q < (-128 : Int64) := fun e => hq (Int64.lt_trans e (by decide))
  refine own_st (T' := T0) (g' := (mkF m 3 #[.val (.long q), .second, .unset] [(.int (128 : Int32))])) (fun t9 k9 => XS.sipush X0.here hx rfl (hb hby d4_0) k9) ?_
  refine own_st (T' := T0) (g' := (mkF m 4 #[.val (.long q), .second, .val (.int (128 : Int32))] [])) (fun t9 k9 => XS.istoreN X0.here hx rfl (hb hby d4_3) rfl (l' := #[.val (.long q), .second, .val (.int (128 : Int32))]) rfl k9) ?_
  refine own_st (T' := T0) (g' := (mkF m 5 #[.val (.long q), .second, .val (.int (128 : Int32))] [(.long q)])) (fun t9 k9 => XS.lloadN X0.here hx rfl (hb hby d4_4) rfl k9) ?_
  refine own_st (T' := T0) (g' := (mkF m 8 #[.val (.long q), .second, .val (.int (128 : Int32))] [(.long (-128 : Int64)), (.long q)])) (fun t9 k9 => X0.ldc2Long hx hown (mvT hZ (hw _ (List.mem_of_getElem? (i := 25) rfl))) (g := (mkF m 5 #[.val (.long q), .second, .val (.int (128 : Int32))] [(.long q)])) rfl (hb hby d4_5) t9 k9) ?_
  refine own_st (T' := T0) (g' := (mkF m 9 #[.val (.long q), .second, .val (.int (128 : Int32))] [(.int (lcmpW q (-128 : Int64)))])) (fun t9 k9 => XS.lcmp X0.here hx rfl (hb hby d4_8) rfl k9) ?_
  refine own_st (T' := T0) (g' := (mkF m 12 #[.val (.long q), .second, .val (.int (128 : Int32))] [])) (fun t9 k9 => XS.ifNo X0.here hx rfl (hb hby d4_9) rfl ((if0 _ _).trans (flt (fun q => hq' ((lw_lt _ _).mp q) : ¬ ((lcmpW q (-128 : Int64)) < (0 : Int32)))).1) k9) ?_
  refine own_st (T' := T0) (g' := (mkF m 13 #[.val (.long q), .second, .val (.int (128 : Int32))] [(.long q)])) (fun t9 k9 => XS.lloadN X0.here hx rfl (hb hby d4_12) rfl k9) ?_
  refine own_st (T' := T0) (g' := (mkF m 16 #[.val (.long q), .second, .val (.int (128 : Int32))] [(.long (127 : Int64)), (.long q)])) (fun t9 k9 => X0.ldc2Long hx hown (mvT hZ (hw _ (List.mem_of_getElem? (i := 26) rfl))) (g := (mkF m 13 #[.val (.long q), .second, .val (.int (128 : Int32))] [(.long q)])) rfl (hb hby d4_13) t9 k9) ?_
  refine own_st (T' := T0) (g' := (mkF m 17 #[.val (.long q), .second, .val (.int (128 : Int32))] [(.int (lcmpW q (127 : Int64)))])) (fun t9 k9 => XS.lcmp X0.here hx rfl (hb hby d4_16) rfl k9) ?_
  by_cases h2 : (127 : Int64) < q
  · refine own_st (T' := T0) (g' := (mkF m 31 #[.val (.long q), .second, .val (.int (128 : Int32))] [])) (fun t9 k9 => XS.ifYes X0.here hx rfl (pc0 := 17) (pc' := 31) rfl (hb hby d4_17) rfl ((if0 _ _).trans (tlt ((lw_gt _ _).mpr h2 : (0 : Int32) < (lcmpW q (127 : Int64)))).2.2.1) (by decide) (by decide) k9) ?_
    obtain ⟨T1, h1, X1, e1, Ex1, A1, D1, -, st1⟩ := newO X0 hx hZ hown (hw _ (List.mem_of_getElem? (i := 27) rfl)) (hw _ (List.mem_of_getElem? (i := 28) rfl)) (hw _ (List.mem_of_getElem? (i := 23) rfl)) e0 (g := (mkF m 31 #[.val (.long q), .second, .val (.int (128 : Int32))] [])) rfl (hb hby d4_31) (by decide) (by decide)
    obtain ⟨b1, gb1⟩ : ∃ z, z = h0.size := ⟨_, rfl⟩
    have g_b1 : n0 ≤ b1 := gb1 ▸ Z0
    have sz_b1 : h0.size ≤ b1 := gb1 ▸ K0.1
    rw [← gb1] at A1 D1 st1
    have S1_2 := S1.ext Ex1
    have K1 := K0.ext Ex1
    have Z1 : n0 ≤ h1.size := Nat.le_trans Z0 Ex1.1
    have O1 := O0.ext Ex1
    have F_value_b1 : Fld Z h1 b1 "java/lang/Long" "value" "J" (.long (0 : Int64)) := D1 (Or.inr (hw _ (List.mem_of_getElem? (i := 41) rfl))) (ty := .long) (by decide)
    refine own_st (T' := T1) (g' := (mkF m 34 #[.val (.long q), .second, .val (.int (128 : Int32))] [(.ref b1)])) (fun t9 k9 => st1 t9 k9) ?_
    refine own_st (T' := T1) (g' := (mkF m 35 #[.val (.long q), .second, .val (.int (128 : Int32))] [(.ref b1), (.ref b1)])) (fun t9 k9 => XS.dup X1.here hx rfl (hb hby d4_34) rfl rfl k9) ?_
    refine own_st (T' := T1) (g' := (mkF m 36 #[.val (.long q), .second, .val (.int (128 : Int32))] [(.long q), (.ref b1), (.ref b1)])) (fun t9 k9 => XS.lloadN X1.here hx rfl (hb hby d4_35) rfl k9) ?_
    obtain ⟨_, _, ⟨T3, L3, k3, n3⟩, -, X3, ⟨Lc3, hQ3, l3, y3, z3⟩, st3⟩ := X1.specialBack hx (y := (⟨"java/lang/Long", "<init>", "(J)V"⟩ : MethodName)) rfl hown (mvT hZ (hw _ (List.mem_of_getElem? (i := 29) rfl))) (mvT hZ (hw _ (List.mem_of_getElem? (i := 30) rfl))) (mvT hZ (hw _ (List.mem_of_getElem? (i := 32) rfl))) (by decide) (own_back (W := 1) (rm5 l Z a0 hw b1 q (.long 0) h1 n0 Z1 A1 F_value_b1 g_b1) hZ (hw _ (List.mem_of_getElem? (i := 32) rfl)) (hw _ (List.mem_of_getElem? (i := 23) rfl)) (by decide) (by decide)) (g := (mkF m 36 #[.val (.long q), .second, .val (.int (128 : Int32))] [(.long q), (.ref b1), (.ref b1)])) rfl (by rw [hml]; rfl) (Steps.refl _) (a := b1) (argsL := [(.long q)]) (rest := [(.ref b1)]) (lenOf pd_4 rfl) rfl (by show 2 * 0 + _ ≤ _; exact Nat.le_of_eq rfl) (hb hby d4_36) (fun _ _ => ⟨rfl, e1, (Nat.le_of_ble_eq_true rfl), (Nat.le_of_ble_eq_true rfl)⟩)
    dsimp only [Pt.U, Pt.locs, Pt.cells, Pt.slots] at X3 l3 y3 z3 st3 hQ3
    subst l3 y3 z3
    obtain ⟨rfl, Nq3, Kq3, Eq3⟩ := hQ3
    have N3 := Fr.app N0 Nq3
    obtain ⟨h3, e3⟩ : ∃ z, T3.heap = z := ⟨_, rfl⟩
    rw [e3] at Kq3 Eq3
    have A1_4 := A1.keep Kq3
    have K3 := K1.trans Kq3 (allS (Or.inr sz_b1) all0)
    have Z3 : n0 ≤ h3.size := Nat.le_trans Z1 Kq3.1
    have O3 := O1.keep Kq3 (allS g_b1 all0)
    refine own_st (T' := T3) (g' := (mkF m 39 #[.val (.long q), .second, .val (.int (128 : Int32))] [(.ref b1)])) (fun t9 k9 => st3.trans k9) ?_
    refine own_ret (v := some (.ref b1)) hF X3 (own_some hret) hlk (fun fs hr => own_retA X3 hx hret rfl rfl (hb hby d4_39) hr) ?_ (by decide) (by decide)
    try rw [e3]
    exact ⟨_, rfl, N3, K3, A1_4⟩
  · refine own_st (T' := T0) (g' := (mkF m 20 #[.val (.long q), .second, .val (.int (128 : Int32))] [])) (fun t9 k9 => XS.ifNo X0.here hx rfl (hb hby d4_17) rfl ((if0 _ _).trans (flt (fun q => h2 ((lw_gt _ _).mp q) : ¬ ((0 : Int32) < (lcmpW q (127 : Int64))))).2.2.1) k9) ?_
    obtain ⟨T5, X5, e5, st5⟩ := getS2 X0 hx hZ hown (host := "") (Or.inl (hw _ (List.mem_of_getElem? (i := 45) rfl))) Via.refl e0 S1 (g := (mkF m 20 #[.val (.long q), .second, .val (.int (128 : Int32))] [])) rfl (hb hby d4_20)
    refine own_st (T' := T5) (g' := (mkF m 23 #[.val (.long q), .second, .val (.int (128 : Int32))] [(.ref cc)])) (fun t9 k9 => st5 t9 k9) ?_
    refine own_st (T' := T5) (g' := (mkF m 24 #[.val (.long q), .second, .val (.int (128 : Int32))] [(.long q), (.ref cc)])) (fun t9 k9 => XS.lloadN X5.here hx rfl (hb hby d4_23) rfl k9) ?_
    refine own_st (T' := T5) (g' := (mkF m 25 #[.val (.long q), .second, .val (.int (128 : Int32))] [(.int (q.toInt32)), (.ref cc)])) (fun t9 k9 => XS.l2i X5.here hx rfl (hb hby d4_24) rfl k9) ?_
    refine own_st (T' := T5) (g' := (mkF m 28 #[.val (.long q), .second, .val (.int (128 : Int32))] [(.int (128 : Int32)), (.int (q.toInt32)), (.ref cc)])) (fun t9 k9 => XS.sipush X5.here hx rfl (hb hby d4_25) k9) ?_
    refine own_st (T' := T5) (g' := (mkF m 29 #[.val (.long q), .second, .val (.int (128 : Int32))] [(.int ((q.toInt32) + (128 : Int32))), (.ref cc)])) (fun t9 k9 => XS.iadd X5.here hx rfl (hb hby d4_28) rfl k9) ?_
    have hin := own_place q hq h2 (c := cl) B1.2.1
    obtain ⟨bx, hat, Eb, -⟩ := B1.2.2.2 _ hin
    have Ar := (B1.ext O0.2).1
    refine own_st (T' := T5) (g' := (mkF m 30 #[.val (.long q), .second, .val (.int (128 : Int32))] [(.ref bx)])) (fun t9 k9 => X5.aaload hx (j := ((q.toInt32) + (128 : Int32))) (v := (.ref bx)) (by rw [e5]; exact Ar.1) (State.isArrayOf_alike hZ.alike Ar.2.1) rfl Ar.2.2 hin hat (g := (mkF m 29 #[.val (.long q), .second, .val (.int (128 : Int32))] [(.int ((q.toInt32) + (128 : Int32))), (.ref cc)])) rfl rfl (hb hby d4_29) t9 k9) ?_
    refine own_ret (v := some (.ref bx)) hF X5 (own_some hret) hlk (fun fs hr => own_retA X5 hx hret rfl rfl (hb hby d4_30) hr) ?_ (by decide) (by decide)
    try rw [e5]
    exact ⟨_, rfl, N0, K0, Eb.ext O0.2⟩
theorem d1_0 : decode prog_68_method_1_code 0 = .ok (.aload_n 0, 1) := by decide +kernel
theorem d1_1 : decode prog_68_method_1_code 1 = .ok (.invokespecial 1, 3) := by decide +kernel
theorem d1_4 : decode prog_68_method_1_code 4 = .ok (.lload_n 1, 1) := by decide +kernel
theorem d1_5 : decode prog_68_method_1_code 5 = .ok (.lconst 0, 1) := by decide +kernel
theorem d1_6 : decode prog_68_method_1_code 6 = .ok (.lcmp, 1) := by decide +kernel
theorem d1_7 : decode prog_68_method_1_code 7 = .ok (.ifCond .ge 17, 3) := by decide +kernel
theorem d1_10 : decode prog_68_method_1_code 10 = .ok (.new 7, 3) := by decide +kernel
theorem d1_13 : decode prog_68_method_1_code 13 = .ok (.dup, 1) := by decide +kernel
theorem d1_14 : decode prog_68_method_1_code 14 = .ok (.lload_n 1, 1) := by decide +kernel
theorem d1_20 : decode prog_68_method_1_code 20 = .ok (.invokespecial 13, 3) := by decide +kernel
theorem d1_23 : decode prog_68_method_1_code 23 = .ok (.athrow, 1) := by decide +kernel
theorem d1_24 : decode prog_68_method_1_code 24 = .ok (.iload_n 3, 1) := by decide +kernel
theorem d1_25 : decode prog_68_method_1_code 25 = .ok (.ifCond .lt 10, 3) := by decide +kernel
theorem d1_28 : decode prog_68_method_1_code 28 = .ok (.iload_n 3, 1) := by decide +kernel
theorem d1_29 : decode prog_68_method_1_code 29 = .ok (.sipush 32767, 3) := by decide +kernel
theorem d1_32 : decode prog_68_method_1_code 32 = .ok (.if_icmp .le 17, 3) := by decide +kernel
theorem d1_35 : decode prog_68_method_1_code 35 = .ok (.new 7, 3) := by decide +kernel
theorem d1_38 : decode prog_68_method_1_code 38 = .ok (.dup, 1) := by decide +kernel
theorem d1_39 : decode prog_68_method_1_code 39 = .ok (.iload_n 3, 1) := by decide +kernel
theorem d1_45 : decode prog_68_method_1_code 45 = .ok (.invokespecial 13, 3) := by decide +kernel
theorem d1_48 : decode prog_68_method_1_code 48 = .ok (.athrow, 1) := by decide +kernel
theorem d1_49 : decode prog_68_method_1_code 49 = .ok (.aload_n 0, 1) := by decide +kernel
theorem d1_50 : decode prog_68_method_1_code 50 = .ok (.lload_n 1, 1) := by decide +kernel
theorem d1_51 : decode prog_68_method_1_code 51 = .ok (.putfield 21, 3) := by decide +kernel
theorem d1_54 : decode prog_68_method_1_code 54 = .ok (.aload_n 0, 1) := by decide +kernel
theorem d1_55 : decode prog_68_method_1_code 55 = .ok (.iload_n 3, 1) := by decide +kernel
theorem d1_56 : decode prog_68_method_1_code 56 = .ok (.putfield 25, 3) := by decide +kernel
theorem d1_59 : decode prog_68_method_1_code 59 = .ok (.return_, 1) := by decide +kernel
theorem pn_1 : plainFor (⟨"com/example/kolejka/kolejka/store/MessageId", "<init>", "(JI)V"⟩ : MethodName) = true := plainFor_of_name (by first | (simp [plainName, overriddenIn]; done) | decide +kernel)
set_option maxRecDepth 65536 in
set_option maxHeartbeats 40000000 in
theorem rm1 (l : Launch) (Z : State) (a0 : Array Value) (hw : ∀ d ∈ tables_1, d.before a0 Z = true) (a1 : Addr) (q : Int64) (ps : Int32) (u1 u2 : Value) (h0 : Heap) (n0 : Nat) (Z0 : n0 ≤ h0.size) (E1 : Exa Z h0 a1 "com/example/kolejka/kolejka/store/MessageId") (F1 : Fld Z h0 a1 "com/example/kolejka/kolejka/store/MessageId" "timestamp" "J" u1) (F2 : Fld Z h0 a1 "com/example/kolejka/kolejka/store/MessageId" "sequence" "I" u2) (g_a1 : n0 ≤ a1) (h1 : ¬ q < (0 : Int64)) (h2 : ¬ ps < (0 : Int32)) (h3 : ¬ (32767 : Int32) < ps) :
    own_Met l Z (⟨"com/example/kolejka/kolejka/store/MessageId", "<init>", "(JI)V"⟩ : MethodName) prog_68_method_1_code 4 none ({ frames := 1, cells := 0, slots := 0, locals := 12 } : Room) #[(.ref a1), (.long q), (.int ps)] h0 (fun v h L => v = none ∧ Fr n0 L ∧ Keep h0 h [a1] ∧ Exa Z h a1 "com/example/kolejka/kolejka/store/MessageId" ∧ Fld Z h a1 "com/example/kolejka/kolejka/store/MessageId" "timestamp" "J" (.long q) ∧ Fld Z h a1 "com/example/kolejka/kolejka/store/MessageId" "sequence" "I" (.int ps)) := by
  refine own_body pn_1 ?_
  intro p e s m below meth c T0 hZ hx hby hml hown hnm hret hlk X0 e0 F hF
  have N0 := Fr.nil n0
  have K0 := Keep.refl h0 [a1]
  refine own_cast (g' := (mkF m 0 #[.val (.ref a1), .val (.long q), .second, .val (.int ps)] [])) (by first | (simp [entryFrame, mkF, argsToLocals, Value.category]; done) | rfl) ?_
  refine own_st (T' := T0) (g' := (mkF m 1 #[.val (.ref a1), .val (.long q), .second, .val (.int ps)] [(.ref a1)])) (fun t9 k9 => XS.aloadN X0.here hx rfl (hb hby d1_0) rfl rfl k9) ?_
  obtain ⟨T1, X1, e1, st1⟩ := initO X0 hx hZ hown (hw _ (List.mem_of_getElem? (i := 7) rfl)) (hw _ (List.mem_of_getElem? (i := 8) rfl)) (hw _ (List.mem_of_getElem? (i := 9) rfl)) e0 (g := (mkF m 1 #[.val (.ref a1), .val (.long q), .second, .val (.int ps)] [(.ref a1)])) rfl (by rw [hml]; rfl) rfl (hb hby d1_1) (by decide) (W := 0) (by show 2 * 0 + _ ≤ _; exact Nat.le_of_eq rfl) (by decide)
  refine own_st (T' := T1) (g' := (mkF m 4 #[.val (.ref a1), .val (.long q), .second, .val (.int ps)] [])) (fun t9 k9 => st1 t9 k9) ?_
  refine own_st (T' := T1) (g' := (mkF m 5 #[.val (.ref a1), .val (.long q), .second, .val (.int ps)] [(.long q)])) (fun t9 k9 => XS.lloadN X1.here hx rfl (hb hby d1_4) rfl k9) ?_
  refine own_st (T' := T1) (g' := (mkF m 6 #[.val (.ref a1), .val (.long q), .second, .val (.int ps)] [(.long (0 : Int64)), (.long q)])) (fun t9 k9 => XS.lconst X1.here hx rfl (hb hby d1_5) k9) ?_
  refine own_st (T' := T1) (g' := (mkF m 7 #[.val (.ref a1), .val (.long q), .second, .val (.int ps)] [(.int (lcmpW q (0 : Int64)))])) (fun t9 k9 => XS.lcmp X1.here hx rfl (hb hby d1_6) rfl k9) ?_
  refine own_st (T' := T1) (g' := (mkF m 24 #[.val (.ref a1), .val (.long q), .second, .val (.int ps)] [])) (fun t9 k9 => XS.ifYes X1.here hx rfl (pc0 := 7) (pc' := 24) rfl (hb hby d1_7) rfl ((if0 _ _).trans (flt (fun q => h1 ((lw_lt _ _).mp q) : ¬ ((lcmpW q (0 : Int64)) < (0 : Int32)))).2.1) (by decide) (by decide) k9) ?_
  refine own_st (T' := T1) (g' := (mkF m 25 #[.val (.ref a1), .val (.long q), .second, .val (.int ps)] [(.int ps)])) (fun t9 k9 => XS.iloadN X1.here hx rfl (hb hby d1_24) rfl k9) ?_
  refine own_st (T' := T1) (g' := (mkF m 28 #[.val (.ref a1), .val (.long q), .second, .val (.int ps)] [])) (fun t9 k9 => XS.ifNo X1.here hx rfl (hb hby d1_25) rfl ((if0 _ _).trans (flt h2).1) k9) ?_
  refine own_st (T' := T1) (g' := (mkF m 29 #[.val (.ref a1), .val (.long q), .second, .val (.int ps)] [(.int ps)])) (fun t9 k9 => XS.iloadN X1.here hx rfl (hb hby d1_28) rfl k9) ?_
  refine own_st (T' := T1) (g' := (mkF m 32 #[.val (.ref a1), .val (.long q), .second, .val (.int ps)] [(.int (32767 : Int32)), (.int ps)])) (fun t9 k9 => XS.sipush X1.here hx rfl (hb hby d1_29) k9) ?_
  refine own_st (T' := T1) (g' := (mkF m 49 #[.val (.ref a1), .val (.long q), .second, .val (.int ps)] [])) (fun t9 k9 => XS.icmpYes X1.here hx rfl (pc0 := 32) (pc' := 49) rfl (hb hby d1_32) rfl (flt h3).2.2.2 (by decide) (by decide) k9) ?_
  refine own_st (T' := T1) (g' := (mkF m 50 #[.val (.ref a1), .val (.long q), .second, .val (.int ps)] [(.ref a1)])) (fun t9 k9 => XS.aloadN X1.here hx rfl (hb hby d1_49) rfl rfl k9) ?_
  refine own_st (T' := T1) (g' := (mkF m 51 #[.val (.ref a1), .val (.long q), .second, .val (.int ps)] [(.long q), (.ref a1)])) (fun t9 k9 => XS.lloadN X1.here hx rfl (hb hby d1_50) rfl k9) ?_
  obtain ⟨T2, h2, X2, e2, W2, st2⟩ := putF X1 hx hZ hown (host := "") (Or.inl (hw _ (List.mem_of_getElem? (i := 10) rfl))) Via.refl e1 F1 E1 (Or.inr ⟨(hw _ (List.mem_of_getElem? (i := 11) rfl)), rfl, hnm⟩) (hw _ (List.mem_of_getElem? (i := 2) rfl)) (ty := .long) (by decide) rfl rfl (g := (mkF m 51 #[.val (.ref a1), .val (.long q), .second, .val (.int ps)] [(.long q), (.ref a1)])) rfl rfl (hb hby d1_51)
  have Fw2 := F1.same W2
  have E1_3 := E1.wr W2
  have F2_4 := F2.other W2 (Or.inr (slot_ne (Or.inr (hw _ (List.mem_of_getElem? (i := 13) rfl))) (Or.inr (hw _ (List.mem_of_getElem? (i := 11) rfl))) (by decide) (t := .int) (t' := .long) (by decide) (by decide)))
  have K2 := K0.wr W2 (Or.inl (by simp))
  have N2 := Fr.snoc X2 N0 g_a1
  have Z2 : n0 ≤ h2.size := by rw [W2.size]; exact Z0
  refine own_st (T' := T2) (g' := (mkF m 54 #[.val (.ref a1), .val (.long q), .second, .val (.int ps)] [])) (fun t9 k9 => st2 t9 k9) ?_
  refine own_st (T' := T2) (g' := (mkF m 55 #[.val (.ref a1), .val (.long q), .second, .val (.int ps)] [(.ref a1)])) (fun t9 k9 => XS.aloadN X2.here hx rfl (hb hby d1_54) rfl rfl k9) ?_
  refine own_st (T' := T2) (g' := (mkF m 56 #[.val (.ref a1), .val (.long q), .second, .val (.int ps)] [(.int ps), (.ref a1)])) (fun t9 k9 => XS.iloadN X2.here hx rfl (hb hby d1_55) rfl k9) ?_
  obtain ⟨T5, h5, X5, e5, W5, st5⟩ := putF X2 hx hZ hown (host := "") (Or.inl (hw _ (List.mem_of_getElem? (i := 12) rfl))) Via.refl e2 F2_4 E1_3 (Or.inr ⟨(hw _ (List.mem_of_getElem? (i := 13) rfl)), rfl, hnm⟩) (hw _ (List.mem_of_getElem? (i := 2) rfl)) (ty := .int) (by decide) rfl rfl (g := (mkF m 56 #[.val (.ref a1), .val (.long q), .second, .val (.int ps)] [(.int ps), (.ref a1)])) rfl rfl (hb hby d1_56)
  have Fw5 := F2_4.same W5
  have E1_6 := E1_3.wr W5
  have Fw2_7 := Fw2.other W5 (Or.inr (slot_ne (Or.inr (hw _ (List.mem_of_getElem? (i := 11) rfl))) (Or.inr (hw _ (List.mem_of_getElem? (i := 13) rfl))) (by decide) (t := .long) (t' := .int) (by decide) (by decide)))
  have K5 := K2.wr W5 (Or.inl (by simp))
  have N5 := Fr.snoc X5 N2 g_a1
  have Z5 : n0 ≤ h5.size := by rw [W5.size]; exact Z2
  refine own_st (T' := T5) (g' := (mkF m 59 #[.val (.ref a1), .val (.long q), .second, .val (.int ps)] [])) (fun t9 k9 => st5 t9 k9) ?_
  refine own_ret (v := none) hF X5 (fun _ => rfl) hlk (fun fs hr => X5.returnOut hx hret (hb hby d1_59) hr) ?_ (by decide) (by decide)
  try rw [e5]
  exact ⟨rfl, N5, K5, E1_6, Fw2_7, Fw5⟩
theorem d3_0 : decode prog_68_method_11_code 0 = .ok (.aload_n 1, 1) := by decide +kernel
theorem d3_1 : decode prog_68_method_11_code 1 = .ok (.instanceof 16, 3) := by decide +kernel
theorem d3_4 : decode prog_68_method_11_code 4 = .ok (.ifCond .eq 35, 3) := by decide +kernel
theorem d3_7 : decode prog_68_method_11_code 7 = .ok (.aload_n 1, 1) := by decide +kernel
theorem d3_8 : decode prog_68_method_11_code 8 = .ok (.checkcast 16, 3) := by decide +kernel
theorem d3_11 : decode prog_68_method_11_code 11 = .ok (.astore_n 2, 1) := by decide +kernel
theorem d3_12 : decode prog_68_method_11_code 12 = .ok (.aload_n 2, 1) := by decide +kernel
theorem d3_13 : decode prog_68_method_11_code 13 = .ok (.getfield 21, 3) := by decide +kernel
theorem d3_16 : decode prog_68_method_11_code 16 = .ok (.aload_n 0, 1) := by decide +kernel
theorem d3_17 : decode prog_68_method_11_code 17 = .ok (.getfield 21, 3) := by decide +kernel
theorem d3_20 : decode prog_68_method_11_code 20 = .ok (.lcmp, 1) := by decide +kernel
theorem d3_21 : decode prog_68_method_11_code 21 = .ok (.ifCond .ne 18, 3) := by decide +kernel
theorem d3_24 : decode prog_68_method_11_code 24 = .ok (.aload_n 2, 1) := by decide +kernel
theorem d3_25 : decode prog_68_method_11_code 25 = .ok (.getfield 25, 3) := by decide +kernel
theorem d3_28 : decode prog_68_method_11_code 28 = .ok (.aload_n 0, 1) := by decide +kernel
theorem d3_29 : decode prog_68_method_11_code 29 = .ok (.getfield 25, 3) := by decide +kernel
theorem d3_32 : decode prog_68_method_11_code 32 = .ok (.if_icmp .ne 7, 3) := by decide +kernel
theorem d3_35 : decode prog_68_method_11_code 35 = .ok (.iconst 1, 1) := by decide +kernel
theorem d3_36 : decode prog_68_method_11_code 36 = .ok (.goto 4, 3) := by decide +kernel
theorem d3_39 : decode prog_68_method_11_code 39 = .ok (.iconst 0, 1) := by decide +kernel
theorem d3_40 : decode prog_68_method_11_code 40 = .ok (.ireturn, 1) := by decide +kernel
theorem pn_3 : plainFor (⟨"com/example/kolejka/kolejka/store/MessageId", "equals", "(Ljava/lang/Object;)Z"⟩ : MethodName) = true := plainFor_of_name (by first | (simp [plainName, overriddenIn]; done) | decide +kernel)
set_option maxRecDepth 65536 in
set_option maxHeartbeats 40000000 in
theorem rmEm (l : Launch) (Z : State) (a0 : Array Value) (hw : ∀ d ∈ tables_1, d.before a0 Z = true) (a1 a2 : Addr) (t1 t2 : Int64) (s1 s2 : Int32) (h0 : Heap) (n0 : Nat) (Z0 : n0 ≤ h0.size) (E1 : Exa Z h0 a1 "com/example/kolejka/kolejka/store/MessageId") (Ft1 : Fld Z h0 a1 "com/example/kolejka/kolejka/store/MessageId" "timestamp" "J" (.long t1)) (Fs1 : Fld Z h0 a1 "com/example/kolejka/kolejka/store/MessageId" "sequence" "I" (.int s1)) (E2 : Exa Z h0 a2 "com/example/kolejka/kolejka/store/MessageId") (Ft2 : Fld Z h0 a2 "com/example/kolejka/kolejka/store/MessageId" "timestamp" "J" (.long t2)) (Fs2 : Fld Z h0 a2 "com/example/kolejka/kolejka/store/MessageId" "sequence" "I" (.int s2)) :
    own_Met l Z (⟨"com/example/kolejka/kolejka/store/MessageId", "equals", "(Ljava/lang/Object;)Z"⟩ : MethodName) prog_68_method_11_code 3 (some .boolean) ({ frames := 0, cells := 0, slots := 0, locals := 0 } : Room) #[(.ref a1), (.ref a2)] h0 (fun v h L => ∃ z, v = some (.int z) ∧ Fr n0 L ∧ h = h0 ∧ own_B z (t2 = t1 ∧ s2 = s1)) := by
  refine own_body pn_3 ?_
  intro p e s m below meth c T0 hZ hx hby hml hown hnm hret hlk X0 e0 F hF
  have N0 := Fr.nil n0
  have K0 := Keep.refl h0 []
  refine own_cast (g' := (mkF m 0 #[.val (.ref a1), .val (.ref a2), .unset] [])) (by first | (simp [entryFrame, mkF, argsToLocals, Value.category]; done) | rfl) ?_
  refine own_st (T' := T0) (g' := (mkF m 1 #[.val (.ref a1), .val (.ref a2), .unset] [(.ref a2)])) (fun t9 k9 => XS.aloadN X0.here hx rfl (hb hby d3_0) rfl rfl k9) ?_
  obtain ⟨T1, X1, e1, st1⟩ := instY X0 hx hZ hown (hw _ (List.mem_of_getElem? (i := 19) rfl)) e0 (Ins.self E2) (g := (mkF m 1 #[.val (.ref a1), .val (.ref a2), .unset] [(.ref a2)])) rfl rfl (hb hby d3_1)
  refine own_st (T' := T1) (g' := (mkF m 4 #[.val (.ref a1), .val (.ref a2), .unset] [(.int (1 : Int32))])) (fun t9 k9 => st1 t9 k9) ?_
  refine own_st (T' := T1) (g' := (mkF m 7 #[.val (.ref a1), .val (.ref a2), .unset] [])) (fun t9 k9 => XS.ifNo X1.here hx rfl (hb hby d3_4) rfl ((if0 _ _).trans (feq (by decide)).1) k9) ?_
  refine own_st (T' := T1) (g' := (mkF m 8 #[.val (.ref a1), .val (.ref a2), .unset] [(.ref a2)])) (fun t9 k9 => XS.aloadN X1.here hx rfl (hb hby d3_7) rfl rfl k9) ?_
  obtain ⟨T2, X2, e2, st2⟩ := castY X1 hx hZ hown (hw _ (List.mem_of_getElem? (i := 19) rfl)) e1 (Ins.self E2) (g := (mkF m 8 #[.val (.ref a1), .val (.ref a2), .unset] [(.ref a2)])) rfl rfl (hb hby d3_8)
  refine own_st (T' := T2) (g' := (mkF m 11 #[.val (.ref a1), .val (.ref a2), .unset] [(.ref a2)])) (fun t9 k9 => st2 t9 k9) ?_
  refine own_st (T' := T2) (g' := (mkF m 12 #[.val (.ref a1), .val (.ref a2), .val (.ref a2)] [])) (fun t9 k9 => XS.astoreN X2.here hx rfl (hb hby d3_11) rfl rfl (l' := #[.val (.ref a1), .val (.ref a2), .val (.ref a2)]) rfl k9) ?_
  refine own_st (T' := T2) (g' := (mkF m 13 #[.val (.ref a1), .val (.ref a2), .val (.ref a2)] [(.ref a2)])) (fun t9 k9 => XS.aloadN X2.here hx rfl (hb hby d3_12) rfl rfl k9) ?_
  obtain ⟨T3, X3, e3, st3⟩ := getF X2 hx hZ hown (host := "") (Or.inl (hw _ (List.mem_of_getElem? (i := 10) rfl))) Via.refl e2 Ft2 (g := (mkF m 13 #[.val (.ref a1), .val (.ref a2), .val (.ref a2)] [(.ref a2)])) rfl rfl (hb hby d3_13)
  refine own_st (T' := T3) (g' := (mkF m 16 #[.val (.ref a1), .val (.ref a2), .val (.ref a2)] [(.long t2)])) (fun t9 k9 => st3 t9 k9) ?_
  refine own_st (T' := T3) (g' := (mkF m 17 #[.val (.ref a1), .val (.ref a2), .val (.ref a2)] [(.ref a1), (.long t2)])) (fun t9 k9 => XS.aloadN X3.here hx rfl (hb hby d3_16) rfl rfl k9) ?_
  obtain ⟨T4, X4, e4, st4⟩ := getF X3 hx hZ hown (host := "") (Or.inl (hw _ (List.mem_of_getElem? (i := 10) rfl))) Via.refl e3 Ft1 (g := (mkF m 17 #[.val (.ref a1), .val (.ref a2), .val (.ref a2)] [(.ref a1), (.long t2)])) rfl rfl (hb hby d3_17)
  refine own_st (T' := T4) (g' := (mkF m 20 #[.val (.ref a1), .val (.ref a2), .val (.ref a2)] [(.long t1), (.long t2)])) (fun t9 k9 => st4 t9 k9) ?_
  refine own_st (T' := T4) (g' := (mkF m 21 #[.val (.ref a1), .val (.ref a2), .val (.ref a2)] [(.int (lcmpW t2 t1))])) (fun t9 k9 => XS.lcmp X4.here hx rfl (hb hby d3_20) rfl k9) ?_
  by_cases h1 : t2 = t1
  · refine own_st (T' := T4) (g' := (mkF m 24 #[.val (.ref a1), .val (.ref a2), .val (.ref a2)] [])) (fun t9 k9 => XS.ifNo X4.here hx rfl (hb hby d3_21) rfl ((if0 _ _).trans (teq ((lw_eq _ _).mpr h1 : (lcmpW t2 t1) = (0 : Int32))).2) k9) ?_
    refine own_st (T' := T4) (g' := (mkF m 25 #[.val (.ref a1), .val (.ref a2), .val (.ref a2)] [(.ref a2)])) (fun t9 k9 => XS.aloadN X4.here hx rfl (hb hby d3_24) rfl rfl k9) ?_
    obtain ⟨T5, X5, e5, st5⟩ := getF X4 hx hZ hown (host := "") (Or.inl (hw _ (List.mem_of_getElem? (i := 12) rfl))) Via.refl e4 Fs2 (g := (mkF m 25 #[.val (.ref a1), .val (.ref a2), .val (.ref a2)] [(.ref a2)])) rfl rfl (hb hby d3_25)
    refine own_st (T' := T5) (g' := (mkF m 28 #[.val (.ref a1), .val (.ref a2), .val (.ref a2)] [(.int s2)])) (fun t9 k9 => st5 t9 k9) ?_
    refine own_st (T' := T5) (g' := (mkF m 29 #[.val (.ref a1), .val (.ref a2), .val (.ref a2)] [(.ref a1), (.int s2)])) (fun t9 k9 => XS.aloadN X5.here hx rfl (hb hby d3_28) rfl rfl k9) ?_
    obtain ⟨T6, X6, e6, st6⟩ := getF X5 hx hZ hown (host := "") (Or.inl (hw _ (List.mem_of_getElem? (i := 12) rfl))) Via.refl e5 Fs1 (g := (mkF m 29 #[.val (.ref a1), .val (.ref a2), .val (.ref a2)] [(.ref a1), (.int s2)])) rfl rfl (hb hby d3_29)
    refine own_st (T' := T6) (g' := (mkF m 32 #[.val (.ref a1), .val (.ref a2), .val (.ref a2)] [(.int s1), (.int s2)])) (fun t9 k9 => st6 t9 k9) ?_
    by_cases h2 : s2 = s1
    · refine own_st (T' := T6) (g' := (mkF m 35 #[.val (.ref a1), .val (.ref a2), .val (.ref a2)] [])) (fun t9 k9 => XS.icmpNo X6.here hx rfl (hb hby d3_32) rfl (teq h2).2 k9) ?_
      refine own_st (T' := T6) (g' := (mkF m 36 #[.val (.ref a1), .val (.ref a2), .val (.ref a2)] [(.int (1 : Int32))])) (fun t9 k9 => XS.iconst X6.here hx rfl (hb hby d3_35) k9) ?_
      refine own_st (T' := T6) (g' := (mkF m 40 #[.val (.ref a1), .val (.ref a2), .val (.ref a2)] [(.int (1 : Int32))])) (fun t9 k9 => XS.goto X6.here hx rfl (pc0 := 36) (pc' := 40) rfl (hb hby d3_36) (by decide) (by decide) k9) ?_
      refine own_ret (v := some (.int (1 : Int32))) hF X6 (own_some hret) hlk (fun fs hr => retN X6 hx (t := .boolean) hret (by simp) (hb hby d3_40) hr) ?_ (by decide) (by decide)
      try rw [e6]
      exact ⟨_, rfl, N0, rfl, Or.inl ⟨rfl, h1, h2⟩⟩
    · refine own_st (T' := T6) (g' := (mkF m 39 #[.val (.ref a1), .val (.ref a2), .val (.ref a2)] [])) (fun t9 k9 => XS.icmpYes X6.here hx rfl (pc0 := 32) (pc' := 39) rfl (hb hby d3_32) rfl (feq h2).2 (by decide) (by decide) k9) ?_
      refine own_st (T' := T6) (g' := (mkF m 40 #[.val (.ref a1), .val (.ref a2), .val (.ref a2)] [(.int (0 : Int32))])) (fun t9 k9 => XS.iconst X6.here hx rfl (hb hby d3_39) k9) ?_
      refine own_ret (v := some (.int (0 : Int32))) hF X6 (own_some hret) hlk (fun fs hr => retN X6 hx (t := .boolean) hret (by simp) (hb hby d3_40) hr) ?_ (by decide) (by decide)
      try rw [e6]
      exact ⟨_, rfl, N0, rfl, Or.inr ⟨rfl, fun q => h2 q.2⟩⟩
  · refine own_st (T' := T4) (g' := (mkF m 39 #[.val (.ref a1), .val (.ref a2), .val (.ref a2)] [])) (fun t9 k9 => XS.ifYes X4.here hx rfl (pc0 := 21) (pc' := 39) rfl (hb hby d3_21) rfl ((if0 _ _).trans (feq (fun q => h1 ((lw_eq _ _).mp q) : ¬ ((lcmpW t2 t1) = (0 : Int32)))).2) (by decide) (by decide) k9) ?_
    refine own_st (T' := T4) (g' := (mkF m 40 #[.val (.ref a1), .val (.ref a2), .val (.ref a2)] [(.int (0 : Int32))])) (fun t9 k9 => XS.iconst X4.here hx rfl (hb hby d3_39) k9) ?_
    refine own_ret (v := some (.int (0 : Int32))) hF X4 (own_some hret) hlk (fun fs hr => retN X4 hx (t := .boolean) hret (by simp) (hb hby d3_40) hr) ?_ (by decide) (by decide)
    try rw [e4]
    exact ⟨_, rfl, N0, rfl, Or.inr ⟨rfl, fun q => h1 q.1⟩⟩
set_option maxRecDepth 65536 in
set_option maxHeartbeats 40000000 in
theorem rmEn (l : Launch) (Z : State) (a0 : Array Value) (hw : ∀ d ∈ tables_1, d.before a0 Z = true) (a1 : Addr) (h0 : Heap) (n0 : Nat) (Z0 : n0 ≤ h0.size)  :
    own_Met l Z (⟨"com/example/kolejka/kolejka/store/MessageId", "equals", "(Ljava/lang/Object;)Z"⟩ : MethodName) prog_68_method_11_code 3 (some .boolean) ({ frames := 0, cells := 0, slots := 0, locals := 0 } : Room) #[(.ref a1), .null] h0 (fun v h L => v = some (.int (0 : Int32)) ∧ Fr n0 L ∧ h = h0) := by
  refine own_body pn_3 ?_
  intro p e s m below meth c T0 hZ hx hby hml hown hnm hret hlk X0 e0 F hF
  have N0 := Fr.nil n0
  have K0 := Keep.refl h0 []
  refine own_cast (g' := (mkF m 0 #[.val (.ref a1), .val .null, .unset] [])) (by first | (simp [entryFrame, mkF, argsToLocals, Value.category]; done) | rfl) ?_
  refine own_st (T' := T0) (g' := (mkF m 1 #[.val (.ref a1), .val .null, .unset] [.null])) (fun t9 k9 => XS.aloadN X0.here hx rfl (hb hby d3_0) rfl rfl k9) ?_
  refine own_st (T' := T0) (g' := (mkF m 4 #[.val (.ref a1), .val .null, .unset] [(.int (0 : Int32))])) (fun t9 k9 => X0.instanceofNull hx (g := (mkF m 1 #[.val (.ref a1), .val .null, .unset] [.null])) rfl rfl (hb hby d3_1) t9 k9) ?_
  refine own_st (T' := T0) (g' := (mkF m 39 #[.val (.ref a1), .val .null, .unset] [])) (fun t9 k9 => XS.ifYes X0.here hx rfl (pc0 := 4) (pc' := 39) rfl (hb hby d3_4) rfl ((if0 _ _).trans (teq rfl).1) (by decide) (by decide) k9) ?_
  refine own_st (T' := T0) (g' := (mkF m 40 #[.val (.ref a1), .val .null, .unset] [(.int (0 : Int32))])) (fun t9 k9 => XS.iconst X0.here hx rfl (hb hby d3_39) k9) ?_
  refine own_ret (v := some (.int (0 : Int32))) hF X0 (own_some hret) hlk (fun fs hr => retN X0 hx (t := .boolean) hret (by simp) (hb hby d3_40) hr) ?_ (by decide) (by decide)
  try rw [e0]
  exact ⟨rfl, N0, rfl⟩
set_option maxRecDepth 65536 in
set_option maxHeartbeats 40000000 in
theorem rmEl (l : Launch) (Z : State) (a0 : Array Value) (hw : ∀ d ∈ tables_1, d.before a0 Z = true) (a1 a2 : Addr) (h0 : Heap) (n0 : Nat) (Z0 : n0 ≤ h0.size) (E2 : Exa Z h0 a2 "java/lang/Long") :
    own_Met l Z (⟨"com/example/kolejka/kolejka/store/MessageId", "equals", "(Ljava/lang/Object;)Z"⟩ : MethodName) prog_68_method_11_code 3 (some .boolean) ({ frames := 0, cells := 0, slots := 0, locals := 0 } : Room) #[(.ref a1), (.ref a2)] h0 (fun v h L => v = some (.int (0 : Int32)) ∧ Fr n0 L ∧ h = h0) := by
  refine own_body pn_3 ?_
  intro p e s m below meth c T0 hZ hx hby hml hown hnm hret hlk X0 e0 F hF
  have N0 := Fr.nil n0
  have K0 := Keep.refl h0 []
  refine own_cast (g' := (mkF m 0 #[.val (.ref a1), .val (.ref a2), .unset] [])) (by first | (simp [entryFrame, mkF, argsToLocals, Value.category]; done) | rfl) ?_
  have hno := own_NSno (hw _ (List.mem_of_getElem? (i := 42) rfl)) (hw _ (List.mem_of_getElem? (i := 2) rfl)) (NS.step (hw _ (List.mem_of_getElem? (i := 42) rfl)) (NS.step (hw _ (List.mem_of_getElem? (i := 43) rfl)) (own_NSroot (hw _ (List.mem_of_getElem? (i := 44) rfl)) (hw _ (List.mem_of_getElem? (i := 2) rfl)) (by decide)) (by decide)) (by decide)) (by decide)
  refine own_st (T' := T0) (g' := (mkF m 1 #[.val (.ref a1), .val (.ref a2), .unset] [(.ref a2)])) (fun t9 k9 => XS.aloadN X0.here hx rfl (hb hby d3_0) rfl rfl k9) ?_
  obtain ⟨T1, X1, e1, st1⟩ := instNo X0 hx hZ hown (hw _ (List.mem_of_getElem? (i := 19) rfl)) e0 E2 hno (g := (mkF m 1 #[.val (.ref a1), .val (.ref a2), .unset] [(.ref a2)])) rfl rfl (hb hby d3_1)
  refine own_st (T' := T1) (g' := (mkF m 4 #[.val (.ref a1), .val (.ref a2), .unset] [(.int (0 : Int32))])) (fun t9 k9 => st1 t9 k9) ?_
  refine own_st (T' := T1) (g' := (mkF m 39 #[.val (.ref a1), .val (.ref a2), .unset] [])) (fun t9 k9 => XS.ifYes X1.here hx rfl (pc0 := 4) (pc' := 39) rfl (hb hby d3_4) rfl ((if0 _ _).trans (teq rfl).1) (by decide) (by decide) k9) ?_
  refine own_st (T' := T1) (g' := (mkF m 40 #[.val (.ref a1), .val (.ref a2), .unset] [(.int (0 : Int32))])) (fun t9 k9 => XS.iconst X1.here hx rfl (hb hby d3_39) k9) ?_
  refine own_ret (v := some (.int (0 : Int32))) hF X1 (own_some hret) hlk (fun fs hr => retN X1 hx (t := .boolean) hret (by simp) (hb hby d3_40) hr) ?_ (by decide) (by decide)
  try rw [e1]
  exact ⟨rfl, N0, rfl⟩
theorem pn_0 : plainFor (⟨"com/example/kolejka/kolejka/store/MessageIdEqualsPinLaw", "law", "(JIJII)Z"⟩ : MethodName) = true := plainFor_of_name (by first | (simp [plainName, overriddenIn]; done) | decide +kernel)
set_option maxRecDepth 65536 in
set_option maxHeartbeats 40000000 in
theorem rm0 (l : Launch) (Z : State) (a0 : Array Value) (hw : ∀ d ∈ tables_1, d.before a0 Z = true) (p1 : Int64) (p2 : Int32) (p3 : Int64) (p4 p5 : Int32) (cc : Addr) (cl : Cell) (h0 : Heap) (n0 : Nat) (Z0 : n0 ≤ h0.size) (O0 : Old Z n0 h0) (S0 : Sta Z Z.heap "java/lang/Long$LongCache" "cache" "[Ljava/lang/Long;" (.ref cc)) (B0 : Bxs Z cc cl "java/lang/Long" "J" (256 : Int32) (fun j : Int32 => Value.long (j - (128 : Int32)).toInt64)) :
    own_Met l Z x code maxLocals ret room_1 #[(.long p1), (.int p2), (.long p3), (.int p4), (.int p5)] h0 (fun v h L => v = some (.int (1 : Int32)) ∧ Fr n0 L) := by
  refine own_body pn_0 ?_
  intro p e s m below meth c T0 hZ hx hby hml hown hnm hret hlk X0 e0 F hF
  have N0 := Fr.nil n0
  have K0 := Keep.refl h0 []
  refine own_cast (g' := (mkF m 0 #[.val (.long p1), .second, .val (.int p2), .val (.long p3), .second, .val (.int p4), .val (.int p5), .unset, .unset, .unset, .unset, .unset, .unset, .unset, .unset, .unset, .unset, .unset, .unset] [])) (by first | (simp [entryFrame, mkF, argsToLocals, Value.category, maxLocals]; done) | rfl) ?_
  refine own_st (T' := T0) (g' := (mkF m 1 #[.val (.long p1), .second, .val (.int p2), .val (.long p3), .second, .val (.int p4), .val (.int p5), .unset, .unset, .unset, .unset, .unset, .unset, .unset, .unset, .unset, .unset, .unset, .unset] [(.long p1)])) (fun t9 k9 => XS.lloadN X0.here hx rfl (hb hby at_0) rfl k9) ?_
  refine own_st (T' := T0) (g' := (mkF m 4 #[.val (.long p1), .second, .val (.int p2), .val (.long p3), .second, .val (.int p4), .val (.int p5), .unset, .unset, .unset, .unset, .unset, .unset, .unset, .unset, .unset, .unset, .unset, .unset] [(.long (9223372036854775807 : Int64)), (.long p1)])) (fun t9 k9 => X0.ldc2Long hx hown (mvT hZ (hw _ (List.mem_of_getElem? (i := 0) rfl))) (g := (mkF m 1 #[.val (.long p1), .second, .val (.int p2), .val (.long p3), .second, .val (.int p4), .val (.int p5), .unset, .unset, .unset, .unset, .unset, .unset, .unset, .unset, .unset, .unset, .unset, .unset] [(.long p1)])) rfl (hb hby at_1) t9 k9) ?_
  refine own_st (T' := T0) (g' := (mkF m 5 #[.val (.long p1), .second, .val (.int p2), .val (.long p3), .second, .val (.int p4), .val (.int p5), .unset, .unset, .unset, .unset, .unset, .unset, .unset, .unset, .unset, .unset, .unset, .unset] [(.long (p1 &&& (9223372036854775807 : Int64)))])) (fun t9 k9 => XS.land X0.here hx rfl (hb hby at_4) rfl k9) ?_
  refine own_st (T' := T0) (g' := (mkF m 7 #[.val (.long p1), .second, .val (.int p2), .val (.long p3), .second, .val (.int p4), .val (.int p5), .val (.long (p1 &&& (9223372036854775807 : Int64))), .second, .unset, .unset, .unset, .unset, .unset, .unset, .unset, .unset, .unset, .unset] [])) (fun t9 k9 => XS.lstore X0.here hx rfl (hb hby at_5) rfl (l' := #[.val (.long p1), .second, .val (.int p2), .val (.long p3), .second, .val (.int p4), .val (.int p5), .val (.long (p1 &&& (9223372036854775807 : Int64))), .second, .unset, .unset, .unset, .unset, .unset, .unset, .unset, .unset, .unset, .unset]) rfl k9) ?_
  refine own_st (T' := T0) (g' := (mkF m 8 #[.val (.long p1), .second, .val (.int p2), .val (.long p3), .second, .val (.int p4), .val (.int p5), .val (.long (p1 &&& (9223372036854775807 : Int64))), .second, .unset, .unset, .unset, .unset, .unset, .unset, .unset, .unset, .unset, .unset] [(.int p2)])) (fun t9 k9 => XS.iloadN X0.here hx rfl (hb hby at_7) rfl k9) ?_
  refine own_st (T' := T0) (g' := (mkF m 11 #[.val (.long p1), .second, .val (.int p2), .val (.long p3), .second, .val (.int p4), .val (.int p5), .val (.long (p1 &&& (9223372036854775807 : Int64))), .second, .unset, .unset, .unset, .unset, .unset, .unset, .unset, .unset, .unset, .unset] [(.int (32767 : Int32)), (.int p2)])) (fun t9 k9 => XS.sipush X0.here hx rfl (hb hby at_8) k9) ?_
  refine own_st (T' := T0) (g' := (mkF m 12 #[.val (.long p1), .second, .val (.int p2), .val (.long p3), .second, .val (.int p4), .val (.int p5), .val (.long (p1 &&& (9223372036854775807 : Int64))), .second, .unset, .unset, .unset, .unset, .unset, .unset, .unset, .unset, .unset, .unset] [(.int (p2 &&& (32767 : Int32)))])) (fun t9 k9 => XS.iand X0.here hx rfl (hb hby at_11) rfl k9) ?_
  refine own_st (T' := T0) (g' := (mkF m 14 #[.val (.long p1), .second, .val (.int p2), .val (.long p3), .second, .val (.int p4), .val (.int p5), .val (.long (p1 &&& (9223372036854775807 : Int64))), .second, .val (.int (p2 &&& (32767 : Int32))), .unset, .unset, .unset, .unset, .unset, .unset, .unset, .unset, .unset] [])) (fun t9 k9 => XS.istore X0.here hx rfl (hb hby at_12) rfl (l' := #[.val (.long p1), .second, .val (.int p2), .val (.long p3), .second, .val (.int p4), .val (.int p5), .val (.long (p1 &&& (9223372036854775807 : Int64))), .second, .val (.int (p2 &&& (32767 : Int32))), .unset, .unset, .unset, .unset, .unset, .unset, .unset, .unset, .unset]) rfl k9) ?_
  refine own_st (T' := T0) (g' := (mkF m 16 #[.val (.long p1), .second, .val (.int p2), .val (.long p3), .second, .val (.int p4), .val (.int p5), .val (.long (p1 &&& (9223372036854775807 : Int64))), .second, .val (.int (p2 &&& (32767 : Int32))), .unset, .unset, .unset, .unset, .unset, .unset, .unset, .unset, .unset] [(.int p5)])) (fun t9 k9 => XS.iload X0.here hx rfl (hb hby at_14) rfl k9) ?_
  refine own_st (T' := T0) (g' := (mkF m 17 #[.val (.long p1), .second, .val (.int p2), .val (.long p3), .second, .val (.int p4), .val (.int p5), .val (.long (p1 &&& (9223372036854775807 : Int64))), .second, .val (.int (p2 &&& (32767 : Int32))), .unset, .unset, .unset, .unset, .unset, .unset, .unset, .unset, .unset] [(.int (1 : Int32)), (.int p5)])) (fun t9 k9 => XS.iconst X0.here hx rfl (hb hby at_16) k9) ?_
  refine own_st (T' := T0) (g' := (mkF m 18 #[.val (.long p1), .second, .val (.int p2), .val (.long p3), .second, .val (.int p4), .val (.int p5), .val (.long (p1 &&& (9223372036854775807 : Int64))), .second, .val (.int (p2 &&& (32767 : Int32))), .unset, .unset, .unset, .unset, .unset, .unset, .unset, .unset, .unset] [(.int (p5 &&& (1 : Int32)))])) (fun t9 k9 => XS.iand X0.here hx rfl (hb hby at_17) rfl k9) ?_
  have ht1 := own_mask64 p1
  obtain ⟨hs1, hs1'⟩ := own_mask15 p2
  have j31 : ∀ (t2 : Int64), (¬ t2 < (0 : Int64)) → own_Go p e below F T0 (mkF m 31 #[.val (.long p1), .second, .val (.int p2), .val (.long p3), .second, .val (.int p4), .val (.int p5), .val (.long (p1 &&& (9223372036854775807 : Int64))), .second, .val (.int (p2 &&& (32767 : Int32))), .unset, .unset, .unset, .unset, .unset, .unset, .unset, .unset, .unset] [(.long t2)]) := by
    intro t2 ht2
    refine own_st (T' := T0) (g' := (mkF m 33 #[.val (.long p1), .second, .val (.int p2), .val (.long p3), .second, .val (.int p4), .val (.int p5), .val (.long (p1 &&& (9223372036854775807 : Int64))), .second, .val (.int (p2 &&& (32767 : Int32))), .val (.long t2), .second, .unset, .unset, .unset, .unset, .unset, .unset, .unset] [])) (fun t9 k9 => XS.lstore X0.here hx rfl (hb hby at_31) rfl (l' := #[.val (.long p1), .second, .val (.int p2), .val (.long p3), .second, .val (.int p4), .val (.int p5), .val (.long (p1 &&& (9223372036854775807 : Int64))), .second, .val (.int (p2 &&& (32767 : Int32))), .val (.long t2), .second, .unset, .unset, .unset, .unset, .unset, .unset, .unset]) rfl k9) ?_
    refine own_st (T' := T0) (g' := (mkF m 35 #[.val (.long p1), .second, .val (.int p2), .val (.long p3), .second, .val (.int p4), .val (.int p5), .val (.long (p1 &&& (9223372036854775807 : Int64))), .second, .val (.int (p2 &&& (32767 : Int32))), .val (.long t2), .second, .unset, .unset, .unset, .unset, .unset, .unset, .unset] [(.int p5)])) (fun t9 k9 => XS.iload X0.here hx rfl (hb hby at_33) rfl k9) ?_
    refine own_st (T' := T0) (g' := (mkF m 36 #[.val (.long p1), .second, .val (.int p2), .val (.long p3), .second, .val (.int p4), .val (.int p5), .val (.long (p1 &&& (9223372036854775807 : Int64))), .second, .val (.int (p2 &&& (32767 : Int32))), .val (.long t2), .second, .unset, .unset, .unset, .unset, .unset, .unset, .unset] [(.int (2 : Int32)), (.int p5)])) (fun t9 k9 => XS.iconst X0.here hx rfl (hb hby at_35) k9) ?_
    refine own_st (T' := T0) (g' := (mkF m 37 #[.val (.long p1), .second, .val (.int p2), .val (.long p3), .second, .val (.int p4), .val (.int p5), .val (.long (p1 &&& (9223372036854775807 : Int64))), .second, .val (.int (p2 &&& (32767 : Int32))), .val (.long t2), .second, .unset, .unset, .unset, .unset, .unset, .unset, .unset] [(.int (p5 &&& (2 : Int32)))])) (fun t9 k9 => XS.iand X0.here hx rfl (hb hby at_36) rfl k9) ?_
    have j51 : ∀ (s2 : Int32), (¬ s2 < (0 : Int32)) → (¬ (32767 : Int32) < s2) → own_Go p e below F T0 (mkF m 51 #[.val (.long p1), .second, .val (.int p2), .val (.long p3), .second, .val (.int p4), .val (.int p5), .val (.long (p1 &&& (9223372036854775807 : Int64))), .second, .val (.int (p2 &&& (32767 : Int32))), .val (.long t2), .second, .unset, .unset, .unset, .unset, .unset, .unset, .unset] [(.int s2)]) := by
      intro s2 hs2 hs2'
      refine own_st (T' := T0) (g' := (mkF m 53 #[.val (.long p1), .second, .val (.int p2), .val (.long p3), .second, .val (.int p4), .val (.int p5), .val (.long (p1 &&& (9223372036854775807 : Int64))), .second, .val (.int (p2 &&& (32767 : Int32))), .val (.long t2), .second, .val (.int s2), .unset, .unset, .unset, .unset, .unset, .unset] [])) (fun t9 k9 => XS.istore X0.here hx rfl (hb hby at_51) rfl (l' := #[.val (.long p1), .second, .val (.int p2), .val (.long p3), .second, .val (.int p4), .val (.int p5), .val (.long (p1 &&& (9223372036854775807 : Int64))), .second, .val (.int (p2 &&& (32767 : Int32))), .val (.long t2), .second, .val (.int s2), .unset, .unset, .unset, .unset, .unset, .unset]) rfl k9) ?_
      obtain ⟨T1, h1, X1, e1, Ex1, A1, D1, -, st1⟩ := newO X0 hx hZ hown (hw _ (List.mem_of_getElem? (i := 1) rfl)) (hw _ (List.mem_of_getElem? (i := 2) rfl)) (hw _ (List.mem_of_getElem? (i := 3) rfl)) e0 (g := (mkF m 53 #[.val (.long p1), .second, .val (.int p2), .val (.long p3), .second, .val (.int p4), .val (.int p5), .val (.long (p1 &&& (9223372036854775807 : Int64))), .second, .val (.int (p2 &&& (32767 : Int32))), .val (.long t2), .second, .val (.int s2), .unset, .unset, .unset, .unset, .unset, .unset] [])) rfl (hb hby at_53) (by decide) (by decide)
      obtain ⟨b1, gb1⟩ : ∃ z, z = h0.size := ⟨_, rfl⟩
      have g_b1 : n0 ≤ b1 := gb1 ▸ Z0
      have sz_b1 : h0.size ≤ b1 := gb1 ▸ K0.1
      rw [← gb1] at A1 D1 st1
      have K1 := K0.ext Ex1
      have Z1 : n0 ≤ h1.size := Nat.le_trans Z0 Ex1.1
      have O1 := O0.ext Ex1
      have F_timestamp_b1 : Fld Z h1 b1 "com/example/kolejka/kolejka/store/MessageId" "timestamp" "J" (.long (0 : Int64)) := D1 (Or.inr (hw _ (List.mem_of_getElem? (i := 11) rfl))) (ty := .long) (by decide)
      have F_sequence_b1 : Fld Z h1 b1 "com/example/kolejka/kolejka/store/MessageId" "sequence" "I" (.int (0 : Int32)) := D1 (Or.inr (hw _ (List.mem_of_getElem? (i := 13) rfl))) (ty := .int) (by decide)
      refine own_st (T' := T1) (g' := (mkF m 56 #[.val (.long p1), .second, .val (.int p2), .val (.long p3), .second, .val (.int p4), .val (.int p5), .val (.long (p1 &&& (9223372036854775807 : Int64))), .second, .val (.int (p2 &&& (32767 : Int32))), .val (.long t2), .second, .val (.int s2), .unset, .unset, .unset, .unset, .unset, .unset] [(.ref b1)])) (fun t9 k9 => st1 t9 k9) ?_
      refine own_st (T' := T1) (g' := (mkF m 57 #[.val (.long p1), .second, .val (.int p2), .val (.long p3), .second, .val (.int p4), .val (.int p5), .val (.long (p1 &&& (9223372036854775807 : Int64))), .second, .val (.int (p2 &&& (32767 : Int32))), .val (.long t2), .second, .val (.int s2), .unset, .unset, .unset, .unset, .unset, .unset] [(.ref b1), (.ref b1)])) (fun t9 k9 => XS.dup X1.here hx rfl (hb hby at_56) rfl rfl k9) ?_
      refine own_st (T' := T1) (g' := (mkF m 59 #[.val (.long p1), .second, .val (.int p2), .val (.long p3), .second, .val (.int p4), .val (.int p5), .val (.long (p1 &&& (9223372036854775807 : Int64))), .second, .val (.int (p2 &&& (32767 : Int32))), .val (.long t2), .second, .val (.int s2), .unset, .unset, .unset, .unset, .unset, .unset] [(.long (p1 &&& (9223372036854775807 : Int64))), (.ref b1), (.ref b1)])) (fun t9 k9 => XS.lload X1.here hx rfl (hb hby at_57) rfl k9) ?_
      refine own_st (T' := T1) (g' := (mkF m 61 #[.val (.long p1), .second, .val (.int p2), .val (.long p3), .second, .val (.int p4), .val (.int p5), .val (.long (p1 &&& (9223372036854775807 : Int64))), .second, .val (.int (p2 &&& (32767 : Int32))), .val (.long t2), .second, .val (.int s2), .unset, .unset, .unset, .unset, .unset, .unset] [(.int (p2 &&& (32767 : Int32))), (.long (p1 &&& (9223372036854775807 : Int64))), (.ref b1), (.ref b1)])) (fun t9 k9 => XS.iload X1.here hx rfl (hb hby at_59) rfl k9) ?_
      obtain ⟨_, _, ⟨T2, L2, k2, n2⟩, -, X2, ⟨Lc2, hQ2, l2, y2, z2⟩, st2⟩ := X1.specialBack hx (y := (⟨"com/example/kolejka/kolejka/store/MessageId", "<init>", "(JI)V"⟩ : MethodName)) rfl hown (mvT hZ (hw _ (List.mem_of_getElem? (i := 4) rfl))) (mvT hZ (hw _ (List.mem_of_getElem? (i := 5) rfl))) (mvT hZ (hw _ (List.mem_of_getElem? (i := 6) rfl))) (by decide) (own_back (W := 1) (rm1 l Z a0 hw b1 (p1 &&& (9223372036854775807 : Int64)) (p2 &&& (32767 : Int32)) (.long 0) (.int 0) h1 n0 Z1 A1 F_timestamp_b1 F_sequence_b1 g_b1 ht1 hs1 hs1') hZ (hw _ (List.mem_of_getElem? (i := 6) rfl)) (hw _ (List.mem_of_getElem? (i := 3) rfl)) (by decide) (by decide)) (g := (mkF m 61 #[.val (.long p1), .second, .val (.int p2), .val (.long p3), .second, .val (.int p4), .val (.int p5), .val (.long (p1 &&& (9223372036854775807 : Int64))), .second, .val (.int (p2 &&& (32767 : Int32))), .val (.long t2), .second, .val (.int s2), .unset, .unset, .unset, .unset, .unset, .unset] [(.int (p2 &&& (32767 : Int32))), (.long (p1 &&& (9223372036854775807 : Int64))), (.ref b1), (.ref b1)])) rfl (by rw [hml]; rfl) (Steps.refl _) (a := b1) (argsL := [(.long (p1 &&& (9223372036854775807 : Int64))), (.int (p2 &&& (32767 : Int32)))]) (rest := [(.ref b1)]) (lenOf pd_0 rfl) rfl (by show 2 * 0 + _ ≤ _; exact Nat.le_of_eq rfl) (hb hby at_61) (fun _ _ => ⟨rfl, e1, (Nat.le_of_ble_eq_true rfl), (Nat.le_of_ble_eq_true rfl)⟩)
      dsimp only [Pt.U, Pt.locs, Pt.cells, Pt.slots] at X2 l2 y2 z2 st2 hQ2
      subst l2 y2 z2
      obtain ⟨rfl, Nq2, Kq2, Eq2, Ft2, Fs2⟩ := hQ2
      have N2 := Fr.app N0 Nq2
      obtain ⟨h2, e2⟩ : ∃ z, T2.heap = z := ⟨_, rfl⟩
      rw [e2] at Kq2 Eq2 Ft2 Fs2
      have A1_3 := A1.keep Kq2
      have K2 := K1.trans Kq2 (allS (Or.inr sz_b1) all0)
      have Z2 : n0 ≤ h2.size := Nat.le_trans Z1 Kq2.1
      have O2 := O1.keep Kq2 (allS g_b1 all0)
      refine own_st (T' := T2) (g' := (mkF m 64 #[.val (.long p1), .second, .val (.int p2), .val (.long p3), .second, .val (.int p4), .val (.int p5), .val (.long (p1 &&& (9223372036854775807 : Int64))), .second, .val (.int (p2 &&& (32767 : Int32))), .val (.long t2), .second, .val (.int s2), .unset, .unset, .unset, .unset, .unset, .unset] [(.ref b1)])) (fun t9 k9 => st2.trans k9) ?_
      refine own_st (T' := T2) (g' := (mkF m 66 #[.val (.long p1), .second, .val (.int p2), .val (.long p3), .second, .val (.int p4), .val (.int p5), .val (.long (p1 &&& (9223372036854775807 : Int64))), .second, .val (.int (p2 &&& (32767 : Int32))), .val (.long t2), .second, .val (.int s2), .val (.ref b1), .unset, .unset, .unset, .unset, .unset] [])) (fun t9 k9 => XS.astore X2.here hx rfl (hb hby at_64) rfl rfl (l' := #[.val (.long p1), .second, .val (.int p2), .val (.long p3), .second, .val (.int p4), .val (.int p5), .val (.long (p1 &&& (9223372036854775807 : Int64))), .second, .val (.int (p2 &&& (32767 : Int32))), .val (.long t2), .second, .val (.int s2), .val (.ref b1), .unset, .unset, .unset, .unset, .unset]) rfl k9) ?_
      obtain ⟨T4, h4, X4, e4, Ex4, A4, D4, -, st4⟩ := newO X2 hx hZ hown (hw _ (List.mem_of_getElem? (i := 1) rfl)) (hw _ (List.mem_of_getElem? (i := 2) rfl)) (hw _ (List.mem_of_getElem? (i := 3) rfl)) e2 (g := (mkF m 66 #[.val (.long p1), .second, .val (.int p2), .val (.long p3), .second, .val (.int p4), .val (.int p5), .val (.long (p1 &&& (9223372036854775807 : Int64))), .second, .val (.int (p2 &&& (32767 : Int32))), .val (.long t2), .second, .val (.int s2), .val (.ref b1), .unset, .unset, .unset, .unset, .unset] [])) rfl (hb hby at_66) (by decide) (by decide)
      obtain ⟨b4, gb4⟩ : ∃ z, z = h2.size := ⟨_, rfl⟩
      have ne_b1_b4 : b1 ≠ b4 := own_ne gb4 A1_3.lt
      have g_b4 : n0 ≤ b4 := gb4 ▸ Z2
      have sz_b4 : h0.size ≤ b4 := gb4 ▸ K2.1
      rw [← gb4] at A4 D4 st4
      have A1_5 := A1_3.ext Ex4
      have Ft2_6 := Ft2.ext Ex4
      have Fs2_7 := Fs2.ext Ex4
      have K4 := K2.ext Ex4
      have Z4 : n0 ≤ h4.size := Nat.le_trans Z2 Ex4.1
      have O4 := O2.ext Ex4
      have F_timestamp_b4 : Fld Z h4 b4 "com/example/kolejka/kolejka/store/MessageId" "timestamp" "J" (.long (0 : Int64)) := D4 (Or.inr (hw _ (List.mem_of_getElem? (i := 11) rfl))) (ty := .long) (by decide)
      have F_sequence_b4 : Fld Z h4 b4 "com/example/kolejka/kolejka/store/MessageId" "sequence" "I" (.int (0 : Int32)) := D4 (Or.inr (hw _ (List.mem_of_getElem? (i := 13) rfl))) (ty := .int) (by decide)
      refine own_st (T' := T4) (g' := (mkF m 69 #[.val (.long p1), .second, .val (.int p2), .val (.long p3), .second, .val (.int p4), .val (.int p5), .val (.long (p1 &&& (9223372036854775807 : Int64))), .second, .val (.int (p2 &&& (32767 : Int32))), .val (.long t2), .second, .val (.int s2), .val (.ref b1), .unset, .unset, .unset, .unset, .unset] [(.ref b4)])) (fun t9 k9 => st4 t9 k9) ?_
      refine own_st (T' := T4) (g' := (mkF m 70 #[.val (.long p1), .second, .val (.int p2), .val (.long p3), .second, .val (.int p4), .val (.int p5), .val (.long (p1 &&& (9223372036854775807 : Int64))), .second, .val (.int (p2 &&& (32767 : Int32))), .val (.long t2), .second, .val (.int s2), .val (.ref b1), .unset, .unset, .unset, .unset, .unset] [(.ref b4), (.ref b4)])) (fun t9 k9 => XS.dup X4.here hx rfl (hb hby at_69) rfl rfl k9) ?_
      refine own_st (T' := T4) (g' := (mkF m 72 #[.val (.long p1), .second, .val (.int p2), .val (.long p3), .second, .val (.int p4), .val (.int p5), .val (.long (p1 &&& (9223372036854775807 : Int64))), .second, .val (.int (p2 &&& (32767 : Int32))), .val (.long t2), .second, .val (.int s2), .val (.ref b1), .unset, .unset, .unset, .unset, .unset] [(.long t2), (.ref b4), (.ref b4)])) (fun t9 k9 => XS.lload X4.here hx rfl (hb hby at_70) rfl k9) ?_
      refine own_st (T' := T4) (g' := (mkF m 74 #[.val (.long p1), .second, .val (.int p2), .val (.long p3), .second, .val (.int p4), .val (.int p5), .val (.long (p1 &&& (9223372036854775807 : Int64))), .second, .val (.int (p2 &&& (32767 : Int32))), .val (.long t2), .second, .val (.int s2), .val (.ref b1), .unset, .unset, .unset, .unset, .unset] [(.int s2), (.long t2), (.ref b4), (.ref b4)])) (fun t9 k9 => XS.iload X4.here hx rfl (hb hby at_72) rfl k9) ?_
      obtain ⟨_, _, ⟨T8, L8, k8, n8⟩, -, X8, ⟨Lc8, hQ8, l8, y8, z8⟩, st8⟩ := X4.specialBack hx (y := (⟨"com/example/kolejka/kolejka/store/MessageId", "<init>", "(JI)V"⟩ : MethodName)) rfl hown (mvT hZ (hw _ (List.mem_of_getElem? (i := 4) rfl))) (mvT hZ (hw _ (List.mem_of_getElem? (i := 5) rfl))) (mvT hZ (hw _ (List.mem_of_getElem? (i := 6) rfl))) (by decide) (own_back (W := 1) (rm1 l Z a0 hw b4 t2 s2 (.long 0) (.int 0) h4 n0 Z4 A4 F_timestamp_b4 F_sequence_b4 g_b4 ht2 hs2 hs2') hZ (hw _ (List.mem_of_getElem? (i := 6) rfl)) (hw _ (List.mem_of_getElem? (i := 3) rfl)) (by decide) (by decide)) (g := (mkF m 74 #[.val (.long p1), .second, .val (.int p2), .val (.long p3), .second, .val (.int p4), .val (.int p5), .val (.long (p1 &&& (9223372036854775807 : Int64))), .second, .val (.int (p2 &&& (32767 : Int32))), .val (.long t2), .second, .val (.int s2), .val (.ref b1), .unset, .unset, .unset, .unset, .unset] [(.int s2), (.long t2), (.ref b4), (.ref b4)])) rfl (by rw [hml]; rfl) (Steps.refl _) (a := b4) (argsL := [(.long t2), (.int s2)]) (rest := [(.ref b4)]) (lenOf pd_0 rfl) rfl (by show 2 * 0 + _ ≤ _; exact Nat.le_of_eq rfl) (hb hby at_74) (fun _ _ => ⟨rfl, e4, (Nat.le_of_ble_eq_true rfl), (Nat.le_of_ble_eq_true rfl)⟩)
      dsimp only [Pt.U, Pt.locs, Pt.cells, Pt.slots] at X8 l8 y8 z8 st8 hQ8
      subst l8 y8 z8
      obtain ⟨rfl, Nq8, Kq8, Eq8, Ft8, Fs8⟩ := hQ8
      have N8 := Fr.app N2 Nq8
      obtain ⟨h8, e8⟩ : ∃ z, T8.heap = z := ⟨_, rfl⟩
      rw [e8] at Kq8 Eq8 Ft8 Fs8
      have A1_9 := A1_5.keep Kq8
      have Ft2_10 := Ft2_6.keep Kq8 (ninS ne_b1_b4 nin0)
      have Fs2_11 := Fs2_7.keep Kq8 (ninS ne_b1_b4 nin0)
      have A4_12 := A4.keep Kq8
      have K8 := K4.trans Kq8 (allS (Or.inr sz_b4) all0)
      have Z8 : n0 ≤ h8.size := Nat.le_trans Z4 Kq8.1
      have O8 := O4.keep Kq8 (allS g_b4 all0)
      refine own_st (T' := T8) (g' := (mkF m 77 #[.val (.long p1), .second, .val (.int p2), .val (.long p3), .second, .val (.int p4), .val (.int p5), .val (.long (p1 &&& (9223372036854775807 : Int64))), .second, .val (.int (p2 &&& (32767 : Int32))), .val (.long t2), .second, .val (.int s2), .val (.ref b1), .unset, .unset, .unset, .unset, .unset] [(.ref b4)])) (fun t9 k9 => st8.trans k9) ?_
      refine own_st (T' := T8) (g' := (mkF m 79 #[.val (.long p1), .second, .val (.int p2), .val (.long p3), .second, .val (.int p4), .val (.int p5), .val (.long (p1 &&& (9223372036854775807 : Int64))), .second, .val (.int (p2 &&& (32767 : Int32))), .val (.long t2), .second, .val (.int s2), .val (.ref b1), .val (.ref b4), .unset, .unset, .unset, .unset] [])) (fun t9 k9 => XS.astore X8.here hx rfl (hb hby at_77) rfl rfl (l' := #[.val (.long p1), .second, .val (.int p2), .val (.long p3), .second, .val (.int p4), .val (.int p5), .val (.long (p1 &&& (9223372036854775807 : Int64))), .second, .val (.int (p2 &&& (32767 : Int32))), .val (.long t2), .second, .val (.int s2), .val (.ref b1), .val (.ref b4), .unset, .unset, .unset, .unset]) rfl k9) ?_
      refine own_st (T' := T8) (g' := (mkF m 81 #[.val (.long p1), .second, .val (.int p2), .val (.long p3), .second, .val (.int p4), .val (.int p5), .val (.long (p1 &&& (9223372036854775807 : Int64))), .second, .val (.int (p2 &&& (32767 : Int32))), .val (.long t2), .second, .val (.int s2), .val (.ref b1), .val (.ref b4), .unset, .unset, .unset, .unset] [(.int p5)])) (fun t9 k9 => XS.iload X8.here hx rfl (hb hby at_79) rfl k9) ?_
      refine own_st (T' := T8) (g' := (mkF m 82 #[.val (.long p1), .second, .val (.int p2), .val (.long p3), .second, .val (.int p4), .val (.int p5), .val (.long (p1 &&& (9223372036854775807 : Int64))), .second, .val (.int (p2 &&& (32767 : Int32))), .val (.long t2), .second, .val (.int s2), .val (.ref b1), .val (.ref b4), .unset, .unset, .unset, .unset] [(.int (2 : Int32)), (.int p5)])) (fun t9 k9 => XS.iconst X8.here hx rfl (hb hby at_81) k9) ?_
      refine own_st (T' := T8) (g' := (mkF m 83 #[.val (.long p1), .second, .val (.int p2), .val (.long p3), .second, .val (.int p4), .val (.int p5), .val (.long (p1 &&& (9223372036854775807 : Int64))), .second, .val (.int (p2 &&& (32767 : Int32))), .val (.long t2), .second, .val (.int s2), .val (.ref b1), .val (.ref b4), .unset, .unset, .unset, .unset] [(.int (p5 >>> ((2 : Int32) &&& 31)))])) (fun t9 k9 => XS.ishr X8.here hx rfl (hb hby at_82) rfl k9) ?_
      refine own_st (T' := T8) (g' := (mkF m 84 #[.val (.long p1), .second, .val (.int p2), .val (.long p3), .second, .val (.int p4), .val (.int p5), .val (.long (p1 &&& (9223372036854775807 : Int64))), .second, .val (.int (p2 &&& (32767 : Int32))), .val (.long t2), .second, .val (.int s2), .val (.ref b1), .val (.ref b4), .unset, .unset, .unset, .unset] [(.int (3 : Int32)), (.int (p5 >>> ((2 : Int32) &&& 31)))])) (fun t9 k9 => XS.iconst X8.here hx rfl (hb hby at_83) k9) ?_
      refine own_st (T' := T8) (g' := (mkF m 85 #[.val (.long p1), .second, .val (.int p2), .val (.long p3), .second, .val (.int p4), .val (.int p5), .val (.long (p1 &&& (9223372036854775807 : Int64))), .second, .val (.int (p2 &&& (32767 : Int32))), .val (.long t2), .second, .val (.int s2), .val (.ref b1), .val (.ref b4), .unset, .unset, .unset, .unset] [(.int ((p5 >>> ((2 : Int32) &&& 31)) &&& (3 : Int32)))])) (fun t9 k9 => XS.iand X8.here hx rfl (hb hby at_84) rfl k9) ?_
      refine own_st (T' := T8) (g' := (mkF m 87 #[.val (.long p1), .second, .val (.int p2), .val (.long p3), .second, .val (.int p4), .val (.int p5), .val (.long (p1 &&& (9223372036854775807 : Int64))), .second, .val (.int (p2 &&& (32767 : Int32))), .val (.long t2), .second, .val (.int s2), .val (.ref b1), .val (.ref b4), .val (.int ((p5 >>> ((2 : Int32) &&& 31)) &&& (3 : Int32))), .unset, .unset, .unset] [])) (fun t9 k9 => XS.istore X8.here hx rfl (hb hby at_85) rfl (l' := #[.val (.long p1), .second, .val (.int p2), .val (.long p3), .second, .val (.int p4), .val (.int p5), .val (.long (p1 &&& (9223372036854775807 : Int64))), .second, .val (.int (p2 &&& (32767 : Int32))), .val (.long t2), .second, .val (.int s2), .val (.ref b1), .val (.ref b4), .val (.int ((p5 >>> ((2 : Int32) &&& 31)) &&& (3 : Int32))), .unset, .unset, .unset]) rfl k9) ?_
      refine own_st (T' := T8) (g' := (mkF m 89 #[.val (.long p1), .second, .val (.int p2), .val (.long p3), .second, .val (.int p4), .val (.int p5), .val (.long (p1 &&& (9223372036854775807 : Int64))), .second, .val (.int (p2 &&& (32767 : Int32))), .val (.long t2), .second, .val (.int s2), .val (.ref b1), .val (.ref b4), .val (.int ((p5 >>> ((2 : Int32) &&& 31)) &&& (3 : Int32))), .unset, .unset, .unset] [(.long (p1 &&& (9223372036854775807 : Int64)))])) (fun t9 k9 => XS.lload X8.here hx rfl (hb hby at_87) rfl k9) ?_
      refine own_st (T' := T8) (g' := (mkF m 91 #[.val (.long p1), .second, .val (.int p2), .val (.long p3), .second, .val (.int p4), .val (.int p5), .val (.long (p1 &&& (9223372036854775807 : Int64))), .second, .val (.int (p2 &&& (32767 : Int32))), .val (.long t2), .second, .val (.int s2), .val (.ref b1), .val (.ref b4), .val (.int ((p5 >>> ((2 : Int32) &&& 31)) &&& (3 : Int32))), .unset, .unset, .unset] [(.long t2), (.long (p1 &&& (9223372036854775807 : Int64)))])) (fun t9 k9 => XS.lload X8.here hx rfl (hb hby at_89) rfl k9) ?_
      refine own_st (T' := T8) (g' := (mkF m 92 #[.val (.long p1), .second, .val (.int p2), .val (.long p3), .second, .val (.int p4), .val (.int p5), .val (.long (p1 &&& (9223372036854775807 : Int64))), .second, .val (.int (p2 &&& (32767 : Int32))), .val (.long t2), .second, .val (.int s2), .val (.ref b1), .val (.ref b4), .val (.int ((p5 >>> ((2 : Int32) &&& 31)) &&& (3 : Int32))), .unset, .unset, .unset] [(.int (lcmpW (p1 &&& (9223372036854775807 : Int64)) t2))])) (fun t9 k9 => XS.lcmp X8.here hx rfl (hb hby at_91) rfl k9) ?_
      have j107 : ∀ (z16 : Int32), own_B z16 ((p1 &&& (9223372036854775807 : Int64)) = t2 ∧ (p2 &&& (32767 : Int32)) = s2) → own_Go p e below F T8 (mkF m 107 #[.val (.long p1), .second, .val (.int p2), .val (.long p3), .second, .val (.int p4), .val (.int p5), .val (.long (p1 &&& (9223372036854775807 : Int64))), .second, .val (.int (p2 &&& (32767 : Int32))), .val (.long t2), .second, .val (.int s2), .val (.ref b1), .val (.ref b4), .val (.int ((p5 >>> ((2 : Int32) &&& 31)) &&& (3 : Int32))), .unset, .unset, .unset] [(.int z16)]) := by
        intro z16 hz16
        refine own_st (T' := T8) (g' := (mkF m 109 #[.val (.long p1), .second, .val (.int p2), .val (.long p3), .second, .val (.int p4), .val (.int p5), .val (.long (p1 &&& (9223372036854775807 : Int64))), .second, .val (.int (p2 &&& (32767 : Int32))), .val (.long t2), .second, .val (.int s2), .val (.ref b1), .val (.ref b4), .val (.int ((p5 >>> ((2 : Int32) &&& 31)) &&& (3 : Int32))), .val (.int z16), .unset, .unset] [])) (fun t9 k9 => XS.istore X8.here hx rfl (hb hby at_107) rfl (l' := #[.val (.long p1), .second, .val (.int p2), .val (.long p3), .second, .val (.int p4), .val (.int p5), .val (.long (p1 &&& (9223372036854775807 : Int64))), .second, .val (.int (p2 &&& (32767 : Int32))), .val (.long t2), .second, .val (.int s2), .val (.ref b1), .val (.ref b4), .val (.int ((p5 >>> ((2 : Int32) &&& 31)) &&& (3 : Int32))), .val (.int z16), .unset, .unset]) rfl k9) ?_
        refine own_st (T' := T8) (g' := (mkF m 111 #[.val (.long p1), .second, .val (.int p2), .val (.long p3), .second, .val (.int p4), .val (.int p5), .val (.long (p1 &&& (9223372036854775807 : Int64))), .second, .val (.int (p2 &&& (32767 : Int32))), .val (.long t2), .second, .val (.int s2), .val (.ref b1), .val (.ref b4), .val (.int ((p5 >>> ((2 : Int32) &&& 31)) &&& (3 : Int32))), .val (.int z16), .unset, .unset] [(.int ((p5 >>> ((2 : Int32) &&& 31)) &&& (3 : Int32)))])) (fun t9 k9 => XS.iload X8.here hx rfl (hb hby at_109) rfl k9) ?_
        by_cases hk0 : ((p5 >>> ((2 : Int32) &&& 31)) &&& (3 : Int32)) = (0 : Int32)
        · refine own_st (T' := T8) (g' := (mkF m 114 #[.val (.long p1), .second, .val (.int p2), .val (.long p3), .second, .val (.int p4), .val (.int p5), .val (.long (p1 &&& (9223372036854775807 : Int64))), .second, .val (.int (p2 &&& (32767 : Int32))), .val (.long t2), .second, .val (.int s2), .val (.ref b1), .val (.ref b4), .val (.int ((p5 >>> ((2 : Int32) &&& 31)) &&& (3 : Int32))), .val (.int z16), .unset, .unset] [])) (fun t9 k9 => XS.ifNo X8.here hx rfl (hb hby at_111) rfl ((if0 _ _).trans (teq hk0).2) k9) ?_
          refine own_st (T' := T8) (g' := (mkF m 116 #[.val (.long p1), .second, .val (.int p2), .val (.long p3), .second, .val (.int p4), .val (.int p5), .val (.long (p1 &&& (9223372036854775807 : Int64))), .second, .val (.int (p2 &&& (32767 : Int32))), .val (.long t2), .second, .val (.int s2), .val (.ref b1), .val (.ref b4), .val (.int ((p5 >>> ((2 : Int32) &&& 31)) &&& (3 : Int32))), .val (.int z16), .unset, .unset] [(.ref b1)])) (fun t9 k9 => XS.aload X8.here hx rfl (hb hby at_114) rfl rfl k9) ?_
          refine own_st (T' := T8) (g' := (mkF m 118 #[.val (.long p1), .second, .val (.int p2), .val (.long p3), .second, .val (.int p4), .val (.int p5), .val (.long (p1 &&& (9223372036854775807 : Int64))), .second, .val (.int (p2 &&& (32767 : Int32))), .val (.long t2), .second, .val (.int s2), .val (.ref b1), .val (.ref b4), .val (.int ((p5 >>> ((2 : Int32) &&& 31)) &&& (3 : Int32))), .val (.int z16), .unset, .unset] [(.ref b4), (.ref b1)])) (fun t9 k9 => XS.aload X8.here hx rfl (hb hby at_116) rfl rfl k9) ?_
          obtain ⟨cq13, kq13, qa13, qb13, qc13⟩ := isOf hZ e8 A1_9
          obtain ⟨_, _, ⟨T13, L13, k13, n13⟩, -, X13, ⟨Lc13, hQ13, l13, y13, z13⟩, st13⟩ := X8.virtualBack hx (y := (⟨"com/example/kolejka/kolejka/store/MessageId", "equals", "(Ljava/lang/Object;)Z"⟩ : MethodName)) (z := (⟨"com/example/kolejka/kolejka/store/MessageId", "equals", "(Ljava/lang/Object;)Z"⟩ : MethodName)) hown (mvT hZ (hw _ (List.mem_of_getElem? (i := 14) rfl))) (mvT hZ (hw _ (List.mem_of_getElem? (i := 15) rfl))) (notFace_of_selects (args := #[]) (mvT hZ (hw _ (List.mem_of_getElem? (i := 17) rfl)))) (mvT hZ (hw _ (List.mem_of_getElem? (i := 17) rfl))) (mvT hZ (hw _ (List.mem_of_getElem? (i := 16) rfl))) (by decide) (own_back (W := 0) (rmEm l Z a0 hw b1 b4 (p1 &&& (9223372036854775807 : Int64)) t2 (p2 &&& (32767 : Int32)) s2 h8 n0 Z8 A1_9 Ft2_10 Fs2_11 A4_12 Ft8 Fs8) hZ (hw _ (List.mem_of_getElem? (i := 18) rfl)) (hw _ (List.mem_of_getElem? (i := 3) rfl)) (by decide) (by decide)) qa13 qc13 (g := (mkF m 118 #[.val (.long p1), .second, .val (.int p2), .val (.long p3), .second, .val (.int p4), .val (.int p5), .val (.long (p1 &&& (9223372036854775807 : Int64))), .second, .val (.int (p2 &&& (32767 : Int32))), .val (.long t2), .second, .val (.int s2), .val (.ref b1), .val (.ref b4), .val (.int ((p5 >>> ((2 : Int32) &&& 31)) &&& (3 : Int32))), .val (.int z16), .unset, .unset] [(.ref b4), (.ref b1)])) rfl (by rw [hml]; rfl) (Steps.refl _) (argsL := [(.ref b4)]) (rest := []) (lenOf pd_2 rfl) rfl (by show 2 * 0 + _ ≤ _; exact Nat.le_of_eq rfl) (hb hby at_118) (fun _ _ => ⟨rfl, e8, (Nat.le_of_ble_eq_true rfl), (Nat.le_of_ble_eq_true rfl)⟩)
          dsimp only [Pt.U, Pt.locs, Pt.cells, Pt.slots] at X13 l13 y13 z13 st13 hQ13
          subst l13 y13 z13
          obtain ⟨z13, rfl, Nq13, he13, hB13⟩ := hQ13
          have N13 := Fr.app N8 Nq13
          have e13 : T13.heap = h8 := he13
          refine own_st (T' := T13) (g' := (mkF m 121 #[.val (.long p1), .second, .val (.int p2), .val (.long p3), .second, .val (.int p4), .val (.int p5), .val (.long (p1 &&& (9223372036854775807 : Int64))), .second, .val (.int (p2 &&& (32767 : Int32))), .val (.long t2), .second, .val (.int s2), .val (.ref b1), .val (.ref b4), .val (.int ((p5 >>> ((2 : Int32) &&& 31)) &&& (3 : Int32))), .val (.int z16), .unset, .unset] [(.int z13)])) (fun t9 k9 => st13.trans k9) ?_
          refine own_st (T' := T13) (g' := (mkF m 123 #[.val (.long p1), .second, .val (.int p2), .val (.long p3), .second, .val (.int p4), .val (.int p5), .val (.long (p1 &&& (9223372036854775807 : Int64))), .second, .val (.int (p2 &&& (32767 : Int32))), .val (.long t2), .second, .val (.int s2), .val (.ref b1), .val (.ref b4), .val (.int ((p5 >>> ((2 : Int32) &&& 31)) &&& (3 : Int32))), .val (.int z16), .val (.int z13), .unset] [])) (fun t9 k9 => XS.istore X13.here hx rfl (hb hby at_121) rfl (l' := #[.val (.long p1), .second, .val (.int p2), .val (.long p3), .second, .val (.int p4), .val (.int p5), .val (.long (p1 &&& (9223372036854775807 : Int64))), .second, .val (.int (p2 &&& (32767 : Int32))), .val (.long t2), .second, .val (.int s2), .val (.ref b1), .val (.ref b4), .val (.int ((p5 >>> ((2 : Int32) &&& 31)) &&& (3 : Int32))), .val (.int z16), .val (.int z13), .unset]) rfl k9) ?_
          refine own_st (T' := T13) (g' := (mkF m 125 #[.val (.long p1), .second, .val (.int p2), .val (.long p3), .second, .val (.int p4), .val (.int p5), .val (.long (p1 &&& (9223372036854775807 : Int64))), .second, .val (.int (p2 &&& (32767 : Int32))), .val (.long t2), .second, .val (.int s2), .val (.ref b1), .val (.ref b4), .val (.int ((p5 >>> ((2 : Int32) &&& 31)) &&& (3 : Int32))), .val (.int z16), .val (.int z13), .unset] [(.ref b4)])) (fun t9 k9 => XS.aload X13.here hx rfl (hb hby at_123) rfl rfl k9) ?_
          refine own_st (T' := T13) (g' := (mkF m 127 #[.val (.long p1), .second, .val (.int p2), .val (.long p3), .second, .val (.int p4), .val (.int p5), .val (.long (p1 &&& (9223372036854775807 : Int64))), .second, .val (.int (p2 &&& (32767 : Int32))), .val (.long t2), .second, .val (.int s2), .val (.ref b1), .val (.ref b4), .val (.int ((p5 >>> ((2 : Int32) &&& 31)) &&& (3 : Int32))), .val (.int z16), .val (.int z13), .unset] [(.ref b1), (.ref b4)])) (fun t9 k9 => XS.aload X13.here hx rfl (hb hby at_125) rfl rfl k9) ?_
          obtain ⟨cq14, kq14, qa14, qb14, qc14⟩ := isOf hZ e13 A4_12
          obtain ⟨_, _, ⟨T14, L14, k14, n14⟩, -, X14, ⟨Lc14, hQ14, l14, y14, z14⟩, st14⟩ := X13.virtualBack hx (y := (⟨"com/example/kolejka/kolejka/store/MessageId", "equals", "(Ljava/lang/Object;)Z"⟩ : MethodName)) (z := (⟨"com/example/kolejka/kolejka/store/MessageId", "equals", "(Ljava/lang/Object;)Z"⟩ : MethodName)) hown (mvT hZ (hw _ (List.mem_of_getElem? (i := 14) rfl))) (mvT hZ (hw _ (List.mem_of_getElem? (i := 15) rfl))) (notFace_of_selects (args := #[]) (mvT hZ (hw _ (List.mem_of_getElem? (i := 17) rfl)))) (mvT hZ (hw _ (List.mem_of_getElem? (i := 17) rfl))) (mvT hZ (hw _ (List.mem_of_getElem? (i := 16) rfl))) (by decide) (own_back (W := 0) (rmEm l Z a0 hw b4 b1 t2 (p1 &&& (9223372036854775807 : Int64)) s2 (p2 &&& (32767 : Int32)) h8 n0 Z8 A4_12 Ft8 Fs8 A1_9 Ft2_10 Fs2_11) hZ (hw _ (List.mem_of_getElem? (i := 18) rfl)) (hw _ (List.mem_of_getElem? (i := 3) rfl)) (by decide) (by decide)) qa14 qc14 (g := (mkF m 127 #[.val (.long p1), .second, .val (.int p2), .val (.long p3), .second, .val (.int p4), .val (.int p5), .val (.long (p1 &&& (9223372036854775807 : Int64))), .second, .val (.int (p2 &&& (32767 : Int32))), .val (.long t2), .second, .val (.int s2), .val (.ref b1), .val (.ref b4), .val (.int ((p5 >>> ((2 : Int32) &&& 31)) &&& (3 : Int32))), .val (.int z16), .val (.int z13), .unset] [(.ref b1), (.ref b4)])) rfl (by rw [hml]; rfl) (Steps.refl _) (argsL := [(.ref b1)]) (rest := []) (lenOf pd_2 rfl) rfl (by show 2 * 0 + _ ≤ _; exact Nat.le_of_eq rfl) (hb hby at_127) (fun _ _ => ⟨rfl, e13, (Nat.le_of_ble_eq_true rfl), (Nat.le_of_ble_eq_true rfl)⟩)
          dsimp only [Pt.U, Pt.locs, Pt.cells, Pt.slots] at X14 l14 y14 z14 st14 hQ14
          subst l14 y14 z14
          obtain ⟨z14, rfl, Nq14, he14, hB14⟩ := hQ14
          have N14 := Fr.app N13 Nq14
          have e14 : T14.heap = h8 := he14
          refine own_st (T' := T14) (g' := (mkF m 130 #[.val (.long p1), .second, .val (.int p2), .val (.long p3), .second, .val (.int p4), .val (.int p5), .val (.long (p1 &&& (9223372036854775807 : Int64))), .second, .val (.int (p2 &&& (32767 : Int32))), .val (.long t2), .second, .val (.int s2), .val (.ref b1), .val (.ref b4), .val (.int ((p5 >>> ((2 : Int32) &&& 31)) &&& (3 : Int32))), .val (.int z16), .val (.int z13), .unset] [(.int z14)])) (fun t9 k9 => st14.trans k9) ?_
          refine own_st (T' := T14) (g' := (mkF m 132 #[.val (.long p1), .second, .val (.int p2), .val (.long p3), .second, .val (.int p4), .val (.int p5), .val (.long (p1 &&& (9223372036854775807 : Int64))), .second, .val (.int (p2 &&& (32767 : Int32))), .val (.long t2), .second, .val (.int s2), .val (.ref b1), .val (.ref b4), .val (.int ((p5 >>> ((2 : Int32) &&& 31)) &&& (3 : Int32))), .val (.int z16), .val (.int z13), .val (.int z14)] [])) (fun t9 k9 => XS.istore X14.here hx rfl (hb hby at_130) rfl (l' := #[.val (.long p1), .second, .val (.int p2), .val (.long p3), .second, .val (.int p4), .val (.int p5), .val (.long (p1 &&& (9223372036854775807 : Int64))), .second, .val (.int (p2 &&& (32767 : Int32))), .val (.long t2), .second, .val (.int s2), .val (.ref b1), .val (.ref b4), .val (.int ((p5 >>> ((2 : Int32) &&& 31)) &&& (3 : Int32))), .val (.int z16), .val (.int z13), .val (.int z14)]) rfl k9) ?_
          refine own_st (T' := T14) (g' := (mkF m 134 #[.val (.long p1), .second, .val (.int p2), .val (.long p3), .second, .val (.int p4), .val (.int p5), .val (.long (p1 &&& (9223372036854775807 : Int64))), .second, .val (.int (p2 &&& (32767 : Int32))), .val (.long t2), .second, .val (.int s2), .val (.ref b1), .val (.ref b4), .val (.int ((p5 >>> ((2 : Int32) &&& 31)) &&& (3 : Int32))), .val (.int z16), .val (.int z13), .val (.int z14)] [(.int z13)])) (fun t9 k9 => XS.iload X14.here hx rfl (hb hby at_132) rfl k9) ?_
          refine own_st (T' := T14) (g' := (mkF m 136 #[.val (.long p1), .second, .val (.int p2), .val (.long p3), .second, .val (.int p4), .val (.int p5), .val (.long (p1 &&& (9223372036854775807 : Int64))), .second, .val (.int (p2 &&& (32767 : Int32))), .val (.long t2), .second, .val (.int s2), .val (.ref b1), .val (.ref b4), .val (.int ((p5 >>> ((2 : Int32) &&& 31)) &&& (3 : Int32))), .val (.int z16), .val (.int z13), .val (.int z14)] [(.int z16), (.int z13)])) (fun t9 k9 => XS.iload X14.here hx rfl (hb hby at_134) rfl k9) ?_
          refine own_st (T' := T14) (g' := (mkF m 139 #[.val (.long p1), .second, .val (.int p2), .val (.long p3), .second, .val (.int p4), .val (.int p5), .val (.long (p1 &&& (9223372036854775807 : Int64))), .second, .val (.int (p2 &&& (32767 : Int32))), .val (.long t2), .second, .val (.int s2), .val (.ref b1), .val (.ref b4), .val (.int ((p5 >>> ((2 : Int32) &&& 31)) &&& (3 : Int32))), .val (.int z16), .val (.int z13), .val (.int z14)] [])) (fun t9 k9 => XS.icmpNo X14.here hx rfl (hb hby at_136) rfl (teq (own_B.eq hB13 hz16 ⟨fun q => ⟨q.1.symm, q.2.symm⟩, fun q => ⟨q.1.symm, q.2.symm⟩⟩)).2 k9) ?_
          refine own_st (T' := T14) (g' := (mkF m 141 #[.val (.long p1), .second, .val (.int p2), .val (.long p3), .second, .val (.int p4), .val (.int p5), .val (.long (p1 &&& (9223372036854775807 : Int64))), .second, .val (.int (p2 &&& (32767 : Int32))), .val (.long t2), .second, .val (.int s2), .val (.ref b1), .val (.ref b4), .val (.int ((p5 >>> ((2 : Int32) &&& 31)) &&& (3 : Int32))), .val (.int z16), .val (.int z13), .val (.int z14)] [(.int z14)])) (fun t9 k9 => XS.iload X14.here hx rfl (hb hby at_139) rfl k9) ?_
          refine own_st (T' := T14) (g' := (mkF m 143 #[.val (.long p1), .second, .val (.int p2), .val (.long p3), .second, .val (.int p4), .val (.int p5), .val (.long (p1 &&& (9223372036854775807 : Int64))), .second, .val (.int (p2 &&& (32767 : Int32))), .val (.long t2), .second, .val (.int s2), .val (.ref b1), .val (.ref b4), .val (.int ((p5 >>> ((2 : Int32) &&& 31)) &&& (3 : Int32))), .val (.int z16), .val (.int z13), .val (.int z14)] [(.int z16), (.int z14)])) (fun t9 k9 => XS.iload X14.here hx rfl (hb hby at_141) rfl k9) ?_
          refine own_st (T' := T14) (g' := (mkF m 146 #[.val (.long p1), .second, .val (.int p2), .val (.long p3), .second, .val (.int p4), .val (.int p5), .val (.long (p1 &&& (9223372036854775807 : Int64))), .second, .val (.int (p2 &&& (32767 : Int32))), .val (.long t2), .second, .val (.int s2), .val (.ref b1), .val (.ref b4), .val (.int ((p5 >>> ((2 : Int32) &&& 31)) &&& (3 : Int32))), .val (.int z16), .val (.int z13), .val (.int z14)] [])) (fun t9 k9 => XS.icmpNo X14.here hx rfl (hb hby at_143) rfl (teq (own_B.eq hB14 hz16 Iff.rfl)).2 k9) ?_
          refine own_st (T' := T14) (g' := (mkF m 147 #[.val (.long p1), .second, .val (.int p2), .val (.long p3), .second, .val (.int p4), .val (.int p5), .val (.long (p1 &&& (9223372036854775807 : Int64))), .second, .val (.int (p2 &&& (32767 : Int32))), .val (.long t2), .second, .val (.int s2), .val (.ref b1), .val (.ref b4), .val (.int ((p5 >>> ((2 : Int32) &&& 31)) &&& (3 : Int32))), .val (.int z16), .val (.int z13), .val (.int z14)] [(.int (1 : Int32))])) (fun t9 k9 => XS.iconst X14.here hx rfl (hb hby at_146) k9) ?_
          refine own_st (T' := T14) (g' := (mkF m 151 #[.val (.long p1), .second, .val (.int p2), .val (.long p3), .second, .val (.int p4), .val (.int p5), .val (.long (p1 &&& (9223372036854775807 : Int64))), .second, .val (.int (p2 &&& (32767 : Int32))), .val (.long t2), .second, .val (.int s2), .val (.ref b1), .val (.ref b4), .val (.int ((p5 >>> ((2 : Int32) &&& 31)) &&& (3 : Int32))), .val (.int z16), .val (.int z13), .val (.int z14)] [(.int (1 : Int32))])) (fun t9 k9 => XS.goto X14.here hx rfl (pc0 := 147) (pc' := 151) rfl (hb hby at_147) (by decide) (by decide) k9) ?_
          refine own_ret (v := some (.int (1 : Int32))) hF X14 (own_some hret) hlk (fun fs hr => retN X14 hx (t := .boolean) hret (by simp) (hb hby at_151) hr) ?_ (by decide) (by decide)
          try rw [e14]
          exact ⟨rfl, N14⟩
        · refine own_st (T' := T8) (g' := (mkF m 152 #[.val (.long p1), .second, .val (.int p2), .val (.long p3), .second, .val (.int p4), .val (.int p5), .val (.long (p1 &&& (9223372036854775807 : Int64))), .second, .val (.int (p2 &&& (32767 : Int32))), .val (.long t2), .second, .val (.int s2), .val (.ref b1), .val (.ref b4), .val (.int ((p5 >>> ((2 : Int32) &&& 31)) &&& (3 : Int32))), .val (.int z16), .unset, .unset] [])) (fun t9 k9 => XS.ifYes X8.here hx rfl (pc0 := 111) (pc' := 152) rfl (hb hby at_111) rfl ((if0 _ _).trans (feq hk0).2) (by decide) (by decide) k9) ?_
          refine own_st (T' := T8) (g' := (mkF m 154 #[.val (.long p1), .second, .val (.int p2), .val (.long p3), .second, .val (.int p4), .val (.int p5), .val (.long (p1 &&& (9223372036854775807 : Int64))), .second, .val (.int (p2 &&& (32767 : Int32))), .val (.long t2), .second, .val (.int s2), .val (.ref b1), .val (.ref b4), .val (.int ((p5 >>> ((2 : Int32) &&& 31)) &&& (3 : Int32))), .val (.int z16), .unset, .unset] [(.int ((p5 >>> ((2 : Int32) &&& 31)) &&& (3 : Int32)))])) (fun t9 k9 => XS.iload X8.here hx rfl (hb hby at_152) rfl k9) ?_
          refine own_st (T' := T8) (g' := (mkF m 155 #[.val (.long p1), .second, .val (.int p2), .val (.long p3), .second, .val (.int p4), .val (.int p5), .val (.long (p1 &&& (9223372036854775807 : Int64))), .second, .val (.int (p2 &&& (32767 : Int32))), .val (.long t2), .second, .val (.int s2), .val (.ref b1), .val (.ref b4), .val (.int ((p5 >>> ((2 : Int32) &&& 31)) &&& (3 : Int32))), .val (.int z16), .unset, .unset] [(.int (1 : Int32)), (.int ((p5 >>> ((2 : Int32) &&& 31)) &&& (3 : Int32)))])) (fun t9 k9 => XS.iconst X8.here hx rfl (hb hby at_154) k9) ?_
          by_cases hk1 : ((p5 >>> ((2 : Int32) &&& 31)) &&& (3 : Int32)) = (1 : Int32)
          · refine own_st (T' := T8) (g' := (mkF m 158 #[.val (.long p1), .second, .val (.int p2), .val (.long p3), .second, .val (.int p4), .val (.int p5), .val (.long (p1 &&& (9223372036854775807 : Int64))), .second, .val (.int (p2 &&& (32767 : Int32))), .val (.long t2), .second, .val (.int s2), .val (.ref b1), .val (.ref b4), .val (.int ((p5 >>> ((2 : Int32) &&& 31)) &&& (3 : Int32))), .val (.int z16), .unset, .unset] [])) (fun t9 k9 => XS.icmpNo X8.here hx rfl (hb hby at_155) rfl (teq hk1).2 k9) ?_
            refine own_st (T' := T8) (g' := (mkF m 159 #[.val (.long p1), .second, .val (.int p2), .val (.long p3), .second, .val (.int p4), .val (.int p5), .val (.long (p1 &&& (9223372036854775807 : Int64))), .second, .val (.int (p2 &&& (32767 : Int32))), .val (.long t2), .second, .val (.int s2), .val (.ref b1), .val (.ref b4), .val (.int ((p5 >>> ((2 : Int32) &&& 31)) &&& (3 : Int32))), .val (.int z16), .unset, .unset] [.null])) (fun t9 k9 => XS.aconstNull X8.here hx rfl (hb hby at_158) k9) ?_
            refine own_st (T' := T8) (g' := (mkF m 161 #[.val (.long p1), .second, .val (.int p2), .val (.long p3), .second, .val (.int p4), .val (.int p5), .val (.long (p1 &&& (9223372036854775807 : Int64))), .second, .val (.int (p2 &&& (32767 : Int32))), .val (.long t2), .second, .val (.int s2), .val (.ref b1), .val (.ref b4), .val (.int ((p5 >>> ((2 : Int32) &&& 31)) &&& (3 : Int32))), .val (.int z16), .val .null, .unset] [])) (fun t9 k9 => XS.astore X8.here hx rfl (hb hby at_159) rfl rfl (l' := #[.val (.long p1), .second, .val (.int p2), .val (.long p3), .second, .val (.int p4), .val (.int p5), .val (.long (p1 &&& (9223372036854775807 : Int64))), .second, .val (.int (p2 &&& (32767 : Int32))), .val (.long t2), .second, .val (.int s2), .val (.ref b1), .val (.ref b4), .val (.int ((p5 >>> ((2 : Int32) &&& 31)) &&& (3 : Int32))), .val (.int z16), .val .null, .unset]) rfl k9) ?_
            refine own_st (T' := T8) (g' := (mkF m 163 #[.val (.long p1), .second, .val (.int p2), .val (.long p3), .second, .val (.int p4), .val (.int p5), .val (.long (p1 &&& (9223372036854775807 : Int64))), .second, .val (.int (p2 &&& (32767 : Int32))), .val (.long t2), .second, .val (.int s2), .val (.ref b1), .val (.ref b4), .val (.int ((p5 >>> ((2 : Int32) &&& 31)) &&& (3 : Int32))), .val (.int z16), .val .null, .unset] [(.ref b1)])) (fun t9 k9 => XS.aload X8.here hx rfl (hb hby at_161) rfl rfl k9) ?_
            refine own_st (T' := T8) (g' := (mkF m 165 #[.val (.long p1), .second, .val (.int p2), .val (.long p3), .second, .val (.int p4), .val (.int p5), .val (.long (p1 &&& (9223372036854775807 : Int64))), .second, .val (.int (p2 &&& (32767 : Int32))), .val (.long t2), .second, .val (.int s2), .val (.ref b1), .val (.ref b4), .val (.int ((p5 >>> ((2 : Int32) &&& 31)) &&& (3 : Int32))), .val (.int z16), .val .null, .unset] [.null, (.ref b1)])) (fun t9 k9 => XS.aload X8.here hx rfl (hb hby at_163) rfl rfl k9) ?_
            obtain ⟨cq15, kq15, qa15, qb15, qc15⟩ := isOf hZ e8 A1_9
            obtain ⟨_, _, ⟨T15, L15, k15, n15⟩, -, X15, ⟨Lc15, hQ15, l15, y15, z15⟩, st15⟩ := X8.virtualBack hx (y := (⟨"com/example/kolejka/kolejka/store/MessageId", "equals", "(Ljava/lang/Object;)Z"⟩ : MethodName)) (z := (⟨"com/example/kolejka/kolejka/store/MessageId", "equals", "(Ljava/lang/Object;)Z"⟩ : MethodName)) hown (mvT hZ (hw _ (List.mem_of_getElem? (i := 14) rfl))) (mvT hZ (hw _ (List.mem_of_getElem? (i := 15) rfl))) (notFace_of_selects (args := #[]) (mvT hZ (hw _ (List.mem_of_getElem? (i := 17) rfl)))) (mvT hZ (hw _ (List.mem_of_getElem? (i := 17) rfl))) (mvT hZ (hw _ (List.mem_of_getElem? (i := 16) rfl))) (by decide) (own_back (W := 0) (rmEn l Z a0 hw b1 h8 n0 Z8) hZ (hw _ (List.mem_of_getElem? (i := 18) rfl)) (hw _ (List.mem_of_getElem? (i := 3) rfl)) (by decide) (by decide)) qa15 qc15 (g := (mkF m 165 #[.val (.long p1), .second, .val (.int p2), .val (.long p3), .second, .val (.int p4), .val (.int p5), .val (.long (p1 &&& (9223372036854775807 : Int64))), .second, .val (.int (p2 &&& (32767 : Int32))), .val (.long t2), .second, .val (.int s2), .val (.ref b1), .val (.ref b4), .val (.int ((p5 >>> ((2 : Int32) &&& 31)) &&& (3 : Int32))), .val (.int z16), .val .null, .unset] [.null, (.ref b1)])) rfl (by rw [hml]; rfl) (Steps.refl _) (argsL := [.null]) (rest := []) (lenOf pd_2 rfl) rfl (by show 2 * 0 + _ ≤ _; exact Nat.le_of_eq rfl) (hb hby at_165) (fun _ _ => ⟨rfl, e8, (Nat.le_of_ble_eq_true rfl), (Nat.le_of_ble_eq_true rfl)⟩)
            dsimp only [Pt.U, Pt.locs, Pt.cells, Pt.slots] at X15 l15 y15 z15 st15 hQ15
            subst l15 y15 z15
            obtain ⟨rfl, Nq15, he15⟩ := hQ15
            have N15 := Fr.app N8 Nq15
            have e15 : T15.heap = h8 := he15
            refine own_st (T' := T15) (g' := (mkF m 168 #[.val (.long p1), .second, .val (.int p2), .val (.long p3), .second, .val (.int p4), .val (.int p5), .val (.long (p1 &&& (9223372036854775807 : Int64))), .second, .val (.int (p2 &&& (32767 : Int32))), .val (.long t2), .second, .val (.int s2), .val (.ref b1), .val (.ref b4), .val (.int ((p5 >>> ((2 : Int32) &&& 31)) &&& (3 : Int32))), .val (.int z16), .val .null, .unset] [(.int (0 : Int32))])) (fun t9 k9 => st15.trans k9) ?_
            refine own_st (T' := T15) (g' := (mkF m 171 #[.val (.long p1), .second, .val (.int p2), .val (.long p3), .second, .val (.int p4), .val (.int p5), .val (.long (p1 &&& (9223372036854775807 : Int64))), .second, .val (.int (p2 &&& (32767 : Int32))), .val (.long t2), .second, .val (.int s2), .val (.ref b1), .val (.ref b4), .val (.int ((p5 >>> ((2 : Int32) &&& 31)) &&& (3 : Int32))), .val (.int z16), .val .null, .unset] [])) (fun t9 k9 => XS.ifNo X15.here hx rfl (hb hby at_168) rfl ((if0 _ _).trans (teq rfl).2) k9) ?_
            refine own_st (T' := T15) (g' := (mkF m 172 #[.val (.long p1), .second, .val (.int p2), .val (.long p3), .second, .val (.int p4), .val (.int p5), .val (.long (p1 &&& (9223372036854775807 : Int64))), .second, .val (.int (p2 &&& (32767 : Int32))), .val (.long t2), .second, .val (.int s2), .val (.ref b1), .val (.ref b4), .val (.int ((p5 >>> ((2 : Int32) &&& 31)) &&& (3 : Int32))), .val (.int z16), .val .null, .unset] [(.int (1 : Int32))])) (fun t9 k9 => XS.iconst X15.here hx rfl (hb hby at_171) k9) ?_
            refine own_st (T' := T15) (g' := (mkF m 176 #[.val (.long p1), .second, .val (.int p2), .val (.long p3), .second, .val (.int p4), .val (.int p5), .val (.long (p1 &&& (9223372036854775807 : Int64))), .second, .val (.int (p2 &&& (32767 : Int32))), .val (.long t2), .second, .val (.int s2), .val (.ref b1), .val (.ref b4), .val (.int ((p5 >>> ((2 : Int32) &&& 31)) &&& (3 : Int32))), .val (.int z16), .val .null, .unset] [(.int (1 : Int32))])) (fun t9 k9 => XS.goto X15.here hx rfl (pc0 := 172) (pc' := 176) rfl (hb hby at_172) (by decide) (by decide) k9) ?_
            refine own_ret (v := some (.int (1 : Int32))) hF X15 (own_some hret) hlk (fun fs hr => retN X15 hx (t := .boolean) hret (by simp) (hb hby at_176) hr) ?_ (by decide) (by decide)
            try rw [e15]
            exact ⟨rfl, N15⟩
          · refine own_st (T' := T8) (g' := (mkF m 177 #[.val (.long p1), .second, .val (.int p2), .val (.long p3), .second, .val (.int p4), .val (.int p5), .val (.long (p1 &&& (9223372036854775807 : Int64))), .second, .val (.int (p2 &&& (32767 : Int32))), .val (.long t2), .second, .val (.int s2), .val (.ref b1), .val (.ref b4), .val (.int ((p5 >>> ((2 : Int32) &&& 31)) &&& (3 : Int32))), .val (.int z16), .unset, .unset] [])) (fun t9 k9 => XS.icmpYes X8.here hx rfl (pc0 := 155) (pc' := 177) rfl (hb hby at_155) rfl (feq hk1).2 (by decide) (by decide) k9) ?_
            refine own_st (T' := T8) (g' := (mkF m 179 #[.val (.long p1), .second, .val (.int p2), .val (.long p3), .second, .val (.int p4), .val (.int p5), .val (.long (p1 &&& (9223372036854775807 : Int64))), .second, .val (.int (p2 &&& (32767 : Int32))), .val (.long t2), .second, .val (.int s2), .val (.ref b1), .val (.ref b4), .val (.int ((p5 >>> ((2 : Int32) &&& 31)) &&& (3 : Int32))), .val (.int z16), .unset, .unset] [(.int ((p5 >>> ((2 : Int32) &&& 31)) &&& (3 : Int32)))])) (fun t9 k9 => XS.iload X8.here hx rfl (hb hby at_177) rfl k9) ?_
            refine own_st (T' := T8) (g' := (mkF m 180 #[.val (.long p1), .second, .val (.int p2), .val (.long p3), .second, .val (.int p4), .val (.int p5), .val (.long (p1 &&& (9223372036854775807 : Int64))), .second, .val (.int (p2 &&& (32767 : Int32))), .val (.long t2), .second, .val (.int s2), .val (.ref b1), .val (.ref b4), .val (.int ((p5 >>> ((2 : Int32) &&& 31)) &&& (3 : Int32))), .val (.int z16), .unset, .unset] [(.int (2 : Int32)), (.int ((p5 >>> ((2 : Int32) &&& 31)) &&& (3 : Int32)))])) (fun t9 k9 => XS.iconst X8.here hx rfl (hb hby at_179) k9) ?_
            by_cases hk2 : ((p5 >>> ((2 : Int32) &&& 31)) &&& (3 : Int32)) = (2 : Int32)
            · refine own_st (T' := T8) (g' := (mkF m 183 #[.val (.long p1), .second, .val (.int p2), .val (.long p3), .second, .val (.int p4), .val (.int p5), .val (.long (p1 &&& (9223372036854775807 : Int64))), .second, .val (.int (p2 &&& (32767 : Int32))), .val (.long t2), .second, .val (.int s2), .val (.ref b1), .val (.ref b4), .val (.int ((p5 >>> ((2 : Int32) &&& 31)) &&& (3 : Int32))), .val (.int z16), .unset, .unset] [])) (fun t9 k9 => XS.icmpNo X8.here hx rfl (hb hby at_180) rfl (teq hk2).2 k9) ?_
              refine own_st (T' := T8) (g' := (mkF m 185 #[.val (.long p1), .second, .val (.int p2), .val (.long p3), .second, .val (.int p4), .val (.int p5), .val (.long (p1 &&& (9223372036854775807 : Int64))), .second, .val (.int (p2 &&& (32767 : Int32))), .val (.long t2), .second, .val (.int s2), .val (.ref b1), .val (.ref b4), .val (.int ((p5 >>> ((2 : Int32) &&& 31)) &&& (3 : Int32))), .val (.int z16), .unset, .unset] [(.long (p1 &&& (9223372036854775807 : Int64)))])) (fun t9 k9 => XS.lload X8.here hx rfl (hb hby at_183) rfl k9) ?_
              obtain ⟨_, _, ⟨T16, L16, k16, n16⟩, -, X16, ⟨Lc16, hQ16, l16, y16, z16⟩, st16⟩ := Jvm.LawKit.callS X8 hx (y := (⟨"java/lang/Long", "valueOf", "(J)Ljava/lang/Long;"⟩ : MethodName)) hown (mvT hZ (hw _ (List.mem_of_getElem? (i := 21) rfl))) (mvT hZ (hw _ (List.mem_of_getElem? (i := 22) rfl))) (mvT hZ (hw _ (List.mem_of_getElem? (i := 23) rfl))) (mvT hZ (hw _ (List.mem_of_getElem? (i := 24) rfl))) (by decide) (own_back (W := 0) (rm4 l Z a0 hw (p1 &&& (9223372036854775807 : Int64)) cc cl h8 n0 Z8 O8 (S0.ext O8.2) B0 ht1) hZ (hw _ (List.mem_of_getElem? (i := 24) rfl)) (hw _ (List.mem_of_getElem? (i := 23) rfl)) (by decide) (by decide)) (g := (mkF m 185 #[.val (.long p1), .second, .val (.int p2), .val (.long p3), .second, .val (.int p4), .val (.int p5), .val (.long (p1 &&& (9223372036854775807 : Int64))), .second, .val (.int (p2 &&& (32767 : Int32))), .val (.long t2), .second, .val (.int s2), .val (.ref b1), .val (.ref b4), .val (.int ((p5 >>> ((2 : Int32) &&& 31)) &&& (3 : Int32))), .val (.int z16), .unset, .unset] [(.long (p1 &&& (9223372036854775807 : Int64)))])) rfl (by rw [hml]; rfl) (argsL := [(.long (p1 &&& (9223372036854775807 : Int64)))]) (rest := []) (lenOf pd_3 rfl) rfl (by show 2 * 0 + _ ≤ _; exact Nat.le_of_eq rfl) (hb hby at_185) (fun _ _ => ⟨rfl, e8, (Nat.le_of_ble_eq_true rfl), (Nat.le_of_ble_eq_true rfl)⟩)
              dsimp only [Pt.U, Pt.locs, Pt.cells, Pt.slots] at X16 l16 y16 z16 st16 hQ16
              subst l16 y16 z16
              obtain ⟨b16, rfl, Nq16, Kq16, Eq16⟩ := hQ16
              have N16 := Fr.app N8 Nq16
              obtain ⟨h16, e16⟩ : ∃ z, T16.heap = z := ⟨_, rfl⟩
              rw [e16] at Kq16 Eq16
              have A1_17 := A1_9.keep Kq16
              have Ft2_18 := Ft2_10.keep Kq16 nin0
              have Fs2_19 := Fs2_11.keep Kq16 nin0
              have A4_20 := A4_12.keep Kq16
              have Ft8_21 := Ft8.keep Kq16 nin0
              have Fs8_22 := Fs8.keep Kq16 nin0
              have K16 := K8.trans Kq16 all0
              have Z16 : n0 ≤ h16.size := Nat.le_trans Z8 Kq16.1
              have O16 := O8.keep Kq16 all0
              refine own_st (T' := T16) (g' := (mkF m 188 #[.val (.long p1), .second, .val (.int p2), .val (.long p3), .second, .val (.int p4), .val (.int p5), .val (.long (p1 &&& (9223372036854775807 : Int64))), .second, .val (.int (p2 &&& (32767 : Int32))), .val (.long t2), .second, .val (.int s2), .val (.ref b1), .val (.ref b4), .val (.int ((p5 >>> ((2 : Int32) &&& 31)) &&& (3 : Int32))), .val (.int z16), .unset, .unset] [(.ref b16)])) (fun t9 k9 => st16 t9 k9) ?_
              refine own_st (T' := T16) (g' := (mkF m 190 #[.val (.long p1), .second, .val (.int p2), .val (.long p3), .second, .val (.int p4), .val (.int p5), .val (.long (p1 &&& (9223372036854775807 : Int64))), .second, .val (.int (p2 &&& (32767 : Int32))), .val (.long t2), .second, .val (.int s2), .val (.ref b1), .val (.ref b4), .val (.int ((p5 >>> ((2 : Int32) &&& 31)) &&& (3 : Int32))), .val (.int z16), .val (.ref b16), .unset] [])) (fun t9 k9 => XS.astore X16.here hx rfl (hb hby at_188) rfl rfl (l' := #[.val (.long p1), .second, .val (.int p2), .val (.long p3), .second, .val (.int p4), .val (.int p5), .val (.long (p1 &&& (9223372036854775807 : Int64))), .second, .val (.int (p2 &&& (32767 : Int32))), .val (.long t2), .second, .val (.int s2), .val (.ref b1), .val (.ref b4), .val (.int ((p5 >>> ((2 : Int32) &&& 31)) &&& (3 : Int32))), .val (.int z16), .val (.ref b16), .unset]) rfl k9) ?_
              refine own_st (T' := T16) (g' := (mkF m 192 #[.val (.long p1), .second, .val (.int p2), .val (.long p3), .second, .val (.int p4), .val (.int p5), .val (.long (p1 &&& (9223372036854775807 : Int64))), .second, .val (.int (p2 &&& (32767 : Int32))), .val (.long t2), .second, .val (.int s2), .val (.ref b1), .val (.ref b4), .val (.int ((p5 >>> ((2 : Int32) &&& 31)) &&& (3 : Int32))), .val (.int z16), .val (.ref b16), .unset] [(.ref b1)])) (fun t9 k9 => XS.aload X16.here hx rfl (hb hby at_190) rfl rfl k9) ?_
              refine own_st (T' := T16) (g' := (mkF m 194 #[.val (.long p1), .second, .val (.int p2), .val (.long p3), .second, .val (.int p4), .val (.int p5), .val (.long (p1 &&& (9223372036854775807 : Int64))), .second, .val (.int (p2 &&& (32767 : Int32))), .val (.long t2), .second, .val (.int s2), .val (.ref b1), .val (.ref b4), .val (.int ((p5 >>> ((2 : Int32) &&& 31)) &&& (3 : Int32))), .val (.int z16), .val (.ref b16), .unset] [(.ref b16), (.ref b1)])) (fun t9 k9 => XS.aload X16.here hx rfl (hb hby at_192) rfl rfl k9) ?_
              obtain ⟨cq23, kq23, qa23, qb23, qc23⟩ := isOf hZ e16 A1_17
              obtain ⟨_, _, ⟨T23, L23, k23, n23⟩, -, X23, ⟨Lc23, hQ23, l23, y23, z23⟩, st23⟩ := X16.virtualBack hx (y := (⟨"com/example/kolejka/kolejka/store/MessageId", "equals", "(Ljava/lang/Object;)Z"⟩ : MethodName)) (z := (⟨"com/example/kolejka/kolejka/store/MessageId", "equals", "(Ljava/lang/Object;)Z"⟩ : MethodName)) hown (mvT hZ (hw _ (List.mem_of_getElem? (i := 14) rfl))) (mvT hZ (hw _ (List.mem_of_getElem? (i := 15) rfl))) (notFace_of_selects (args := #[]) (mvT hZ (hw _ (List.mem_of_getElem? (i := 17) rfl)))) (mvT hZ (hw _ (List.mem_of_getElem? (i := 17) rfl))) (mvT hZ (hw _ (List.mem_of_getElem? (i := 16) rfl))) (by decide) (own_back (W := 0) (rmEl l Z a0 hw b1 b16 h16 n0 Z16 Eq16) hZ (hw _ (List.mem_of_getElem? (i := 18) rfl)) (hw _ (List.mem_of_getElem? (i := 3) rfl)) (by decide) (by decide)) qa23 qc23 (g := (mkF m 194 #[.val (.long p1), .second, .val (.int p2), .val (.long p3), .second, .val (.int p4), .val (.int p5), .val (.long (p1 &&& (9223372036854775807 : Int64))), .second, .val (.int (p2 &&& (32767 : Int32))), .val (.long t2), .second, .val (.int s2), .val (.ref b1), .val (.ref b4), .val (.int ((p5 >>> ((2 : Int32) &&& 31)) &&& (3 : Int32))), .val (.int z16), .val (.ref b16), .unset] [(.ref b16), (.ref b1)])) rfl (by rw [hml]; rfl) (Steps.refl _) (argsL := [(.ref b16)]) (rest := []) (lenOf pd_2 rfl) rfl (by show 2 * 0 + _ ≤ _; exact Nat.le_of_eq rfl) (hb hby at_194) (fun _ _ => ⟨rfl, e16, (Nat.le_of_ble_eq_true rfl), (Nat.le_of_ble_eq_true rfl)⟩)
              dsimp only [Pt.U, Pt.locs, Pt.cells, Pt.slots] at X23 l23 y23 z23 st23 hQ23
              subst l23 y23 z23
              obtain ⟨rfl, Nq23, he23⟩ := hQ23
              have N23 := Fr.app N16 Nq23
              have e23 : T23.heap = h16 := he23
              refine own_st (T' := T23) (g' := (mkF m 197 #[.val (.long p1), .second, .val (.int p2), .val (.long p3), .second, .val (.int p4), .val (.int p5), .val (.long (p1 &&& (9223372036854775807 : Int64))), .second, .val (.int (p2 &&& (32767 : Int32))), .val (.long t2), .second, .val (.int s2), .val (.ref b1), .val (.ref b4), .val (.int ((p5 >>> ((2 : Int32) &&& 31)) &&& (3 : Int32))), .val (.int z16), .val (.ref b16), .unset] [(.int (0 : Int32))])) (fun t9 k9 => st23.trans k9) ?_
              refine own_st (T' := T23) (g' := (mkF m 200 #[.val (.long p1), .second, .val (.int p2), .val (.long p3), .second, .val (.int p4), .val (.int p5), .val (.long (p1 &&& (9223372036854775807 : Int64))), .second, .val (.int (p2 &&& (32767 : Int32))), .val (.long t2), .second, .val (.int s2), .val (.ref b1), .val (.ref b4), .val (.int ((p5 >>> ((2 : Int32) &&& 31)) &&& (3 : Int32))), .val (.int z16), .val (.ref b16), .unset] [])) (fun t9 k9 => XS.ifNo X23.here hx rfl (hb hby at_197) rfl ((if0 _ _).trans (teq rfl).2) k9) ?_
              refine own_st (T' := T23) (g' := (mkF m 201 #[.val (.long p1), .second, .val (.int p2), .val (.long p3), .second, .val (.int p4), .val (.int p5), .val (.long (p1 &&& (9223372036854775807 : Int64))), .second, .val (.int (p2 &&& (32767 : Int32))), .val (.long t2), .second, .val (.int s2), .val (.ref b1), .val (.ref b4), .val (.int ((p5 >>> ((2 : Int32) &&& 31)) &&& (3 : Int32))), .val (.int z16), .val (.ref b16), .unset] [(.int (1 : Int32))])) (fun t9 k9 => XS.iconst X23.here hx rfl (hb hby at_200) k9) ?_
              refine own_st (T' := T23) (g' := (mkF m 205 #[.val (.long p1), .second, .val (.int p2), .val (.long p3), .second, .val (.int p4), .val (.int p5), .val (.long (p1 &&& (9223372036854775807 : Int64))), .second, .val (.int (p2 &&& (32767 : Int32))), .val (.long t2), .second, .val (.int s2), .val (.ref b1), .val (.ref b4), .val (.int ((p5 >>> ((2 : Int32) &&& 31)) &&& (3 : Int32))), .val (.int z16), .val (.ref b16), .unset] [(.int (1 : Int32))])) (fun t9 k9 => XS.goto X23.here hx rfl (pc0 := 201) (pc' := 205) rfl (hb hby at_201) (by decide) (by decide) k9) ?_
              refine own_ret (v := some (.int (1 : Int32))) hF X23 (own_some hret) hlk (fun fs hr => retN X23 hx (t := .boolean) hret (by simp) (hb hby at_205) hr) ?_ (by decide) (by decide)
              try rw [e23]
              exact ⟨rfl, N23⟩
            · refine own_st (T' := T8) (g' := (mkF m 206 #[.val (.long p1), .second, .val (.int p2), .val (.long p3), .second, .val (.int p4), .val (.int p5), .val (.long (p1 &&& (9223372036854775807 : Int64))), .second, .val (.int (p2 &&& (32767 : Int32))), .val (.long t2), .second, .val (.int s2), .val (.ref b1), .val (.ref b4), .val (.int ((p5 >>> ((2 : Int32) &&& 31)) &&& (3 : Int32))), .val (.int z16), .unset, .unset] [])) (fun t9 k9 => XS.icmpYes X8.here hx rfl (pc0 := 180) (pc' := 206) rfl (hb hby at_180) rfl (feq hk2).2 (by decide) (by decide) k9) ?_
              refine own_st (T' := T8) (g' := (mkF m 208 #[.val (.long p1), .second, .val (.int p2), .val (.long p3), .second, .val (.int p4), .val (.int p5), .val (.long (p1 &&& (9223372036854775807 : Int64))), .second, .val (.int (p2 &&& (32767 : Int32))), .val (.long t2), .second, .val (.int s2), .val (.ref b1), .val (.ref b4), .val (.int ((p5 >>> ((2 : Int32) &&& 31)) &&& (3 : Int32))), .val (.int z16), .unset, .unset] [(.ref b1)])) (fun t9 k9 => XS.aload X8.here hx rfl (hb hby at_206) rfl rfl k9) ?_
              refine own_st (T' := T8) (g' := (mkF m 210 #[.val (.long p1), .second, .val (.int p2), .val (.long p3), .second, .val (.int p4), .val (.int p5), .val (.long (p1 &&& (9223372036854775807 : Int64))), .second, .val (.int (p2 &&& (32767 : Int32))), .val (.long t2), .second, .val (.int s2), .val (.ref b1), .val (.ref b4), .val (.int ((p5 >>> ((2 : Int32) &&& 31)) &&& (3 : Int32))), .val (.int z16), .val (.ref b1), .unset] [])) (fun t9 k9 => XS.astore X8.here hx rfl (hb hby at_208) rfl rfl (l' := #[.val (.long p1), .second, .val (.int p2), .val (.long p3), .second, .val (.int p4), .val (.int p5), .val (.long (p1 &&& (9223372036854775807 : Int64))), .second, .val (.int (p2 &&& (32767 : Int32))), .val (.long t2), .second, .val (.int s2), .val (.ref b1), .val (.ref b4), .val (.int ((p5 >>> ((2 : Int32) &&& 31)) &&& (3 : Int32))), .val (.int z16), .val (.ref b1), .unset]) rfl k9) ?_
              refine own_st (T' := T8) (g' := (mkF m 212 #[.val (.long p1), .second, .val (.int p2), .val (.long p3), .second, .val (.int p4), .val (.int p5), .val (.long (p1 &&& (9223372036854775807 : Int64))), .second, .val (.int (p2 &&& (32767 : Int32))), .val (.long t2), .second, .val (.int s2), .val (.ref b1), .val (.ref b4), .val (.int ((p5 >>> ((2 : Int32) &&& 31)) &&& (3 : Int32))), .val (.int z16), .val (.ref b1), .unset] [(.ref b1)])) (fun t9 k9 => XS.aload X8.here hx rfl (hb hby at_210) rfl rfl k9) ?_
              refine own_st (T' := T8) (g' := (mkF m 214 #[.val (.long p1), .second, .val (.int p2), .val (.long p3), .second, .val (.int p4), .val (.int p5), .val (.long (p1 &&& (9223372036854775807 : Int64))), .second, .val (.int (p2 &&& (32767 : Int32))), .val (.long t2), .second, .val (.int s2), .val (.ref b1), .val (.ref b4), .val (.int ((p5 >>> ((2 : Int32) &&& 31)) &&& (3 : Int32))), .val (.int z16), .val (.ref b1), .unset] [(.ref b1), (.ref b1)])) (fun t9 k9 => XS.aload X8.here hx rfl (hb hby at_212) rfl rfl k9) ?_
              obtain ⟨cq24, kq24, qa24, qb24, qc24⟩ := isOf hZ e8 A1_9
              obtain ⟨_, _, ⟨T24, L24, k24, n24⟩, -, X24, ⟨Lc24, hQ24, l24, y24, z24⟩, st24⟩ := X8.virtualBack hx (y := (⟨"com/example/kolejka/kolejka/store/MessageId", "equals", "(Ljava/lang/Object;)Z"⟩ : MethodName)) (z := (⟨"com/example/kolejka/kolejka/store/MessageId", "equals", "(Ljava/lang/Object;)Z"⟩ : MethodName)) hown (mvT hZ (hw _ (List.mem_of_getElem? (i := 14) rfl))) (mvT hZ (hw _ (List.mem_of_getElem? (i := 15) rfl))) (notFace_of_selects (args := #[]) (mvT hZ (hw _ (List.mem_of_getElem? (i := 17) rfl)))) (mvT hZ (hw _ (List.mem_of_getElem? (i := 17) rfl))) (mvT hZ (hw _ (List.mem_of_getElem? (i := 16) rfl))) (by decide) (own_back (W := 0) (rmEm l Z a0 hw b1 b1 (p1 &&& (9223372036854775807 : Int64)) (p1 &&& (9223372036854775807 : Int64)) (p2 &&& (32767 : Int32)) (p2 &&& (32767 : Int32)) h8 n0 Z8 A1_9 Ft2_10 Fs2_11 A1_9 Ft2_10 Fs2_11) hZ (hw _ (List.mem_of_getElem? (i := 18) rfl)) (hw _ (List.mem_of_getElem? (i := 3) rfl)) (by decide) (by decide)) qa24 qc24 (g := (mkF m 214 #[.val (.long p1), .second, .val (.int p2), .val (.long p3), .second, .val (.int p4), .val (.int p5), .val (.long (p1 &&& (9223372036854775807 : Int64))), .second, .val (.int (p2 &&& (32767 : Int32))), .val (.long t2), .second, .val (.int s2), .val (.ref b1), .val (.ref b4), .val (.int ((p5 >>> ((2 : Int32) &&& 31)) &&& (3 : Int32))), .val (.int z16), .val (.ref b1), .unset] [(.ref b1), (.ref b1)])) rfl (by rw [hml]; rfl) (Steps.refl _) (argsL := [(.ref b1)]) (rest := []) (lenOf pd_2 rfl) rfl (by show 2 * 0 + _ ≤ _; exact Nat.le_of_eq rfl) (hb hby at_214) (fun _ _ => ⟨rfl, e8, (Nat.le_of_ble_eq_true rfl), (Nat.le_of_ble_eq_true rfl)⟩)
              dsimp only [Pt.U, Pt.locs, Pt.cells, Pt.slots] at X24 l24 y24 z24 st24 hQ24
              subst l24 y24 z24
              obtain ⟨z24, rfl, Nq24, he24, hB24⟩ := hQ24
              have N24 := Fr.app N8 Nq24
              have e24 : T24.heap = h8 := he24
              refine own_st (T' := T24) (g' := (mkF m 217 #[.val (.long p1), .second, .val (.int p2), .val (.long p3), .second, .val (.int p4), .val (.int p5), .val (.long (p1 &&& (9223372036854775807 : Int64))), .second, .val (.int (p2 &&& (32767 : Int32))), .val (.long t2), .second, .val (.int s2), .val (.ref b1), .val (.ref b4), .val (.int ((p5 >>> ((2 : Int32) &&& 31)) &&& (3 : Int32))), .val (.int z16), .val (.ref b1), .unset] [(.int z24)])) (fun t9 k9 => st24.trans k9) ?_
              obtain rfl : z24 = 1 := hB24.elim (fun q => q.1) (fun q => absurd ⟨rfl, rfl⟩ q.2)
              show own_Go p e below F T24 (mkF m 217 #[.val (.long p1), .second, .val (.int p2), .val (.long p3), .second, .val (.int p4), .val (.int p5), .val (.long (p1 &&& (9223372036854775807 : Int64))), .second, .val (.int (p2 &&& (32767 : Int32))), .val (.long t2), .second, .val (.int s2), .val (.ref b1), .val (.ref b4), .val (.int ((p5 >>> ((2 : Int32) &&& 31)) &&& (3 : Int32))), .val (.int z16), .val (.ref b1), .unset] [(.int (1 : Int32))])
              refine own_ret (v := some (.int (1 : Int32))) hF X24 (own_some hret) hlk (fun fs hr => retN X24 hx (t := .boolean) hret (by simp) (hb hby at_217) hr) ?_ (by decide) (by decide)
              try rw [e24]
              exact ⟨rfl, N24⟩
      by_cases hs : (p1 &&& (9223372036854775807 : Int64)) = t2
      · refine own_st (T' := T8) (g' := (mkF m 95 #[.val (.long p1), .second, .val (.int p2), .val (.long p3), .second, .val (.int p4), .val (.int p5), .val (.long (p1 &&& (9223372036854775807 : Int64))), .second, .val (.int (p2 &&& (32767 : Int32))), .val (.long t2), .second, .val (.int s2), .val (.ref b1), .val (.ref b4), .val (.int ((p5 >>> ((2 : Int32) &&& 31)) &&& (3 : Int32))), .unset, .unset, .unset] [])) (fun t9 k9 => XS.ifNo X8.here hx rfl (hb hby at_92) rfl ((if0 _ _).trans (teq ((lw_eq _ _).mpr hs : (lcmpW (p1 &&& (9223372036854775807 : Int64)) t2) = (0 : Int32))).2) k9) ?_
        refine own_st (T' := T8) (g' := (mkF m 97 #[.val (.long p1), .second, .val (.int p2), .val (.long p3), .second, .val (.int p4), .val (.int p5), .val (.long (p1 &&& (9223372036854775807 : Int64))), .second, .val (.int (p2 &&& (32767 : Int32))), .val (.long t2), .second, .val (.int s2), .val (.ref b1), .val (.ref b4), .val (.int ((p5 >>> ((2 : Int32) &&& 31)) &&& (3 : Int32))), .unset, .unset, .unset] [(.int (p2 &&& (32767 : Int32)))])) (fun t9 k9 => XS.iload X8.here hx rfl (hb hby at_95) rfl k9) ?_
        refine own_st (T' := T8) (g' := (mkF m 99 #[.val (.long p1), .second, .val (.int p2), .val (.long p3), .second, .val (.int p4), .val (.int p5), .val (.long (p1 &&& (9223372036854775807 : Int64))), .second, .val (.int (p2 &&& (32767 : Int32))), .val (.long t2), .second, .val (.int s2), .val (.ref b1), .val (.ref b4), .val (.int ((p5 >>> ((2 : Int32) &&& 31)) &&& (3 : Int32))), .unset, .unset, .unset] [(.int s2), (.int (p2 &&& (32767 : Int32)))])) (fun t9 k9 => XS.iload X8.here hx rfl (hb hby at_97) rfl k9) ?_
        by_cases hq : (p2 &&& (32767 : Int32)) = s2
        · refine own_st (T' := T8) (g' := (mkF m 102 #[.val (.long p1), .second, .val (.int p2), .val (.long p3), .second, .val (.int p4), .val (.int p5), .val (.long (p1 &&& (9223372036854775807 : Int64))), .second, .val (.int (p2 &&& (32767 : Int32))), .val (.long t2), .second, .val (.int s2), .val (.ref b1), .val (.ref b4), .val (.int ((p5 >>> ((2 : Int32) &&& 31)) &&& (3 : Int32))), .unset, .unset, .unset] [])) (fun t9 k9 => XS.icmpNo X8.here hx rfl (hb hby at_99) rfl (teq hq).2 k9) ?_
          refine own_st (T' := T8) (g' := (mkF m 103 #[.val (.long p1), .second, .val (.int p2), .val (.long p3), .second, .val (.int p4), .val (.int p5), .val (.long (p1 &&& (9223372036854775807 : Int64))), .second, .val (.int (p2 &&& (32767 : Int32))), .val (.long t2), .second, .val (.int s2), .val (.ref b1), .val (.ref b4), .val (.int ((p5 >>> ((2 : Int32) &&& 31)) &&& (3 : Int32))), .unset, .unset, .unset] [(.int (1 : Int32))])) (fun t9 k9 => XS.iconst X8.here hx rfl (hb hby at_102) k9) ?_
          refine own_st (T' := T8) (g' := (mkF m 107 #[.val (.long p1), .second, .val (.int p2), .val (.long p3), .second, .val (.int p4), .val (.int p5), .val (.long (p1 &&& (9223372036854775807 : Int64))), .second, .val (.int (p2 &&& (32767 : Int32))), .val (.long t2), .second, .val (.int s2), .val (.ref b1), .val (.ref b4), .val (.int ((p5 >>> ((2 : Int32) &&& 31)) &&& (3 : Int32))), .unset, .unset, .unset] [(.int (1 : Int32))])) (fun t9 k9 => XS.goto X8.here hx rfl (pc0 := 103) (pc' := 107) rfl (hb hby at_103) (by decide) (by decide) k9) ?_
          exact j107 _ (Or.inl ⟨rfl, hs, hq⟩)
        · refine own_st (T' := T8) (g' := (mkF m 106 #[.val (.long p1), .second, .val (.int p2), .val (.long p3), .second, .val (.int p4), .val (.int p5), .val (.long (p1 &&& (9223372036854775807 : Int64))), .second, .val (.int (p2 &&& (32767 : Int32))), .val (.long t2), .second, .val (.int s2), .val (.ref b1), .val (.ref b4), .val (.int ((p5 >>> ((2 : Int32) &&& 31)) &&& (3 : Int32))), .unset, .unset, .unset] [])) (fun t9 k9 => XS.icmpYes X8.here hx rfl (pc0 := 99) (pc' := 106) rfl (hb hby at_99) rfl (feq hq).2 (by decide) (by decide) k9) ?_
          refine own_st (T' := T8) (g' := (mkF m 107 #[.val (.long p1), .second, .val (.int p2), .val (.long p3), .second, .val (.int p4), .val (.int p5), .val (.long (p1 &&& (9223372036854775807 : Int64))), .second, .val (.int (p2 &&& (32767 : Int32))), .val (.long t2), .second, .val (.int s2), .val (.ref b1), .val (.ref b4), .val (.int ((p5 >>> ((2 : Int32) &&& 31)) &&& (3 : Int32))), .unset, .unset, .unset] [(.int (0 : Int32))])) (fun t9 k9 => XS.iconst X8.here hx rfl (hb hby at_106) k9) ?_
          exact j107 _ (Or.inr ⟨rfl, fun q => hq q.2⟩)
      · refine own_st (T' := T8) (g' := (mkF m 106 #[.val (.long p1), .second, .val (.int p2), .val (.long p3), .second, .val (.int p4), .val (.int p5), .val (.long (p1 &&& (9223372036854775807 : Int64))), .second, .val (.int (p2 &&& (32767 : Int32))), .val (.long t2), .second, .val (.int s2), .val (.ref b1), .val (.ref b4), .val (.int ((p5 >>> ((2 : Int32) &&& 31)) &&& (3 : Int32))), .unset, .unset, .unset] [])) (fun t9 k9 => XS.ifYes X8.here hx rfl (pc0 := 92) (pc' := 106) rfl (hb hby at_92) rfl ((if0 _ _).trans (feq (fun q => hs ((lw_eq _ _).mp q) : ¬ ((lcmpW (p1 &&& (9223372036854775807 : Int64)) t2) = (0 : Int32)))).2) (by decide) (by decide) k9) ?_
        refine own_st (T' := T8) (g' := (mkF m 107 #[.val (.long p1), .second, .val (.int p2), .val (.long p3), .second, .val (.int p4), .val (.int p5), .val (.long (p1 &&& (9223372036854775807 : Int64))), .second, .val (.int (p2 &&& (32767 : Int32))), .val (.long t2), .second, .val (.int s2), .val (.ref b1), .val (.ref b4), .val (.int ((p5 >>> ((2 : Int32) &&& 31)) &&& (3 : Int32))), .unset, .unset, .unset] [(.int (0 : Int32))])) (fun t9 k9 => XS.iconst X8.here hx rfl (hb hby at_106) k9) ?_
        exact j107 _ (Or.inr ⟨rfl, fun q => hs q.1⟩)
    by_cases hbq : (p5 &&& (2 : Int32)) = (0 : Int32)
    · refine own_st (T' := T0) (g' := (mkF m 45 #[.val (.long p1), .second, .val (.int p2), .val (.long p3), .second, .val (.int p4), .val (.int p5), .val (.long (p1 &&& (9223372036854775807 : Int64))), .second, .val (.int (p2 &&& (32767 : Int32))), .val (.long t2), .second, .unset, .unset, .unset, .unset, .unset, .unset, .unset] [])) (fun t9 k9 => XS.ifYes X0.here hx rfl (pc0 := 37) (pc' := 45) rfl (hb hby at_37) rfl ((if0 _ _).trans (teq hbq).1) (by decide) (by decide) k9) ?_
      refine own_st (T' := T0) (g' := (mkF m 47 #[.val (.long p1), .second, .val (.int p2), .val (.long p3), .second, .val (.int p4), .val (.int p5), .val (.long (p1 &&& (9223372036854775807 : Int64))), .second, .val (.int (p2 &&& (32767 : Int32))), .val (.long t2), .second, .unset, .unset, .unset, .unset, .unset, .unset, .unset] [(.int p4)])) (fun t9 k9 => XS.iload X0.here hx rfl (hb hby at_45) rfl k9) ?_
      refine own_st (T' := T0) (g' := (mkF m 50 #[.val (.long p1), .second, .val (.int p2), .val (.long p3), .second, .val (.int p4), .val (.int p5), .val (.long (p1 &&& (9223372036854775807 : Int64))), .second, .val (.int (p2 &&& (32767 : Int32))), .val (.long t2), .second, .unset, .unset, .unset, .unset, .unset, .unset, .unset] [(.int (32767 : Int32)), (.int p4)])) (fun t9 k9 => XS.sipush X0.here hx rfl (hb hby at_47) k9) ?_
      refine own_st (T' := T0) (g' := (mkF m 51 #[.val (.long p1), .second, .val (.int p2), .val (.long p3), .second, .val (.int p4), .val (.int p5), .val (.long (p1 &&& (9223372036854775807 : Int64))), .second, .val (.int (p2 &&& (32767 : Int32))), .val (.long t2), .second, .unset, .unset, .unset, .unset, .unset, .unset, .unset] [(.int (p4 &&& (32767 : Int32)))])) (fun t9 k9 => XS.iand X0.here hx rfl (hb hby at_50) rfl k9) ?_
      exact j51 _ (own_mask15 p4).1 (own_mask15 p4).2
    · refine own_st (T' := T0) (g' := (mkF m 40 #[.val (.long p1), .second, .val (.int p2), .val (.long p3), .second, .val (.int p4), .val (.int p5), .val (.long (p1 &&& (9223372036854775807 : Int64))), .second, .val (.int (p2 &&& (32767 : Int32))), .val (.long t2), .second, .unset, .unset, .unset, .unset, .unset, .unset, .unset] [])) (fun t9 k9 => XS.ifNo X0.here hx rfl (hb hby at_37) rfl ((if0 _ _).trans (feq hbq).1) k9) ?_
      refine own_st (T' := T0) (g' := (mkF m 42 #[.val (.long p1), .second, .val (.int p2), .val (.long p3), .second, .val (.int p4), .val (.int p5), .val (.long (p1 &&& (9223372036854775807 : Int64))), .second, .val (.int (p2 &&& (32767 : Int32))), .val (.long t2), .second, .unset, .unset, .unset, .unset, .unset, .unset, .unset] [(.int (p2 &&& (32767 : Int32)))])) (fun t9 k9 => XS.iload X0.here hx rfl (hb hby at_40) rfl k9) ?_
      refine own_st (T' := T0) (g' := (mkF m 51 #[.val (.long p1), .second, .val (.int p2), .val (.long p3), .second, .val (.int p4), .val (.int p5), .val (.long (p1 &&& (9223372036854775807 : Int64))), .second, .val (.int (p2 &&& (32767 : Int32))), .val (.long t2), .second, .unset, .unset, .unset, .unset, .unset, .unset, .unset] [(.int (p2 &&& (32767 : Int32)))])) (fun t9 k9 => XS.goto X0.here hx rfl (pc0 := 42) (pc' := 51) rfl (hb hby at_42) (by decide) (by decide) k9) ?_
      exact j51 _ hs1 hs1'
  by_cases hbq : (p5 &&& (1 : Int32)) = (0 : Int32)
  · refine own_st (T' := T0) (g' := (mkF m 26 #[.val (.long p1), .second, .val (.int p2), .val (.long p3), .second, .val (.int p4), .val (.int p5), .val (.long (p1 &&& (9223372036854775807 : Int64))), .second, .val (.int (p2 &&& (32767 : Int32))), .unset, .unset, .unset, .unset, .unset, .unset, .unset, .unset, .unset] [])) (fun t9 k9 => XS.ifYes X0.here hx rfl (pc0 := 18) (pc' := 26) rfl (hb hby at_18) rfl ((if0 _ _).trans (teq hbq).1) (by decide) (by decide) k9) ?_
    refine own_st (T' := T0) (g' := (mkF m 27 #[.val (.long p1), .second, .val (.int p2), .val (.long p3), .second, .val (.int p4), .val (.int p5), .val (.long (p1 &&& (9223372036854775807 : Int64))), .second, .val (.int (p2 &&& (32767 : Int32))), .unset, .unset, .unset, .unset, .unset, .unset, .unset, .unset, .unset] [(.long p3)])) (fun t9 k9 => XS.lloadN X0.here hx rfl (hb hby at_26) rfl k9) ?_
    refine own_st (T' := T0) (g' := (mkF m 30 #[.val (.long p1), .second, .val (.int p2), .val (.long p3), .second, .val (.int p4), .val (.int p5), .val (.long (p1 &&& (9223372036854775807 : Int64))), .second, .val (.int (p2 &&& (32767 : Int32))), .unset, .unset, .unset, .unset, .unset, .unset, .unset, .unset, .unset] [(.long (9223372036854775807 : Int64)), (.long p3)])) (fun t9 k9 => X0.ldc2Long hx hown (mvT hZ (hw _ (List.mem_of_getElem? (i := 0) rfl))) (g := (mkF m 27 #[.val (.long p1), .second, .val (.int p2), .val (.long p3), .second, .val (.int p4), .val (.int p5), .val (.long (p1 &&& (9223372036854775807 : Int64))), .second, .val (.int (p2 &&& (32767 : Int32))), .unset, .unset, .unset, .unset, .unset, .unset, .unset, .unset, .unset] [(.long p3)])) rfl (hb hby at_27) t9 k9) ?_
    refine own_st (T' := T0) (g' := (mkF m 31 #[.val (.long p1), .second, .val (.int p2), .val (.long p3), .second, .val (.int p4), .val (.int p5), .val (.long (p1 &&& (9223372036854775807 : Int64))), .second, .val (.int (p2 &&& (32767 : Int32))), .unset, .unset, .unset, .unset, .unset, .unset, .unset, .unset, .unset] [(.long (p3 &&& (9223372036854775807 : Int64)))])) (fun t9 k9 => XS.land X0.here hx rfl (hb hby at_30) rfl k9) ?_
    exact j31 _ (own_mask64 p3)
  · refine own_st (T' := T0) (g' := (mkF m 21 #[.val (.long p1), .second, .val (.int p2), .val (.long p3), .second, .val (.int p4), .val (.int p5), .val (.long (p1 &&& (9223372036854775807 : Int64))), .second, .val (.int (p2 &&& (32767 : Int32))), .unset, .unset, .unset, .unset, .unset, .unset, .unset, .unset, .unset] [])) (fun t9 k9 => XS.ifNo X0.here hx rfl (hb hby at_18) rfl ((if0 _ _).trans (feq hbq).1) k9) ?_
    refine own_st (T' := T0) (g' := (mkF m 23 #[.val (.long p1), .second, .val (.int p2), .val (.long p3), .second, .val (.int p4), .val (.int p5), .val (.long (p1 &&& (9223372036854775807 : Int64))), .second, .val (.int (p2 &&& (32767 : Int32))), .unset, .unset, .unset, .unset, .unset, .unset, .unset, .unset, .unset] [(.long (p1 &&& (9223372036854775807 : Int64)))])) (fun t9 k9 => XS.lload X0.here hx rfl (hb hby at_21) rfl k9) ?_
    refine own_st (T' := T0) (g' := (mkF m 31 #[.val (.long p1), .second, .val (.int p2), .val (.long p3), .second, .val (.int p4), .val (.int p5), .val (.long (p1 &&& (9223372036854775807 : Int64))), .second, .val (.int (p2 &&& (32767 : Int32))), .unset, .unset, .unset, .unset, .unset, .unset, .unset, .unset, .unset] [(.long (p1 &&& (9223372036854775807 : Int64)))])) (fun t9 k9 => XS.goto X0.here hx rfl (pc0 := 23) (pc' := 31) rfl (hb hby at_23) (by decide) (by decide) k9) ?_
    exact j31 _ ht1
set_option maxRecDepth 65536 in
set_option maxHeartbeats 40000000 in
theorem comes_1 {Post : Tables → Env → Array Value → State → Outcome → State → Prop} (hpost : ∀ tb e args s v u, (limb_1_1.after args s (.returned v) u = true ∧ limb_1_2.after args s (.returned v) u = true ∧ True) → FrameEnd s (.returned v) u (Jvm.fieldLocs frame_1_writes args s ++ Jvm.arrayLocs frame_1_arrays args s ++ Jvm.staticLocs frame_1_statics s) 16 128 → Post tb e args s (.returned v) u) :
    ArmFor flags0 classFile x code maxLocals ret World_1 tables_1 room_1 Calls_1 rest_1 Pre_1 Post := by
  intro l hfl _ _ p e ha hc hk s m args below hf hA hF happ hP
  obtain ⟨hcalls, hrest, hpre⟩ := hP
  obtain ⟨-, -, -, hnamed, -, -, -, hat⟩ := (Spec.applies_iff hf).mp happ
  obtain ⟨hg, hn⟩ := and_e (Cond.before_iff.mp (show (Jvm.Cond.and given_1 narrow_1).before args s = true from hpre))
  obtain ⟨ga0, gb0⟩ := and_e hg
  obtain ⟨ga1, gb1⟩ := and_e gb0
  obtain ⟨ga2, gb2⟩ := and_e gb1
  obtain ⟨ga3, gb3⟩ := and_e gb2
  obtain ⟨ga4, gb4⟩ := and_e gb3
  obtain ⟨w0, w1, w2, w3, w4, rfl⟩ : ∃ w0 w1 w2 w3 w4 : Value, args = #[w0, w1, w2, w3, w4] := by
    have hs : args.size = 5 := by simpa [Cond.value, given_1] using ga0
    obtain ⟨L⟩ := args
    match L, hs with
    | [w0, w1, w2, w3, w4], _ => exact ⟨w0, w1, w2, w3, w4, rfl⟩
  have hw := fun d (hd : d ∈ tables_1) => atoms_spec (ws := Jvm.Cond.code x code maxLocals ret :: tables_1) hat d (List.mem_cons_of_mem _ hd)
  have hfit : Fit s := fun {y c} hc i hi => by
    obtain ⟨ha, rfl⟩ := Array.getElem?_eq_some_iff.mp hc
    have q := List.all_eq_true.mp ((Array.all_eq_true_iff_forall_mem.mp hF) _ (Array.getElem_mem ha)) i (List.mem_range.mpr hi)
    simpa [Array.getElem?_eq_getElem hi] using q
  obtain ⟨hsets, hown0⟩ := atoms_of _ (rest_1_c_eq ▸ (show rest_1_c.before _ s = true from hrest))
  obtain ⟨i0, ei0⟩ := isL_v ga1
  obtain rfl : w0 = (.long i0) := Option.some.inj ei0
  obtain ⟨i1, ei1⟩ := is_v ga2
  obtain rfl : w1 = (.int i1) := Option.some.inj ei1
  obtain ⟨i2, ei2⟩ := isL_v ga3
  obtain rfl : w2 = (.long i2) := Option.some.inj ei2
  obtain ⟨i3, ei3⟩ := is_v ga4
  obtain rfl : w3 = (.int i3) := Option.some.inj ei3
  obtain ⟨i4, ei4⟩ := is_v gb4
  obtain rfl : w4 = (.int i4) := Option.some.inj ei4
  have v2 := Cond.before_iff.mp (hsets _ (List.mem_of_getElem? (i := 2) rfl))
  obtain ⟨cc, ecc⟩ := arr_v v2
  have S0 := Sta.start ecc (Or.inl (hsets _ (List.mem_of_getElem? (i := 1) rfl)))
  obtain ⟨cl, A0⟩ := Arr.start ecc v2
  have v4 := eqv_i (Term.int_eval (256)) (Cond.before_iff.mp (hsets _ (List.mem_of_getElem? (i := 4) rfl)))
  have hA := A0.fin (Vm.Alike.refl _)
  have hsz : cl.slots.size < 2 ^ 31 := own_len31 ecc hA v4
  have hlen : cl.slots.size.toInt32 = (256 : Int32) := Value.int.inj (Option.some.inj ((len_f ecc hA hsz).symm.trans v4))
  have B0 := Bxs.start (fun _ => ecc) A0 hsz hlen (by decide) (Cond.before_iff.mp (hsets _ (List.mem_of_getElem? (i := 5) rfl))) (val := (fun j : Int32 => Value.long (j - (128 : Int32)).toInt64)) (fun X j hj hX => eqv_l (i2l_at (by simp [Term.eval, back32 hj])) hX)
  obtain ⟨n, o, h1, h2, h3, _, L, rfl, ⟨rfl, N⟩, hq⟩ := rm0 l s _ hw i0 i1 i2 i3 i4 cc cl s.heap s.heap.size (Nat.le_refl _) (Old.start s) S0 B0 tables_1 p e ha hc hk s m _ below hf ((Spec.applies_iff_loose hf).mp happ).1 ⟨rfl, State.Warmed39.refl s, rfl⟩ trivial
  refine ⟨n, _, h1, h2, h3, hpost _ _ _ _ _ _ ⟨Cond.after_iff.mpr rfl, Cond.after_iff.mpr (eq_i res_at (Term.int_eval (1)) rfl), trivial⟩ ⟨hq.1, hq.2.1, (hq.2.2.sift fun y hy => Or.inr (N y hy)).mono (by decide) (by decide)⟩⟩
theorem main_1_1 : Claimed_1_1 := comes_1 fun _ _ _ _ _ _ h hF => ⟨h.1, hF⟩
theorem main_1_2 : Claimed_1_2 := comes_1 fun _ _ _ _ _ _ h hF => ⟨h.2.1, hF⟩
end Jvm.Pilot.@@N@@
namespace Jvm.Pilot.@@N@@
open Jvm Jvm.ClassFile Sem Op Lib Jvm.Free Jvm.Stand Jvm.Pilot.@@N@@.Jvm.D
/-! MADE BY PROGRAM (witnessworld.py) out of the Statement's table words and the real class files: 16 classes; the members and pool entries that the words name. The judged class is class 1, her method 1. -/
namespace start1
open Jvm.ClassFile
def u (s : String) : CpInfo := .utf8 (stringToUtf16 s)
/-- a pool by its gaps: so many unusable entries, then the entry; so many at the end -/
def gap : Nat → List CpInfo → List CpInfo
  | 0, r => r
  | n + 1, r => .unusable :: gap n r
def poolList (es : List (Nat × CpInfo)) (last : Nat) : List CpInfo := es.foldr (fun e r => gap e.1 (e.2 :: r)) (gap last [])
def pool (es : List (Nat × CpInfo)) (last : Nat) : Array CpInfo := ⟨poolList es last⟩
def fileOf (pool : Array CpInfo) (this : Nat) (attrs : Array Attribute := #[]) (ms : Array MethodInfo := #[]) (fl : Nat := 33) (sup : Nat := 0) (ifs : Array Nat := #[]) (fds : Array FieldInfo := #[]) : ClassFile where
  minorVersion := 0
  majorVersion := 65
  constantPool := pool
  accessFlags := fl
  thisClass := this
  superClass := sup
  interfaces := ifs
  fields := fds
  methods := ms
  attributes := attrs
def plain (name : String) (sup : Option ClassId) : Class where
  name := name
  kind := .ordinary
  loader := none
  accessFlags := 33
  super := sup
  interfaces := #[]
  cf := none
  fields := #[]
  methods := #[]
  instanceTypes := #[]
  staticTypes := #[]
  resolved := #[]
  callSites := []
  init := .initialized
  statics := none
  mirror := none

def pool0 : Array CpInfo := pool [(5, u "<init>"), (0, u "()V"), (1, .class_ 10), (1, u "java/lang/Object")] 113

def k0c0 : Code := { maxStack := 0, maxLocals := 1, code := object_method_1_code, exceptionTable := #[], attributes := #[] }
def k0m0 : Method := { name := "<init>", desc := "()V", sig := { parameters := [], returnType := none }, accessFlags := 1, code := some k0c0 }
/-- java/lang/Object -/
def k0 : Class := { plain "java/lang/Object" none with
  accessFlags := 33
  interfaces := #[]
  cf := some (fileOf pool0 8 #[] #[{ accessFlags := 1, nameIndex := 5, descriptorIndex := 6, attributes := #[] }] 33 0 #[] #[])
  fields := #[]
  methods := #[k0m0]
  instanceTypes := #[]
  staticTypes := #[]
  resolved := Array.replicate 124 none
  statics := none }

def pool1 : Array CpInfo := pool [(2, .class_ 4), (1, u "java/lang/Object"), (0, u "<init>"), (0, u "()V"), (0, .class_ 8), (0, u "java/lang/Long"), (0, .long 9223372036854775807), (1, .class_ 12), (0, u "com/example/kolejka/kolejka/store/MessageId"), (0, .methodref 11 14), (0, .nameAndType 5 15), (0, u "(JI)V"), (0, .methodref 11 17), (0, .nameAndType 18 19), (0, u "equals"), (0, u "(Ljava/lang/Object;)Z"), (0, .methodref 7 21), (0, .nameAndType 22 23), (0, u "valueOf"), (0, u "(J)Ljava/lang/Long;"), (0, .class_ 25), (0, u "com/example/kolejka/kolejka/store/MessageIdEqualsPinLaw"), (2, u "law"), (0, u "(JIJII)Z")] 3

def k1m0 : Method := { name := "<init>", desc := "()V", sig := { parameters := [], returnType := none }, accessFlags := 2, code := none }
def k1c1 : Code := { maxStack := 5, maxLocals := 19, code := code, exceptionTable := #[], attributes := #[] }
def k1m1 : Method := { name := "law", desc := "(JIJII)Z", sig := { parameters := [.long, .int, .long, .int, .int], returnType := some .boolean }, accessFlags := 9, code := some k1c1 }
/-- com/example/kolejka/kolejka/store/MessageIdEqualsPinLaw -/
def k1 : Class := { plain "com/example/kolejka/kolejka/store/MessageIdEqualsPinLaw" (some 0) with
  accessFlags := 49
  interfaces := #[]
  cf := some (fileOf pool1 24 #[] #[{ accessFlags := 2, nameIndex := 5, descriptorIndex := 6, attributes := #[] }, { accessFlags := 9, nameIndex := 28, descriptorIndex := 29, attributes := #[] }] 49 2 #[] #[])
  fields := #[]
  methods := #[k1m0, k1m1]
  instanceTypes := #[]
  staticTypes := #[]
  resolved := Array.replicate 33 none
  statics := none }

def pool2 : Array CpInfo := pool [(1, .class_ 2), (0, u "java/lang/Comparable"), (0, .class_ 4), (0, u "java/lang/Object")] 7

/-- java/lang/Comparable -/
def k2 : Class := { plain "java/lang/Comparable" (some 0) with
  accessFlags := 1537
  interfaces := #[]
  cf := some (fileOf pool2 1 #[] #[] 1537 3 #[] #[])
  fields := #[]
  methods := #[]
  instanceTypes := #[]
  staticTypes := #[]
  resolved := Array.replicate 12 none
  statics := none }

def pool3 : Array CpInfo := pool [(1, .methodref 2 3), (0, .class_ 4), (0, .nameAndType 5 6), (0, u "java/lang/Object"), (0, u "<init>"), (0, u "()V"), (9, .class_ 17), (0, u "com/example/kolejka/kolejka/store/MessageId"), (3, .fieldref 16 22), (0, .nameAndType 23 24), (0, u "timestamp"), (0, u "J"), (0, .fieldref 16 26), (0, .nameAndType 27 28), (0, u "sequence"), (0, u "I"), (28, u "(JI)V"), (33, .class_ 92), (0, u "java/lang/Comparable"), (0, u "MAX_SEQUENCE"), (13, u "equals"), (0, u "(Ljava/lang/Object;)Z")] 29

def k3c0 : Code := { maxStack := 4, maxLocals := 4, code := prog_68_method_1_code, exceptionTable := #[], attributes := #[] }
def k3m0 : Method := { name := "<init>", desc := "(JI)V", sig := { parameters := [.long, .int], returnType := none }, accessFlags := 1, code := some k3c0 }
def k3c1 : Code := { maxStack := 4, maxLocals := 3, code := prog_68_method_11_code, exceptionTable := #[], attributes := #[] }
def k3m1 : Method := { name := "equals", desc := "(Ljava/lang/Object;)Z", sig := { parameters := [(.object "java/lang/Object")], returnType := some .boolean }, accessFlags := 1, code := some k3c1 }
/-- com/example/kolejka/kolejka/store/MessageId -/
def k3 : Class := { plain "com/example/kolejka/kolejka/store/MessageId" (some 0) with
  accessFlags := 49
  interfaces := #[2]
  cf := some (fileOf pool3 16 #[] #[{ accessFlags := 1, nameIndex := 5, descriptorIndex := 57, attributes := #[] }, { accessFlags := 1, nameIndex := 107, descriptorIndex := 108, attributes := #[] }] 49 2 #[91] #[{ accessFlags := 25, nameIndex := 93, descriptorIndex := 28, attributes := #[] }, { accessFlags := 18, nameIndex := 23, descriptorIndex := 24, attributes := #[] }, { accessFlags := 18, nameIndex := 27, descriptorIndex := 28, attributes := #[] }])
  fields := #[{ name := "MAX_SEQUENCE", type := .int, accessFlags := 25, slot := 0, constantValue := 0 }, { name := "timestamp", type := .long, accessFlags := 18, slot := 0, constantValue := 0 }, { name := "sequence", type := .int, accessFlags := 18, slot := 1, constantValue := 0 }]
  methods := #[k3m0, k3m1]
  instanceTypes := #[.long, .int]
  staticTypes := #[.int]
  resolved := Array.replicate 138 none
  statics := none }

def pool4 : Array CpInfo := pool [(1, .class_ 2), (0, u "java/io/Serializable"), (0, .class_ 4), (0, u "java/lang/Object")] 2

/-- java/io/Serializable -/
def k4 : Class := { plain "java/io/Serializable" (some 0) with
  accessFlags := 1537
  interfaces := #[]
  cf := some (fileOf pool4 1 #[] #[] 1537 3 #[] #[])
  fields := #[]
  methods := #[]
  instanceTypes := #[]
  staticTypes := #[]
  resolved := Array.replicate 7 none
  statics := none }

def pool5 : Array CpInfo := pool [(1, .methodref 2 3), (0, .class_ 4), (0, .nameAndType 5 6), (0, u "java/lang/Object"), (0, u "<init>"), (0, u "()V"), (1, .class_ 10), (1, u "java/lang/Number"), (2, .class_ 14), (0, u "java/io/Serializable"), (0, u "serialVersionUID"), (0, u "J")] 20

def k5c0 : Code := { maxStack := 1, maxLocals := 1, code := jdk_18_method_1_code, exceptionTable := #[], attributes := #[] }
def k5m0 : Method := { name := "<init>", desc := "()V", sig := { parameters := [], returnType := none }, accessFlags := 1, code := some k5c0 }
/-- java/lang/Number -/
def k5 : Class := { plain "java/lang/Number" (some 0) with
  accessFlags := 1057
  interfaces := #[4]
  cf := some (fileOf pool5 8 #[] #[{ accessFlags := 1, nameIndex := 5, descriptorIndex := 6, attributes := #[] }] 1057 2 #[13] #[{ accessFlags := 26, nameIndex := 15, descriptorIndex := 16, attributes := #[] }])
  fields := #[{ name := "serialVersionUID", type := .long, accessFlags := 26, slot := 0, constantValue := 0 }]
  methods := #[k5m0]
  instanceTypes := #[]
  staticTypes := #[.long]
  resolved := Array.replicate 37 none
  statics := none }

def pool6 : Array CpInfo := pool [(1, .class_ 2), (0, u "java/lang/constant/Constable"), (0, .class_ 4), (0, u "java/lang/Object")] 6

/-- java/lang/constant/Constable -/
def k6 : Class := { plain "java/lang/constant/Constable" (some 0) with
  accessFlags := 1537
  interfaces := #[]
  cf := some (fileOf pool6 1 #[] #[] 1537 3 #[] #[])
  fields := #[]
  methods := #[]
  instanceTypes := #[]
  staticTypes := #[]
  resolved := Array.replicate 11 none
  statics := none }

def pool7 : Array CpInfo := pool [(1, .class_ 2), (0, u "java/lang/constant/ConstantDesc"), (0, .class_ 4), (0, u "java/lang/Object")] 32

/-- java/lang/constant/ConstantDesc -/
def k7 : Class := { plain "java/lang/constant/ConstantDesc" (some 0) with
  accessFlags := 1537
  interfaces := #[]
  cf := some (fileOf pool7 1 #[] #[] 1537 3 #[] #[])
  fields := #[]
  methods := #[]
  instanceTypes := #[]
  staticTypes := #[]
  resolved := Array.replicate 37 none
  statics := none }

def pool8 : Array CpInfo := pool [(1, .class_ 2), (0, u "java/lang/Long"), (55, .nameAndType 59 60), (0, u "<init>"), (0, u "()V"), (24, u "valueOf"), (143, u "(J)Ljava/lang/Long;"), (0, .long 18446744073709551488), (1, .long 127), (1, .fieldref 235 236), (0, .class_ 237), (0, .nameAndType 238 239), (0, u "java/lang/Long$LongCache"), (0, u "cache"), (0, u "[Ljava/lang/Long;"), (0, .methodref 1 241), (0, .nameAndType 59 242), (0, u "(J)V"), (27, .methodref 271 58), (0, .class_ 272), (0, u "java/lang/Number"), (0, .fieldref 1 274), (0, .nameAndType 275 276), (0, u "value"), (0, u "J"), (84, u "TYPE"), (0, u "Ljava/lang/Class;"), (0, .class_ 364), (0, u "java/lang/Comparable"), (0, .class_ 366), (0, u "java/lang/constant/Constable"), (0, .class_ 368), (0, u "java/lang/constant/ConstantDesc"), (0, u "MIN_VALUE"), (1, u "MAX_VALUE"), (4, u "SIZE"), (0, u "I"), (1, u "BYTES"), (1, u "serialVersionUID")] 142

def k8c0 : Code := { maxStack := 4, maxLocals := 3, code := jdk_35_method_24_code, exceptionTable := #[], attributes := #[] }
def k8m0 : Method := { name := "valueOf", desc := "(J)Ljava/lang/Long;", sig := { parameters := [.long], returnType := some (.object "java/lang/Long") }, accessFlags := 9, code := some k8c0 }
def k8c1 : Code := { maxStack := 3, maxLocals := 3, code := jdk_35_method_26_code, exceptionTable := #[], attributes := #[] }
def k8m1 : Method := { name := "<init>", desc := "(J)V", sig := { parameters := [.long], returnType := none }, accessFlags := 1, code := some k8c1 }
/-- java/lang/Long -/
def k8 : Class := { plain "java/lang/Long" (some 5) with
  accessFlags := 49
  interfaces := #[2, 6, 7]
  cf := some (fileOf pool8 1 #[.nestMembers #[235]] #[{ accessFlags := 9, nameIndex := 85, descriptorIndex := 229, attributes := #[] }, { accessFlags := 1, nameIndex := 59, descriptorIndex := 242, attributes := #[] }] 49 271 #[363, 365, 367] #[{ accessFlags := 25, nameIndex := 369, descriptorIndex := 276, attributes := #[] }, { accessFlags := 25, nameIndex := 371, descriptorIndex := 276, attributes := #[] }, { accessFlags := 25, nameIndex := 361, descriptorIndex := 362, attributes := #[] }, { accessFlags := 18, nameIndex := 275, descriptorIndex := 276, attributes := #[] }, { accessFlags := 25, nameIndex := 376, descriptorIndex := 377, attributes := #[] }, { accessFlags := 25, nameIndex := 379, descriptorIndex := 377, attributes := #[] }, { accessFlags := 26, nameIndex := 381, descriptorIndex := 276, attributes := #[] }])
  fields := #[{ name := "MIN_VALUE", type := .long, accessFlags := 25, slot := 0, constantValue := 0 }, { name := "MAX_VALUE", type := .long, accessFlags := 25, slot := 1, constantValue := 0 }, { name := "TYPE", type := (.object "java/lang/Class"), accessFlags := 25, slot := 2, constantValue := 0 }, { name := "value", type := .long, accessFlags := 18, slot := 0, constantValue := 0 }, { name := "SIZE", type := .int, accessFlags := 25, slot := 3, constantValue := 0 }, { name := "BYTES", type := .int, accessFlags := 25, slot := 4, constantValue := 0 }, { name := "serialVersionUID", type := .long, accessFlags := 26, slot := 5, constantValue := 0 }]
  methods := #[k8m0, k8m1]
  instanceTypes := #[.long]
  staticTypes := #[.long, .long, (.object "java/lang/Class"), .int, .int, .long]
  resolved := Array.replicate 524 none
  statics := none }

def pool9 : Array CpInfo := pool [(2, .class_ 4), (1, u "java/lang/Object"), (0, u "<init>"), (0, u "()V"), (0, .class_ 8), (0, u "java/lang/Long"), (7, .class_ 18), (1, u "java/lang/Long$LongCache"), (0, u "$assertionsDisabled"), (0, u "Z"), (8, u "archivedCache"), (0, u "[Ljava/lang/Long;"), (7, u "cache")] 24

def k9m0 : Method := { name := "<init>", desc := "()V", sig := { parameters := [], returnType := none }, accessFlags := 2, code := none }
/-- java/lang/Long$LongCache -/
def k9 : Class := { plain "java/lang/Long$LongCache" (some 0) with
  accessFlags := 48
  interfaces := #[]
  cf := some (fileOf pool9 16 #[.nestHost 7] #[{ accessFlags := 2, nameIndex := 5, descriptorIndex := 6, attributes := #[] }] 48 2 #[] #[{ accessFlags := 24, nameIndex := 38, descriptorIndex := 30, attributes := #[] }, { accessFlags := 8, nameIndex := 29, descriptorIndex := 30, attributes := #[] }, { accessFlags := 4120, nameIndex := 19, descriptorIndex := 20, attributes := #[] }])
  fields := #[{ name := "cache", type := (.array (.object "java/lang/Long")), accessFlags := 24, slot := 0, constantValue := 0 }, { name := "archivedCache", type := (.array (.object "java/lang/Long")), accessFlags := 8, slot := 1, constantValue := 0 }, { name := "$assertionsDisabled", type := .boolean, accessFlags := 4120, slot := 2, constantValue := 0 }]
  methods := #[k9m0]
  instanceTypes := #[]
  staticTypes := #[(.array (.object "java/lang/Long")), (.array (.object "java/lang/Long")), .boolean]
  resolved := Array.replicate 63 none
  statics := some 0 }

def pool10 : Array CpInfo := pool [(1, u "java/lang/Cloneable"), (0, .class_ 1), (0, u "java/lang/Object"), (0, .class_ 3)] 3

/-- java/lang/Cloneable -/
def k10 : Class := { plain "java/lang/Cloneable" (some 0) with
  accessFlags := 1537
  interfaces := #[]
  cf := some (fileOf pool10 2 #[] #[] 1537 4 #[] #[])
  fields := #[]
  methods := #[]
  instanceTypes := #[]
  staticTypes := #[]
  resolved := Array.replicate 8 none
  statics := none }

/-- the primitive byte -/
def k11 : Class := { plain "byte" none with kind := .primitive 'B', accessFlags := 0x411 }
/-- [B -/
def k12 : Class := { plain "[B" (some 0) with kind := .array 11 .byte, interfaces := #[10, 4], accessFlags := 1041 }

/-- the primitive int -/
def k13 : Class := { plain "int" none with kind := .primitive 'I', accessFlags := 0x411 }
/-- [I -/
def k14 : Class := { plain "[I" (some 0) with kind := .array 13 .int, interfaces := #[10, 4], accessFlags := 1041 }

/-- [Ljava/lang/Long; -/
def k15 : Class := { plain "[Ljava/lang/Long;" (some 0) with kind := .array 8 (.object "java/lang/Long"), interfaces := #[10, 4], accessFlags := 1041 }

def heap : Heap := #[{ cls := 9, slots := #[.ref 1, .null, .int 0], vm := .statics 9 },
  { cls := 15, slots := #[.ref 2, .ref 3, .ref 4, .ref 5, .ref 6, .ref 7, .ref 8, .ref 9, .ref 10, .ref 11, .ref 12, .ref 13, .ref 14, .ref 15, .ref 16, .ref 17, .ref 18, .ref 19, .ref 20, .ref 21, .ref 22, .ref 23, .ref 24, .ref 25, .ref 26, .ref 27, .ref 28, .ref 29, .ref 30, .ref 31, .ref 32, .ref 33, .ref 34, .ref 35, .ref 36, .ref 37, .ref 38, .ref 39, .ref 40, .ref 41, .ref 42, .ref 43, .ref 44, .ref 45, .ref 46, .ref 47, .ref 48, .ref 49, .ref 50, .ref 51, .ref 52, .ref 53, .ref 54, .ref 55, .ref 56, .ref 57, .ref 58, .ref 59, .ref 60, .ref 61, .ref 62, .ref 63, .ref 64, .ref 65, .ref 66, .ref 67, .ref 68, .ref 69, .ref 70, .ref 71, .ref 72, .ref 73, .ref 74, .ref 75, .ref 76, .ref 77, .ref 78, .ref 79, .ref 80, .ref 81, .ref 82, .ref 83, .ref 84, .ref 85, .ref 86, .ref 87, .ref 88, .ref 89, .ref 90, .ref 91, .ref 92, .ref 93, .ref 94, .ref 95, .ref 96, .ref 97, .ref 98, .ref 99, .ref 100, .ref 101, .ref 102, .ref 103, .ref 104, .ref 105, .ref 106, .ref 107, .ref 108, .ref 109, .ref 110, .ref 111, .ref 112, .ref 113, .ref 114, .ref 115, .ref 116, .ref 117, .ref 118, .ref 119, .ref 120, .ref 121, .ref 122, .ref 123, .ref 124, .ref 125, .ref 126, .ref 127, .ref 128, .ref 129, .ref 130, .ref 131, .ref 132, .ref 133, .ref 134, .ref 135, .ref 136, .ref 137, .ref 138, .ref 139, .ref 140, .ref 141, .ref 142, .ref 143, .ref 144, .ref 145, .ref 146, .ref 147, .ref 148, .ref 149, .ref 150, .ref 151, .ref 152, .ref 153, .ref 154, .ref 155, .ref 156, .ref 157, .ref 158, .ref 159, .ref 160, .ref 161, .ref 162, .ref 163, .ref 164, .ref 165, .ref 166, .ref 167, .ref 168, .ref 169, .ref 170, .ref 171, .ref 172, .ref 173, .ref 174, .ref 175, .ref 176, .ref 177, .ref 178, .ref 179, .ref 180, .ref 181, .ref 182, .ref 183, .ref 184, .ref 185, .ref 186, .ref 187, .ref 188, .ref 189, .ref 190, .ref 191, .ref 192, .ref 193, .ref 194, .ref 195, .ref 196, .ref 197, .ref 198, .ref 199, .ref 200, .ref 201, .ref 202, .ref 203, .ref 204, .ref 205, .ref 206, .ref 207, .ref 208, .ref 209, .ref 210, .ref 211, .ref 212, .ref 213, .ref 214, .ref 215, .ref 216, .ref 217, .ref 218, .ref 219, .ref 220, .ref 221, .ref 222, .ref 223, .ref 224, .ref 225, .ref 226, .ref 227, .ref 228, .ref 229, .ref 230, .ref 231, .ref 232, .ref 233, .ref 234, .ref 235, .ref 236, .ref 237, .ref 238, .ref 239, .ref 240, .ref 241, .ref 242, .ref 243, .ref 244, .ref 245, .ref 246, .ref 247, .ref 248, .ref 249, .ref 250, .ref 251, .ref 252, .ref 253, .ref 254, .ref 255, .ref 256, .ref 257], vm := .none },
  { cls := 8, slots := #[.long (-128)], vm := .none },
  { cls := 8, slots := #[.long (-127)], vm := .none },
  { cls := 8, slots := #[.long (-126)], vm := .none },
  { cls := 8, slots := #[.long (-125)], vm := .none },
  { cls := 8, slots := #[.long (-124)], vm := .none },
  { cls := 8, slots := #[.long (-123)], vm := .none },
  { cls := 8, slots := #[.long (-122)], vm := .none },
  { cls := 8, slots := #[.long (-121)], vm := .none },
  { cls := 8, slots := #[.long (-120)], vm := .none },
  { cls := 8, slots := #[.long (-119)], vm := .none },
  { cls := 8, slots := #[.long (-118)], vm := .none },
  { cls := 8, slots := #[.long (-117)], vm := .none },
  { cls := 8, slots := #[.long (-116)], vm := .none },
  { cls := 8, slots := #[.long (-115)], vm := .none },
  { cls := 8, slots := #[.long (-114)], vm := .none },
  { cls := 8, slots := #[.long (-113)], vm := .none },
  { cls := 8, slots := #[.long (-112)], vm := .none },
  { cls := 8, slots := #[.long (-111)], vm := .none },
  { cls := 8, slots := #[.long (-110)], vm := .none },
  { cls := 8, slots := #[.long (-109)], vm := .none },
  { cls := 8, slots := #[.long (-108)], vm := .none },
  { cls := 8, slots := #[.long (-107)], vm := .none },
  { cls := 8, slots := #[.long (-106)], vm := .none },
  { cls := 8, slots := #[.long (-105)], vm := .none },
  { cls := 8, slots := #[.long (-104)], vm := .none },
  { cls := 8, slots := #[.long (-103)], vm := .none },
  { cls := 8, slots := #[.long (-102)], vm := .none },
  { cls := 8, slots := #[.long (-101)], vm := .none },
  { cls := 8, slots := #[.long (-100)], vm := .none },
  { cls := 8, slots := #[.long (-99)], vm := .none },
  { cls := 8, slots := #[.long (-98)], vm := .none },
  { cls := 8, slots := #[.long (-97)], vm := .none },
  { cls := 8, slots := #[.long (-96)], vm := .none },
  { cls := 8, slots := #[.long (-95)], vm := .none },
  { cls := 8, slots := #[.long (-94)], vm := .none },
  { cls := 8, slots := #[.long (-93)], vm := .none },
  { cls := 8, slots := #[.long (-92)], vm := .none },
  { cls := 8, slots := #[.long (-91)], vm := .none },
  { cls := 8, slots := #[.long (-90)], vm := .none },
  { cls := 8, slots := #[.long (-89)], vm := .none },
  { cls := 8, slots := #[.long (-88)], vm := .none },
  { cls := 8, slots := #[.long (-87)], vm := .none },
  { cls := 8, slots := #[.long (-86)], vm := .none },
  { cls := 8, slots := #[.long (-85)], vm := .none },
  { cls := 8, slots := #[.long (-84)], vm := .none },
  { cls := 8, slots := #[.long (-83)], vm := .none },
  { cls := 8, slots := #[.long (-82)], vm := .none },
  { cls := 8, slots := #[.long (-81)], vm := .none },
  { cls := 8, slots := #[.long (-80)], vm := .none },
  { cls := 8, slots := #[.long (-79)], vm := .none },
  { cls := 8, slots := #[.long (-78)], vm := .none },
  { cls := 8, slots := #[.long (-77)], vm := .none },
  { cls := 8, slots := #[.long (-76)], vm := .none },
  { cls := 8, slots := #[.long (-75)], vm := .none },
  { cls := 8, slots := #[.long (-74)], vm := .none },
  { cls := 8, slots := #[.long (-73)], vm := .none },
  { cls := 8, slots := #[.long (-72)], vm := .none },
  { cls := 8, slots := #[.long (-71)], vm := .none },
  { cls := 8, slots := #[.long (-70)], vm := .none },
  { cls := 8, slots := #[.long (-69)], vm := .none },
  { cls := 8, slots := #[.long (-68)], vm := .none },
  { cls := 8, slots := #[.long (-67)], vm := .none },
  { cls := 8, slots := #[.long (-66)], vm := .none },
  { cls := 8, slots := #[.long (-65)], vm := .none },
  { cls := 8, slots := #[.long (-64)], vm := .none },
  { cls := 8, slots := #[.long (-63)], vm := .none },
  { cls := 8, slots := #[.long (-62)], vm := .none },
  { cls := 8, slots := #[.long (-61)], vm := .none },
  { cls := 8, slots := #[.long (-60)], vm := .none },
  { cls := 8, slots := #[.long (-59)], vm := .none },
  { cls := 8, slots := #[.long (-58)], vm := .none },
  { cls := 8, slots := #[.long (-57)], vm := .none },
  { cls := 8, slots := #[.long (-56)], vm := .none },
  { cls := 8, slots := #[.long (-55)], vm := .none },
  { cls := 8, slots := #[.long (-54)], vm := .none },
  { cls := 8, slots := #[.long (-53)], vm := .none },
  { cls := 8, slots := #[.long (-52)], vm := .none },
  { cls := 8, slots := #[.long (-51)], vm := .none },
  { cls := 8, slots := #[.long (-50)], vm := .none },
  { cls := 8, slots := #[.long (-49)], vm := .none },
  { cls := 8, slots := #[.long (-48)], vm := .none },
  { cls := 8, slots := #[.long (-47)], vm := .none },
  { cls := 8, slots := #[.long (-46)], vm := .none },
  { cls := 8, slots := #[.long (-45)], vm := .none },
  { cls := 8, slots := #[.long (-44)], vm := .none },
  { cls := 8, slots := #[.long (-43)], vm := .none },
  { cls := 8, slots := #[.long (-42)], vm := .none },
  { cls := 8, slots := #[.long (-41)], vm := .none },
  { cls := 8, slots := #[.long (-40)], vm := .none },
  { cls := 8, slots := #[.long (-39)], vm := .none },
  { cls := 8, slots := #[.long (-38)], vm := .none },
  { cls := 8, slots := #[.long (-37)], vm := .none },
  { cls := 8, slots := #[.long (-36)], vm := .none },
  { cls := 8, slots := #[.long (-35)], vm := .none },
  { cls := 8, slots := #[.long (-34)], vm := .none },
  { cls := 8, slots := #[.long (-33)], vm := .none },
  { cls := 8, slots := #[.long (-32)], vm := .none },
  { cls := 8, slots := #[.long (-31)], vm := .none },
  { cls := 8, slots := #[.long (-30)], vm := .none },
  { cls := 8, slots := #[.long (-29)], vm := .none },
  { cls := 8, slots := #[.long (-28)], vm := .none },
  { cls := 8, slots := #[.long (-27)], vm := .none },
  { cls := 8, slots := #[.long (-26)], vm := .none },
  { cls := 8, slots := #[.long (-25)], vm := .none },
  { cls := 8, slots := #[.long (-24)], vm := .none },
  { cls := 8, slots := #[.long (-23)], vm := .none },
  { cls := 8, slots := #[.long (-22)], vm := .none },
  { cls := 8, slots := #[.long (-21)], vm := .none },
  { cls := 8, slots := #[.long (-20)], vm := .none },
  { cls := 8, slots := #[.long (-19)], vm := .none },
  { cls := 8, slots := #[.long (-18)], vm := .none },
  { cls := 8, slots := #[.long (-17)], vm := .none },
  { cls := 8, slots := #[.long (-16)], vm := .none },
  { cls := 8, slots := #[.long (-15)], vm := .none },
  { cls := 8, slots := #[.long (-14)], vm := .none },
  { cls := 8, slots := #[.long (-13)], vm := .none },
  { cls := 8, slots := #[.long (-12)], vm := .none },
  { cls := 8, slots := #[.long (-11)], vm := .none },
  { cls := 8, slots := #[.long (-10)], vm := .none },
  { cls := 8, slots := #[.long (-9)], vm := .none },
  { cls := 8, slots := #[.long (-8)], vm := .none },
  { cls := 8, slots := #[.long (-7)], vm := .none },
  { cls := 8, slots := #[.long (-6)], vm := .none },
  { cls := 8, slots := #[.long (-5)], vm := .none },
  { cls := 8, slots := #[.long (-4)], vm := .none },
  { cls := 8, slots := #[.long (-3)], vm := .none },
  { cls := 8, slots := #[.long (-2)], vm := .none },
  { cls := 8, slots := #[.long (-1)], vm := .none },
  { cls := 8, slots := #[.long 0], vm := .none },
  { cls := 8, slots := #[.long 1], vm := .none },
  { cls := 8, slots := #[.long 2], vm := .none },
  { cls := 8, slots := #[.long 3], vm := .none },
  { cls := 8, slots := #[.long 4], vm := .none },
  { cls := 8, slots := #[.long 5], vm := .none },
  { cls := 8, slots := #[.long 6], vm := .none },
  { cls := 8, slots := #[.long 7], vm := .none },
  { cls := 8, slots := #[.long 8], vm := .none },
  { cls := 8, slots := #[.long 9], vm := .none },
  { cls := 8, slots := #[.long 10], vm := .none },
  { cls := 8, slots := #[.long 11], vm := .none },
  { cls := 8, slots := #[.long 12], vm := .none },
  { cls := 8, slots := #[.long 13], vm := .none },
  { cls := 8, slots := #[.long 14], vm := .none },
  { cls := 8, slots := #[.long 15], vm := .none },
  { cls := 8, slots := #[.long 16], vm := .none },
  { cls := 8, slots := #[.long 17], vm := .none },
  { cls := 8, slots := #[.long 18], vm := .none },
  { cls := 8, slots := #[.long 19], vm := .none },
  { cls := 8, slots := #[.long 20], vm := .none },
  { cls := 8, slots := #[.long 21], vm := .none },
  { cls := 8, slots := #[.long 22], vm := .none },
  { cls := 8, slots := #[.long 23], vm := .none },
  { cls := 8, slots := #[.long 24], vm := .none },
  { cls := 8, slots := #[.long 25], vm := .none },
  { cls := 8, slots := #[.long 26], vm := .none },
  { cls := 8, slots := #[.long 27], vm := .none },
  { cls := 8, slots := #[.long 28], vm := .none },
  { cls := 8, slots := #[.long 29], vm := .none },
  { cls := 8, slots := #[.long 30], vm := .none },
  { cls := 8, slots := #[.long 31], vm := .none },
  { cls := 8, slots := #[.long 32], vm := .none },
  { cls := 8, slots := #[.long 33], vm := .none },
  { cls := 8, slots := #[.long 34], vm := .none },
  { cls := 8, slots := #[.long 35], vm := .none },
  { cls := 8, slots := #[.long 36], vm := .none },
  { cls := 8, slots := #[.long 37], vm := .none },
  { cls := 8, slots := #[.long 38], vm := .none },
  { cls := 8, slots := #[.long 39], vm := .none },
  { cls := 8, slots := #[.long 40], vm := .none },
  { cls := 8, slots := #[.long 41], vm := .none },
  { cls := 8, slots := #[.long 42], vm := .none },
  { cls := 8, slots := #[.long 43], vm := .none },
  { cls := 8, slots := #[.long 44], vm := .none },
  { cls := 8, slots := #[.long 45], vm := .none },
  { cls := 8, slots := #[.long 46], vm := .none },
  { cls := 8, slots := #[.long 47], vm := .none },
  { cls := 8, slots := #[.long 48], vm := .none },
  { cls := 8, slots := #[.long 49], vm := .none },
  { cls := 8, slots := #[.long 50], vm := .none },
  { cls := 8, slots := #[.long 51], vm := .none },
  { cls := 8, slots := #[.long 52], vm := .none },
  { cls := 8, slots := #[.long 53], vm := .none },
  { cls := 8, slots := #[.long 54], vm := .none },
  { cls := 8, slots := #[.long 55], vm := .none },
  { cls := 8, slots := #[.long 56], vm := .none },
  { cls := 8, slots := #[.long 57], vm := .none },
  { cls := 8, slots := #[.long 58], vm := .none },
  { cls := 8, slots := #[.long 59], vm := .none },
  { cls := 8, slots := #[.long 60], vm := .none },
  { cls := 8, slots := #[.long 61], vm := .none },
  { cls := 8, slots := #[.long 62], vm := .none },
  { cls := 8, slots := #[.long 63], vm := .none },
  { cls := 8, slots := #[.long 64], vm := .none },
  { cls := 8, slots := #[.long 65], vm := .none },
  { cls := 8, slots := #[.long 66], vm := .none },
  { cls := 8, slots := #[.long 67], vm := .none },
  { cls := 8, slots := #[.long 68], vm := .none },
  { cls := 8, slots := #[.long 69], vm := .none },
  { cls := 8, slots := #[.long 70], vm := .none },
  { cls := 8, slots := #[.long 71], vm := .none },
  { cls := 8, slots := #[.long 72], vm := .none },
  { cls := 8, slots := #[.long 73], vm := .none },
  { cls := 8, slots := #[.long 74], vm := .none },
  { cls := 8, slots := #[.long 75], vm := .none },
  { cls := 8, slots := #[.long 76], vm := .none },
  { cls := 8, slots := #[.long 77], vm := .none },
  { cls := 8, slots := #[.long 78], vm := .none },
  { cls := 8, slots := #[.long 79], vm := .none },
  { cls := 8, slots := #[.long 80], vm := .none },
  { cls := 8, slots := #[.long 81], vm := .none },
  { cls := 8, slots := #[.long 82], vm := .none },
  { cls := 8, slots := #[.long 83], vm := .none },
  { cls := 8, slots := #[.long 84], vm := .none },
  { cls := 8, slots := #[.long 85], vm := .none },
  { cls := 8, slots := #[.long 86], vm := .none },
  { cls := 8, slots := #[.long 87], vm := .none },
  { cls := 8, slots := #[.long 88], vm := .none },
  { cls := 8, slots := #[.long 89], vm := .none },
  { cls := 8, slots := #[.long 90], vm := .none },
  { cls := 8, slots := #[.long 91], vm := .none },
  { cls := 8, slots := #[.long 92], vm := .none },
  { cls := 8, slots := #[.long 93], vm := .none },
  { cls := 8, slots := #[.long 94], vm := .none },
  { cls := 8, slots := #[.long 95], vm := .none },
  { cls := 8, slots := #[.long 96], vm := .none },
  { cls := 8, slots := #[.long 97], vm := .none },
  { cls := 8, slots := #[.long 98], vm := .none },
  { cls := 8, slots := #[.long 99], vm := .none },
  { cls := 8, slots := #[.long 100], vm := .none },
  { cls := 8, slots := #[.long 101], vm := .none },
  { cls := 8, slots := #[.long 102], vm := .none },
  { cls := 8, slots := #[.long 103], vm := .none },
  { cls := 8, slots := #[.long 104], vm := .none },
  { cls := 8, slots := #[.long 105], vm := .none },
  { cls := 8, slots := #[.long 106], vm := .none },
  { cls := 8, slots := #[.long 107], vm := .none },
  { cls := 8, slots := #[.long 108], vm := .none },
  { cls := 8, slots := #[.long 109], vm := .none },
  { cls := 8, slots := #[.long 110], vm := .none },
  { cls := 8, slots := #[.long 111], vm := .none },
  { cls := 8, slots := #[.long 112], vm := .none },
  { cls := 8, slots := #[.long 113], vm := .none },
  { cls := 8, slots := #[.long 114], vm := .none },
  { cls := 8, slots := #[.long 115], vm := .none },
  { cls := 8, slots := #[.long 116], vm := .none },
  { cls := 8, slots := #[.long 117], vm := .none },
  { cls := 8, slots := #[.long 118], vm := .none },
  { cls := 8, slots := #[.long 119], vm := .none },
  { cls := 8, slots := #[.long 120], vm := .none },
  { cls := 8, slots := #[.long 121], vm := .none },
  { cls := 8, slots := #[.long 122], vm := .none },
  { cls := 8, slots := #[.long 123], vm := .none },
  { cls := 8, slots := #[.long 124], vm := .none },
  { cls := 8, slots := #[.long 125], vm := .none },
  { cls := 8, slots := #[.long 126], vm := .none },
  { cls := 8, slots := #[.long 127], vm := .none }]
def classes : Array Class := #[k0, k1, k2, k3, k4, k5, k6, k7, k8, k9, k10, k11, k12, k13, k14, k15]
def interned : List (Array UInt16 × Addr) := []
def slotsUsed : Nat := 515
def theMethod : MethodId := ⟨1, 1⟩
def args0 : Array Value := #[.long 5, .int 9, .long 3, .int 2, .int 1]
def aboutOver (below : List Frame) : State where
  vm := { classes := classes, interned := interned.toArray }
  heap := heap
  slotsUsed := slotsUsed
  threads := #[{ frames := .invoking theMethod args0 :: below }]
def below0 : List Frame := [.native { method := ⟨0, 0⟩, args := #[] }]
def about1 : State := aboutOver below0
def p0 : Program := .bare "" "" ""
def e0 : Env := launch0.env 0 0 0
theorem w_frames : about1.frames = Frame.invoking theMethod args0 :: below0 := rfl
set_option maxRecDepth 65536 in
theorem w_args : argsFit about1.vm theMethod args0 = true := by decide +kernel
set_option maxRecDepth 65536 in
theorem w_heap : heapFits about1 = true := by decide +kernel
set_option maxRecDepth 65536 in
theorem w_runnable : about1.curStatus? = some .runnable := by decide +kernel
set_option maxRecDepth 65536 in
theorem w_alone : about1.alone = true := by decide +kernel
set_option maxRecDepth 65536 in
theorem w_named : about1.methodNamed? x = some theMethod := by decide +kernel
set_option maxRecDepth 65536 in
theorem w_hears : about1.hears theMethod below0 = true := by decide +kernel
set_option maxRecDepth 65536 in
theorem w_ripe : about1.ripe theMethod args0 below0 = true := by decide +kernel
theorem w_running : about1.status = .running := rfl
set_option maxRecDepth 65536 in
theorem w_room : about1.hasRoom e0.platform room_1 = true :=
  launch0.hasRoom_least _ room_1 (by decide +kernel) (by decide +kernel) (by decide +kernel) (by decide +kernel) (by decide +kernel) (by decide +kernel)
theorem allAtoms_all (ts : List Jvm.Cond) (a : Array Jvm.Value) (st : Jvm.State) : (allAtoms ts).before a st = ts.all (fun c => c.before a st) := by
  induction ts with
  | nil => rfl
  | cons c t ih =>
    show (Jvm.Cond.and c (allAtoms t)).before a st = _
    rw [Jvm.Cond.before_and, ih, List.all_cons]
def words1 : List Jvm.Cond := Jvm.Cond.code x code maxLocals ret :: tables_1
/-- a 'code' word, met by the world's own term for the bytes: nothing is compared byte by byte -/
theorem code_word {y : MethodName} {bytes : ByteArray} {mx : Nat} {rt : Option FieldType} {a : Array Value} {s : State} {m : MethodId} {meth : Method} {c : Code} (h1 : s.methodNamed? y = some m) (h2 : s.vm.method? m = some meth) (h3 : meth.code = some c) (h4 : c.code = bytes)
    (h5 : (c.maxLocals == mx && c.exceptionTable.isEmpty && decide (c.maxStack ≤ mostOperands) && decide (meth.sig.returnType = rt) && !meth.locks && decide (parseMethodDescriptor y.desc = some meth.sig)) = true) : (Jvm.Cond.code y bytes mx rt).before a s = true := by
  simp only [Bool.and_eq_true, beq_iff_eq, Bool.not_eq_true', decide_eq_true_eq] at h5
  obtain ⟨⟨⟨⟨⟨g1, g2⟩, g3⟩, g4⟩, g5⟩, g6⟩ := h5
  simp [Cond.before, Cond.holds, Cond.value, h1, h2, h3, h4, g1, g2, g3, g4, g5, g6]
def isCode : Jvm.Cond → Bool
  | .code _ _ _ _ => true
  | _ => false
theorem all_split {L : List Jvm.Cond} {P : Jvm.Cond → Bool} (h1 : L.all (fun c => isCode c || P c) = true) (h2 : ∀ c ∈ L.filter isCode, P c = true) : L.all P = true := by
  refine List.all_eq_true.mpr fun c hc => ?_
  have h := List.all_eq_true.mp h1 c hc
  rcases Bool.eq_false_or_eq_true (isCode c) with hi | hi
  · exact h2 c (List.mem_filter.mpr ⟨hc, hi⟩)
  · simpa [hi] using h
set_option maxRecDepth 65536 in
theorem w_c0 : (Jvm.Cond.code x code maxLocals ret).before args0 about1 = true := code_word (m := ⟨1, 1⟩) (meth := k1m1) (c := k1c1) (by decide +kernel) rfl rfl rfl (by decide +kernel)
set_option maxRecDepth 65536 in
theorem w_c1 : (Jvm.Cond.code ({ cls := "com/example/kolejka/kolejka/store/MessageId", name := "<init>", desc := "(JI)V" } : Jvm.MethodName) prog_68_method_1_code (4 : Nat) (Option.none : Option Jvm.ClassFile.FieldType)).before args0 about1 = true := code_word (m := ⟨3, 0⟩) (meth := k3m0) (c := k3c0) (by decide +kernel) rfl rfl rfl (by decide +kernel)
set_option maxRecDepth 65536 in
theorem w_c2 : (Jvm.Cond.code ({ cls := "java/lang/Object", name := "<init>", desc := "()V" } : Jvm.MethodName) object_method_1_code (1 : Nat) (Option.none : Option Jvm.ClassFile.FieldType)).before args0 about1 = true := code_word (m := ⟨0, 0⟩) (meth := k0m0) (c := k0c0) (by decide +kernel) rfl rfl rfl (by decide +kernel)
set_option maxRecDepth 65536 in
theorem w_c3 : (Jvm.Cond.code ({ cls := "com/example/kolejka/kolejka/store/MessageId", name := "equals", desc := "(Ljava/lang/Object;)Z" } : Jvm.MethodName) prog_68_method_11_code (3 : Nat) (Option.some Jvm.ClassFile.FieldType.boolean)).before args0 about1 = true := code_word (m := ⟨3, 1⟩) (meth := k3m1) (c := k3c1) (by decide +kernel) rfl rfl rfl (by decide +kernel)
set_option maxRecDepth 65536 in
theorem w_c4 : (Jvm.Cond.code ({ cls := "java/lang/Long", name := "valueOf", desc := "(J)Ljava/lang/Long;" } : Jvm.MethodName) jdk_35_method_24_code (3 : Nat) (Option.some (Jvm.ClassFile.FieldType.object "java/lang/Long"))).before args0 about1 = true := code_word (m := ⟨8, 0⟩) (meth := k8m0) (c := k8c0) (by decide +kernel) rfl rfl rfl (by decide +kernel)
set_option maxRecDepth 65536 in
theorem w_c5 : (Jvm.Cond.code ({ cls := "java/lang/Long", name := "<init>", desc := "(J)V" } : Jvm.MethodName) jdk_35_method_26_code (3 : Nat) (Option.none : Option Jvm.ClassFile.FieldType)).before args0 about1 = true := code_word (m := ⟨8, 1⟩) (meth := k8m1) (c := k8c1) (by decide +kernel) rfl rfl rfl (by decide +kernel)
set_option maxRecDepth 65536 in
theorem w_c6 : (Jvm.Cond.code ({ cls := "java/lang/Number", name := "<init>", desc := "()V" } : Jvm.MethodName) jdk_18_method_1_code (1 : Nat) (Option.none : Option Jvm.ClassFile.FieldType)).before args0 about1 = true := code_word (m := ⟨5, 0⟩) (meth := k5m0) (c := k5c0) (by decide +kernel) rfl rfl rfl (by decide +kernel)
def codes1 : List Jvm.Cond := [Jvm.Cond.code x code maxLocals ret, Jvm.Cond.code ({ cls := "com/example/kolejka/kolejka/store/MessageId", name := "<init>", desc := "(JI)V" } : Jvm.MethodName) prog_68_method_1_code (4 : Nat) (Option.none : Option Jvm.ClassFile.FieldType), Jvm.Cond.code ({ cls := "java/lang/Object", name := "<init>", desc := "()V" } : Jvm.MethodName) object_method_1_code (1 : Nat) (Option.none : Option Jvm.ClassFile.FieldType), Jvm.Cond.code ({ cls := "com/example/kolejka/kolejka/store/MessageId", name := "equals", desc := "(Ljava/lang/Object;)Z" } : Jvm.MethodName) prog_68_method_11_code (3 : Nat) (Option.some Jvm.ClassFile.FieldType.boolean), Jvm.Cond.code ({ cls := "java/lang/Long", name := "valueOf", desc := "(J)Ljava/lang/Long;" } : Jvm.MethodName) jdk_35_method_24_code (3 : Nat) (Option.some (Jvm.ClassFile.FieldType.object "java/lang/Long")), Jvm.Cond.code ({ cls := "java/lang/Long", name := "<init>", desc := "(J)V" } : Jvm.MethodName) jdk_35_method_26_code (3 : Nat) (Option.none : Option Jvm.ClassFile.FieldType), Jvm.Cond.code ({ cls := "java/lang/Number", name := "<init>", desc := "()V" } : Jvm.MethodName) jdk_18_method_1_code (1 : Nat) (Option.none : Option Jvm.ClassFile.FieldType)]
set_option maxRecDepth 65536 in
theorem codes_eq : words1.filter isCode = codes1 := rfl
theorem w_codes : ∀ c ∈ words1.filter isCode, c.before args0 about1 = true := by
  rw [codes_eq]
  intro c hc
  simp only [codes1, List.mem_cons, List.not_mem_nil, or_false] at hc
  rcases hc with rfl | rfl | rfl | rfl | rfl | rfl | rfl
  · exact w_c0
  · exact w_c1
  · exact w_c2
  · exact w_c3
  · exact w_c4
  · exact w_c5
  · exact w_c6
set_option maxRecDepth 65536 in
theorem w_t1 : (words1.take 24).all (fun c => isCode c || c.before args0 about1) = true := by decide +kernel
set_option maxRecDepth 65536 in
theorem w_t2 : (words1.drop 24).all (fun c => isCode c || c.before args0 about1) = true := by decide +kernel
theorem w_tables : (allAtoms (Jvm.Cond.code x code maxLocals ret :: tables_1)).before args0 about1 = true := by
  rw [allAtoms_all]
  show words1.all (fun c => c.before args0 about1) = true
  refine all_split ?_ w_codes
  rw [← List.take_append_drop 24 words1, List.all_append, w_t1, w_t2]
  rfl
set_option maxRecDepth 65536 in
theorem w_rest : rest_1_c.before args0 about1 = true := by decide +kernel
set_option maxRecDepth 65536 in
theorem w_case : (Jvm.Cond.and given_1 narrow_1).before args0 about1 = true := by decide +kernel
theorem w_applies : (headSpec (Jvm.Cond.code x code maxLocals ret :: tables_1) room_1).applies x e0.platform about1 = true :=
  (Spec.applies_iff w_frames).mpr ⟨w_running, w_runnable, w_alone, w_named, w_hears, w_ripe, w_room, w_tables⟩
theorem atStart : AtStart classFile x code maxLocals ret World_1 tables_1 room_1 Calls_1 rest_1 Pre_1 launch0 p0 e0 about1 theMethod args0 below0 :=
  ⟨lists_1, trivial, launch0.admits_env _ _ _, launch0.least_env, fairChoices_fair.cas, fairChoices_fair.clock, w_frames, w_args, w_heap, w_applies, trivial, w_rest, w_case⟩
end start1
theorem witness_1 : WitnessClaimed_1 := ⟨start1.p0, start1.e0, start1.about1, start1.theMethod, start1.args0, start1.below0, start1.atStart⟩
end Jvm.Pilot.@@N@@
