import JvmDerived
import JvmDerived.Pilot.@@N@@Statement
import JvmDerived.Pilot.@@N@@Code
set_option linter.unusedVariables false
set_option linter.unusedSimpArgs false
namespace Jvm.RoadKit
open Sem ClassFile Op Lib Jvm.Stand Jvm.Free Jvm.LawKit
section New
variable {p : Program} {l : Launch} {e : Env} {R : Room} {s : State} {m : MethodId} {args : Array Value} {below : List Frame} {meth : Method} {c : Code} {T : State} {locs : List Loc} {cells slots : Nat}
theorem retI (X : Stand p l e R s m args below meth c T locs cells slots) (hx : p.tables.exec = Jvm.exec) {pc : Nat} {Ls : Array Slot} {z : Int32} {rest : List Value} (hret : meth.sig.returnType = some .int) (hd : decode c.code pc = .ok (.ireturn, 1)) {fs : List Frame}
    (hl : ∀ (f : JFrame) (acts : List Action), f.method = m → f.locked = none → f.entered = [] → (doReturn e (T.setTop f) acts (some (.int z))).1 = T.setFrames fs) : Steps p.tables e below (T.setTop (mkF m pc Ls (.int z :: rest))) (T.setFrames fs) := by
  have hm' : T.vm.method? m = some meth := X.method'
  have hn : narrow .int (.int z) = .int z := rfl
  show Steps p.tables e below (T.setTop { method := m, pc := pc, locals := Ls, stack := _ :: rest, locked := none }) _
  jvm_step X.here [X.here.top, hx, hd, hm', hret, hn]
  first | (intro acts; rw [hl _ acts rfl rfl rfl]) | rw [hl _ _ rfl rfl rfl]
  exact Steps.refl _
theorem own_retA (X : Stand p l e R s m args below meth c T locs cells slots) (hx : p.tables.exec = Jvm.exec) {pc : Nat} {Ls : Array Slot} {z : Value} {ty : FieldType} {rest : List Value} (hret : meth.sig.returnType = some ty) (hty : ty.isReference = true) (hz : z.isRef = true) (hd : decode c.code pc = .ok (.areturn, 1)) {fs : List Frame}
    (hl : ∀ (f : JFrame) (acts : List Action), f.method = m → f.locked = none → f.entered = [] → (doReturn e (T.setTop f) acts (some z)).1 = T.setFrames fs) : Steps p.tables e below (T.setTop (mkF m pc Ls (z :: rest))) (T.setFrames fs) := by
  have hm' : T.vm.method? m = some meth := X.method'
  show Steps p.tables e below (T.setTop { method := m, pc := pc, locals := Ls, stack := _ :: rest, locked := none }) _
  jvm_step X.here [X.here.top, hx, hd, hm', hret, hty, hz]
  first | (intro acts; rw [hl _ acts rfl rfl rfl]) | rw [hl _ _ rfl rfl rfl]
  exact Steps.refl _
theorem own_retD (X : Stand p l e R s m args below meth c T locs cells slots) (hx : p.tables.exec = Jvm.exec) {pc : Nat} {Ls : Array Slot} {z : UInt64} {rest : List Value} (hret : meth.sig.returnType = some .double) (hd : decode c.code pc = .ok (.dreturn, 1)) {fs : List Frame}
    (hl : ∀ (f : JFrame) (acts : List Action), f.method = m → f.locked = none → f.entered = [] → (doReturn e (T.setTop f) acts (some (.double z))).1 = T.setFrames fs) : Steps p.tables e below (T.setTop (mkF m pc Ls (.double z :: rest))) (T.setFrames fs) :=
  retOut X hx hret rfl (Or.inr (Or.inr (Or.inl ⟨rfl, rfl, z, rfl⟩))) hd hl
/-- where a body is to end: it runs, it has ended, it returned v, Q says what v and the heap are -/
def own_F (s : State) (below : List Frame) (Q : Option Value → Heap → List Loc → Prop) (C S : Nat) (t : State) (o : Outcome) : Prop := t.status = .running ∧ Ended t below o ∧ ∃ v L, o = .returned v ∧ Q v t.heap L ∧ FrameEnd s o t L C S
/-- the run from T, with the frame g on top, comes to such an end -/
def own_Go (p : Program) (e : Env) (below : List Frame) (F : State → Outcome → Prop) (T : State) (g : JFrame) : Prop := ∃ t o, Steps p.tables e below (T.setTop g) t ∧ F t o
theorem own_st {F : State → Outcome → Prop} {T T' : State} {g g' : JFrame} (h : ∀ t, Steps p.tables e below (T'.setTop g') t → Steps p.tables e below (T.setTop g) t) (k : own_Go p e below F T' g') : own_Go p e below F T g := by
  obtain ⟨t, o, h1, h2⟩ := k
  exact ⟨t, o, h t h1, h2⟩
theorem own_cast {F : State → Outcome → Prop} {T : State} {g g' : JFrame} (q : g = g') (k : own_Go p e below F T g') : own_Go p e below F T g := q ▸ k
theorem own_ret {F : State → Outcome → Prop} {Q : Option Value → Heap → List Loc → Prop} {C S : Nat} {g : JFrame} {v : Option Value} (hF : F = own_F s below Q C S) (X : Stand p l e R s m args below meth c T locs cells slots) (hv : meth.sig.returnType = none → v = none) (hlk : meth.locks = false)
    (hst : ∀ fs, (∀ (f : JFrame) (acts : List Action), f.method = m → f.locked = none → f.entered = [] → (doReturn e (T.setTop f) acts v).1 = T.setFrames fs) → Steps p.tables e below (T.setTop g) (T.setFrames fs)) (hQ : Q v T.heap locs) (hc : cells ≤ C) (hs : slots ≤ S) : own_Go p e below F T g := by
  subst hF
  obtain ⟨fs, hr, hrun, hended, hW, hsame⟩ := X.leave hv hlk
  exact ⟨T.setFrames fs, .returned v, hst fs hr, hrun, hended, v, locs, rfl, hQ, ⟨_, rfl⟩, hW, hsame.mono hc hs⟩
theorem own_some {ret : Option FieldType} {ty : FieldType} {v : Option Value} (hret : ret = some ty) : ret = none → v = none := fun h => by rw [hret] at h; cases h
/-- a body's contract: called with 'as' at the heap h0 it returns, and Q holds of what it returned, of the heap, of the places written -/
abbrev own_Met (l : Launch) (Z : State) (y : MethodName) (bytes : ByteArray) (maxL : Nat) (ret : Option FieldType) (rm : Room) (as : Array Value) (h0 : Heap) (Q : Option Value → Heap → List Loc → Prop) : Prop :=
  ∀ ws : List Jvm.Cond, MetFree l y (head1 (Jvm.Cond.code y bytes maxL ret :: ws) rm) (fun a U => a = as ∧ Z.Warmed39 U.vm ∧ U.heap = h0) (fun _ _ _ _ _ => True) (fun _ U o U' => ∃ v L, o = .returned v ∧ Q v U'.heap L ∧ FrameEnd U o U' L rm.cells rm.slots)
theorem own_body {Z : State} {y : MethodName} {bytes : ByteArray} {maxL : Nat} {ret : Option FieldType} {rm : Room} {as : Array Value} {h0 : Heap} {Q : Option Value → Heap → List Loc → Prop} (hpl : plainFor y = true)
    (body : ∀ (p : Program) (e : Env) (s : State) (m : MethodId) (below : List Frame) (meth : Method) (c : Code) (T : State), Z.Warmed39 s.vm → p.tables.exec = Jvm.exec → c.code = bytes → c.maxLocals = maxL → s.vm.findClass y.cls = some m.cls → meth.name = y.name → meth.sig.returnType = ret → meth.locks = false →
      Stand p l e rm s m as below meth c T [] 0 0 → T.heap = h0 → ∀ F : State → Outcome → Prop, F = own_F s below Q rm.cells rm.slots → own_Go p e below F T (entryFrame m as maxL)) : own_Met l Z y bytes maxL ret rm as h0 Q := by
  intro ws
  refine MetFree.of_bodySF hpl hisR ?_
  intro p e s m args below meth c s₁ Bd hml0 hP hK
  obtain ⟨rfl, hZ, hh⟩ := hP
  obtain ⟨t, o, h1, h2, h3, h4⟩ := body p e s m below meth c s₁ hZ Bd.exec Bd.bytes hml0 (findClass_of_methodNamed Bd.named) (name_of_methodNamed Bd.named Bd.method).1 Bd.returns (BodyLoose.notSynchronized Bd) (Stand.of_body Bd) (by rw [← hh, Bd.state]; rfl) _ rfl
  exact ⟨t, o, h1, h2, h3, h4⟩
theorem own_back {Z : State} {a0 : Array Value} {y : MethodName} {bytes : ByteArray} {maxL : Nat} {ret : Option FieldType} {rm : Room} {len W : Nat} {as' : Array Value} {h : Heap} {Q : Option Value → Heap → List Loc → Prop} (hM : own_Met l Z y bytes maxL ret rm as' h Q)
    (hZ : Z.Warmed39 s.vm) (wc : (Cond.code y bytes maxL ret).before a0 Z = true) (wz : (Cond.initialized y.cls).before a0 Z = true) (hf : rm.frames + 1 ≤ R.frames) (hl : W + (maxL + 11) + rm.locals ≤ R.locals) :
    Back l R p e below s args y len W (fun A a => a = as' ∧ A.U.heap = h ∧ A.cells + rm.cells ≤ R.cells ∧ A.slots + rm.slots ≤ R.slots)
      (fun A _ v B => ∃ L, Q v B.U.heap L ∧ B.locs = A.locs ++ L ∧ B.cells = A.cells + rm.cells ∧ B.slots = A.slots + rm.slots) := backOf (Q := Q) (rm := rm) (hM []) hZ wc wz hf hl
theorem own_selP {Z : State} {a0 : Array Value} {y : MethodName} {n : Nat} (hZ : Z.Warmed39 s.vm) (wi : (Cond.instantiable y.cls n).before a0 Z = true) (hpriv : s.PrivateAt y) (hinst : (Cond.instanceMethod y).before args s = true) (hy : y.cls ≠ "java/lang/invoke/MethodHandle" ∧ y.cls ≠ "java/lang/invoke/VarHandle") : (Cond.selects y.cls y y).before args s = true := by
  obtain ⟨c, k, h1, h2, h3, h4, -, -⟩ := Cond.instantiable_spec (mvT (args := args) hZ wi)
  exact selects_self_of_private h1 h2 (by cases hi : k.isInterface <;> simp [hi] at h4 ⊢) hpriv hinst hy
theorem own_dup2a (X : Stand p l e R s m args below meth c T locs cells slots) (hx : p.tables.exec = Jvm.exec) {pc : Nat} {Ls : Array Slot} {a b : Value} {rest : List Value} (hd : decode c.code pc = .ok (.dup2, 1)) (ha : a.category = 1) (hb : b.category = 1) {t : State}
    (k : Steps p.tables e below (T.setTop (mkF m (pc + 1) Ls (a :: b :: a :: b :: rest))) t) : Steps p.tables e below (T.setTop (mkF m pc Ls (a :: b :: rest))) t := by
  show Steps p.tables e below (T.setTop { method := m, pc := pc, locals := Ls, stack := a :: b :: rest, locked := none }) _
  jvm_step X.here [X.here.top, hx, hd, ha, hb]
  exact k
theorem own_dup2b (X : Stand p l e R s m args below meth c T locs cells slots) (hx : p.tables.exec = Jvm.exec) {pc : Nat} {Ls : Array Slot} {a : Value} {rest : List Value} (hd : decode c.code pc = .ok (.dup2, 1)) (ha : a.category = 2) {t : State}
    (k : Steps p.tables e below (T.setTop (mkF m (pc + 1) Ls (a :: a :: rest))) t) : Steps p.tables e below (T.setTop (mkF m pc Ls (a :: rest))) t := by
  show Steps p.tables e below (T.setTop { method := m, pc := pc, locals := Ls, stack := a :: rest, locked := none }) _
  jvm_step X.here [X.here.top, hx, hd, ha]
  exact k
theorem own_fresh {Z : State} {h : Heap} {b : Addr} (g : b = h.size) {n : Nat} (q : n ≤ h.size) : n ≤ b := g ▸ q
theorem own_ne {h : Heap} {a b : Addr} (g : b = h.size) (q : a < h.size) : a ≠ b := Nat.ne_of_lt (g ▸ q)
end New
end Jvm.RoadKit
namespace Jvm.Pilot.@@N@@
open Jvm Jvm.ClassFile Sem Op Lib Jvm.Free Jvm.Stand Jvm.LawKit Jvm.RoadKit Bundle Jvm.Pilot.@@N@@.Jvm.D

abbrev own_NN (x : UInt64) : Prop := Jvm.Free.Fl.NoNaN64 x
theorem own_pick {a b : UInt64} (ha : own_NN a) (hbq : own_NN b) : own_NN (Jvm.Native.java_lang_Math.nans.pick64 true a b) := by
  unfold Jvm.Native.java_lang_Math.nans.pick64
  split
  · exact hbq
  · exact ha
  · split
    · exact hbq
    · exact ha
theorem own_i2d (x : Int32) : own_NN (FP.i2d x) := nn_w (i2d_w x)
theorem own_ninf : own_NN (18442240474082181120 : UInt64) := by unfold own_NN Jvm.Free.Fl.NoNaN64; decide +kernel
theorem own_maxcode : jdk_29_method_68_code = Jvm.Free.Fl.Abs.maxDCode := by decide +kernel
/-- a list of doubles, none a NaN -/
def own_D (vs : List Value) (n : Nat) (f : Nat → UInt64) : Prop := vs.length = n ∧ ∀ j, j < n → vs.getD j (.double 0) = .double (f j) ∧ own_NN (f j)
theorem own_getD_set {vs : List Value} {i j : Nat} {v d : Value} (hi : i < vs.length) : (vs.set i v).getD j d = if j = i then v else vs.getD j d := by
  by_cases h : j = i
  · subst h; simp [List.getD_eq_getElem?_getD, hi]
  · have : i ≠ j := fun e => h e.symm
    simp [List.getD_eq_getElem?_getD, h, List.getElem?_set_ne this]
theorem own_D.set {vs : List Value} {n : Nat} {f : Nat → UInt64} (h : own_D vs n f) (i : Nat) (y : UInt64) (hi : i < n) (hy : own_NN y) : own_D (vs.set i (.double y)) n (fun j => if j = i then y else f j) := by
  refine ⟨by rw [List.length_set]; exact h.1, fun j hj => ?_⟩
  rw [own_getD_set (by rw [h.1]; exact hi)]
  by_cases q : j = i
  · simp only [q, if_true]; exact ⟨trivial, hy⟩
  · simp only [q, if_false]; exact h.2 j hj
theorem own_D.congr {vs : List Value} {n : Nat} {f g : Nat → UInt64} (h : own_D vs n f) (e : ∀ j, j < n → f j = g j) : own_D vs n g := ⟨h.1, fun j hj => by rw [← e j hj]; exact h.2 j hj⟩
theorem own_zero : own_NN (0 : UInt64) := by unfold own_NN Jvm.Free.Fl.NoNaN64; decide +kernel
theorem own_D.rep (n : Nat) : own_D (List.replicate n (.double 0)) n (fun _ => 0) := by
  refine ⟨List.length_replicate, fun j hj => ⟨?_, own_zero⟩⟩
  simp [List.getD_eq_getElem?_getD, hj]
theorem own_D.part {vs : List Value} {n : Nat} {f : Nat → UInt64} (h : own_D vs n f) (sp m : Nat) (hm : sp + m ≤ n) : own_D ((List.range m).map fun i => vs.getD (sp + i) (.double 0)) m (fun i => f (sp + i)) := by
  refine ⟨by simp, fun j hj => ?_⟩
  have e : ((List.range m).map fun i => vs.getD (sp + i) (.double 0)).getD j (.double 0) = vs.getD (sp + j) (.double 0) := by
    simp [List.getD_eq_getElem?_getD, List.getElem?_map, List.getElem?_range hj]
  rw [e]
  exact h.2 (sp + j) (by omega)
theorem own_D.copy {vd us : List Value} {n m : Nat} {g u : Nat → UInt64} (h : own_D vd n g) (k : own_D us m u) (dp : Nat) (hm : dp + m ≤ n) : own_D (vd.take dp ++ us ++ vd.drop (dp + m)) n (fun j => if dp ≤ j ∧ j < dp + m then u (j - dp) else g j) := by
  have lt : (vd.take dp).length = dp := by rw [List.length_take, h.1]; omega
  have ld : (vd.drop (dp + m)).length = n - (dp + m) := by rw [List.length_drop, h.1]
  refine ⟨by rw [List.length_append, List.length_append, lt, ld, k.1]; omega, fun j hj => ?_⟩
  by_cases a : j < dp
  · have e : (vd.take dp ++ us ++ vd.drop (dp + m)).getD j (.double 0) = vd.getD j (.double 0) := by
      rw [List.getD_eq_getElem?_getD, List.append_assoc, List.getElem?_append_left (by omega), List.getElem?_take_of_lt a, List.getD_eq_getElem?_getD]
    rw [e]; simp only [show ¬ (dp ≤ j ∧ j < dp + m) by omega, if_false]; exact h.2 j hj
  · by_cases b : j < dp + m
    · have e : (vd.take dp ++ us ++ vd.drop (dp + m)).getD j (.double 0) = us.getD (j - dp) (.double 0) := by
        rw [List.getD_eq_getElem?_getD, List.append_assoc, List.getElem?_append_right (by omega), lt, List.getElem?_append_left (by rw [k.1]; omega), List.getD_eq_getElem?_getD]
      rw [e]; simp only [show dp ≤ j ∧ j < dp + m by omega, and_self, if_true]; exact k.2 _ (by omega)
    · have e : (vd.take dp ++ us ++ vd.drop (dp + m)).getD j (.double 0) = vd.getD j (.double 0) := by
        rw [List.getD_eq_getElem?_getD, List.getElem?_append_right (by rw [List.length_append, lt, k.1]; omega), List.length_append, lt, k.1, List.getElem?_drop, List.getD_eq_getElem?_getD]
        congr 2; omega
      rw [e]; simp only [show ¬ (dp ≤ j ∧ j < dp + m) by omega, if_false]; exact h.2 j hj
theorem own_one (i : Nat) : Int32.ofNat i + (1 : Int32) = Int32.ofNat (i + 1) := (Int32.ofNat_add i 1).symm
theorem own_add (i j : Nat) : Int32.ofNat i + Int32.ofNat j = Int32.ofNat (i + j) := (Int32.ofNat_add i j).symm
theorem own_sub {i j : Nat} (h : j ≤ i) : Int32.ofNat i - Int32.ofNat j = Int32.ofNat (i - j) := by
  have : Int32.ofNat i = Int32.ofNat (i - j) + Int32.ofNat j := by rw [own_add]; congr 1; omega
  rw [this, Int32.add_sub_cancel]
theorem own_lt {i n : Nat} (h : i < n) (hn : n ≤ 99) : Int32.ofNat i < Int32.ofNat n := by
  rw [Int32.lt_iff_toInt_lt, Int32.toInt_ofNat_of_lt (by omega), Int32.toInt_ofNat_of_lt (by omega)]
  omega
theorem own_nlt {i n : Nat} (h : n ≤ i) (hn : i ≤ 99) : ¬ Int32.ofNat i < Int32.ofNat n := by
  rw [Int32.lt_iff_toInt_lt, Int32.toInt_ofNat_of_lt (by omega), Int32.toInt_ofNat_of_lt (by omega)]
  omega
theorem own_eq' {i n : Nat} (h : Int32.ofNat i = Int32.ofNat n) (hi : i ≤ 99) (hn : n ≤ 99) : i = n := by
  have := congrArg Int32.toInt h
  rw [Int32.toInt_ofNat_of_lt (by omega), Int32.toInt_ofNat_of_lt (by omega)] at this
  omega
theorem own_nat {i : Nat} (h : i ≤ 99) : (Int32.ofNat i).toNatClampNeg = i ∧ ¬ Int32.ofNat i < 0 := by
  have t : (Int32.ofNat i).toInt = i := Int32.toInt_ofNat_of_lt (by omega)
  have e : ¬ Int32.ofNat i < 0 := by
    rw [Int32.lt_iff_toInt_lt, t]
    show ¬ ((i : Int) < 0)
    omega
  have q := nat_of e
  exact ⟨by omega, e⟩
theorem own_half {i : Nat} (h : i ≤ 99) : Int32.ofNat i / (2 : Int32) = Int32.ofNat (i / 2) := by
  have t : (Int32.ofNat i).toInt = i := Int32.toInt_ofNat_of_lt (by omega)
  have d := (c_idiv (Int32.ofNat i) (2 : Int32) 2 (by decide) (by decide)).1 (by omega)
  apply Int32.toInt_inj.mp
  rw [d, t, Int32.toInt_ofNat_of_lt (by omega)]
  omega
theorem own_twice (i : Nat) : (2 : Int32) * Int32.ofNat i = Int32.ofNat (2 * i) := (Int32.ofNat_mul 2 i).symm
theorem own_small (x : Int32) : ∃ n : Nat, n ≤ 3 ∧ (x &&& (3 : Int32)) = Int32.ofNat n := by
  refine ⟨(x &&& 3).toBitVec.toNat, ?_, ?_⟩
  · simp only [Int32.toBitVec_and, BitVec.toNat_and]
    exact Nat.and_le_right
  · apply Int32.toBitVec_inj.mp
    show _ = BitVec.ofNat 32 _
    rw [BitVec.ofNat_toNat]; simp
theorem own_modn (a c : Nat) (ha : a ≤ 9) (h0 : 1 ≤ c) (h1 : c ≤ 8) : ∃ y : Nat, y < c ∧ Int32.ofNat a % Int32.ofNat c = Int32.ofNat y := by
  have ta : (Int32.ofNat a).toInt = a := Int32.toInt_ofNat_of_lt (by omega)
  have tc : (Int32.ofNat c).toInt = c := Int32.toInt_ofNat_of_lt (by omega)
  have v := (c_iremV (Int32.ofNat a) (Int32.ofNat c)).1 (by omega) (by omega)
  obtain ⟨y, hy⟩ : ∃ y : Nat, (y : Int) = (Int32.ofNat a % Int32.ofNat c).toInt := ⟨_, Int.toNat_of_nonneg v.1⟩
  refine ⟨y, by omega, ?_⟩
  apply Int32.toInt_inj.mp
  rw [← hy, Int32.toInt_ofNat_of_lt (by omega)]
def own_dk (x0 x1 x2 x3 : UInt64) : Nat → UInt64
  | 0 => x0
  | 1 => x1
  | 2 => x2
  | 3 => x3
  | _ => 0

theorem pd_0 : parseMethodDescriptor "()V" = some ⟨[], none⟩ := by decide +kernel
theorem pd_1 : parseMethodDescriptor "(D)I" = some ⟨[.double], some .int⟩ := by decide +kernel
theorem pd_2 : parseMethodDescriptor "(ID)V" = some ⟨[.int, .double], none⟩ := by decide +kernel
theorem pd_3 : parseMethodDescriptor "(I)D" = some ⟨[.int], some .double⟩ := by decide +kernel
theorem pd_4 : parseMethodDescriptor "([DII)[D" = some ⟨[(.array .double), .int, .int], some (.array .double)⟩ := by decide +kernel
theorem pd_5 : parseMethodDescriptor "(II)V" = some ⟨[.int, .int], none⟩ := by decide +kernel
theorem pd_6 : parseMethodDescriptor "(II)I" = some ⟨[.int, .int], some .int⟩ := by decide +kernel
theorem pd_7 : parseMethodDescriptor "(Ljava/lang/Object;ILjava/lang/Object;II)V" = some ⟨[(.object "java/lang/Object"), .int, (.object "java/lang/Object"), .int, .int], none⟩ := by decide +kernel
theorem pd_8 : parseMethodDescriptor "([DD)V" = some ⟨[(.array .double), .double], none⟩ := by decide +kernel
theorem pd_9 : parseMethodDescriptor "(DD)D" = some ⟨[.double, .double], some .double⟩ := by decide +kernel
theorem d10_0 : decode jdk_29_method_69_code 0 = .ok (.iload_n 0, 1) := by decide +kernel
theorem d10_1 : decode jdk_29_method_69_code 1 = .ok (.iload_n 1, 1) := by decide +kernel
theorem d10_2 : decode jdk_29_method_69_code 2 = .ok (.if_icmp .gt 7, 3) := by decide +kernel
theorem d10_5 : decode jdk_29_method_69_code 5 = .ok (.iload_n 0, 1) := by decide +kernel
theorem d10_6 : decode jdk_29_method_69_code 6 = .ok (.goto 4, 3) := by decide +kernel
theorem d10_9 : decode jdk_29_method_69_code 9 = .ok (.iload_n 1, 1) := by decide +kernel
theorem d10_10 : decode jdk_29_method_69_code 10 = .ok (.ireturn, 1) := by decide +kernel
theorem pn_10 : plainFor (⟨"java/lang/Math", "min", "(II)I"⟩ : MethodName) = true := (Jvm.Free.JP.mathPlain rfl (by decide +kernel))
set_option maxRecDepth 65536 in
set_option maxHeartbeats 40000000 in
theorem rm10 (l : Launch) (Z : State) (a0 : Array Value) (hw : ∀ d ∈ tables_1, d.before a0 Z = true) (p1 p2 : Int32) (h0 : Heap) (n0 : Nat) (Z0 : n0 ≤ h0.size)  :
    own_Met l Z (⟨"java/lang/Math", "min", "(II)I"⟩ : MethodName) jdk_29_method_69_code 2 (some .int) ({ frames := 0, cells := 0, slots := 0, locals := 0 } : Room) #[(.int p1), (.int p2)] h0 (fun v h L => ∃ z, v = some (.int z) ∧ Fr n0 L ∧ h = h0 ∧ ((p2 < p1 ∧ z = p2) ∨ (¬ p2 < p1 ∧ z = p1))) := by
  refine own_body pn_10 ?_
  intro p e s m below meth c T0 hZ hx hby hml hown hnm hret hlk X0 e0 F hF
  have N0 := Fr.nil n0
  have K0 := Keep.refl h0 []
  refine own_cast (g' := (mkF m 0 #[.val (.int p1), .val (.int p2)] [])) (by first | (simp [entryFrame, mkF, argsToLocals, Value.category]; done) | rfl) ?_
  refine own_st (T' := T0) (g' := (mkF m 1 #[.val (.int p1), .val (.int p2)] [(.int p1)])) (fun t9 k9 => XS.iloadN X0.here hx rfl (hb hby d10_0) rfl k9) ?_
  refine own_st (T' := T0) (g' := (mkF m 2 #[.val (.int p1), .val (.int p2)] [(.int p2), (.int p1)])) (fun t9 k9 => XS.iloadN X0.here hx rfl (hb hby d10_1) rfl k9) ?_
  by_cases h1 : p2 < p1
  · refine own_st (T' := T0) (g' := (mkF m 9 #[.val (.int p1), .val (.int p2)] [])) (fun t9 k9 => XS.icmpYes X0.here hx rfl (pc0 := 2) (pc' := 9) rfl (hb hby d10_2) rfl (tlt h1).2.2.1 (by decide) (by decide) k9) ?_
    refine own_st (T' := T0) (g' := (mkF m 10 #[.val (.int p1), .val (.int p2)] [(.int p2)])) (fun t9 k9 => XS.iloadN X0.here hx rfl (hb hby d10_9) rfl k9) ?_
    refine own_ret (v := some (.int p2)) hF X0 (own_some hret) hlk (fun fs hr => retI X0 hx hret (hb hby d10_10) hr) ?_ (by decide) (by decide)
    try rw [e0]
    exact ⟨_, rfl, N0, rfl, Or.inl ⟨h1, rfl⟩⟩
  · refine own_st (T' := T0) (g' := (mkF m 5 #[.val (.int p1), .val (.int p2)] [])) (fun t9 k9 => XS.icmpNo X0.here hx rfl (hb hby d10_2) rfl (flt h1).2.2.1 k9) ?_
    refine own_st (T' := T0) (g' := (mkF m 6 #[.val (.int p1), .val (.int p2)] [(.int p1)])) (fun t9 k9 => XS.iloadN X0.here hx rfl (hb hby d10_5) rfl k9) ?_
    refine own_st (T' := T0) (g' := (mkF m 10 #[.val (.int p1), .val (.int p2)] [(.int p1)])) (fun t9 k9 => XS.goto X0.here hx rfl (pc0 := 6) (pc' := 10) rfl (hb hby d10_6) (by decide) (by decide) k9) ?_
    refine own_ret (v := some (.int p1)) hF X0 (own_some hret) hlk (fun fs hr => retI X0 hx hret (hb hby d10_10) hr) ?_ (by decide) (by decide)
    try rw [e0]
    exact ⟨_, rfl, N0, rfl, Or.inr ⟨h1, rfl⟩⟩
theorem d9_0 : decode jdk_65_method_131_code 0 = .ok (.iload_n 1, 1) := by decide +kernel
theorem d9_1 : decode jdk_65_method_131_code 1 = .ok (.iload_n 0, 1) := by decide +kernel
theorem d9_2 : decode jdk_65_method_131_code 2 = .ok (.if_icmp .ge 35, 3) := by decide +kernel
theorem d9_5 : decode jdk_65_method_131_code 5 = .ok (.new 43, 3) := by decide +kernel
theorem d9_8 : decode jdk_65_method_131_code 8 = .ok (.dup, 1) := by decide +kernel
theorem d9_9 : decode jdk_65_method_131_code 9 = .ok (.new 45, 3) := by decide +kernel
theorem d9_12 : decode jdk_65_method_131_code 12 = .ok (.dup, 1) := by decide +kernel
theorem d9_13 : decode jdk_65_method_131_code 13 = .ok (.invokespecial 47, 3) := by decide +kernel
theorem d9_16 : decode jdk_65_method_131_code 16 = .ok (.iload_n 0, 1) := by decide +kernel
theorem d9_17 : decode jdk_65_method_131_code 17 = .ok (.invokevirtual 54, 3) := by decide +kernel
theorem d9_20 : decode jdk_65_method_131_code 20 = .ok (.ldc_w 337, 3) := by decide +kernel
theorem d9_23 : decode jdk_65_method_131_code 23 = .ok (.invokevirtual 50, 3) := by decide +kernel
theorem d9_26 : decode jdk_65_method_131_code 26 = .ok (.iload_n 1, 1) := by decide +kernel
theorem d9_27 : decode jdk_65_method_131_code 27 = .ok (.invokevirtual 54, 3) := by decide +kernel
theorem d9_30 : decode jdk_65_method_131_code 30 = .ok (.invokevirtual 61, 3) := by decide +kernel
theorem d9_33 : decode jdk_65_method_131_code 33 = .ok (.invokespecial 65, 3) := by decide +kernel
theorem d9_36 : decode jdk_65_method_131_code 36 = .ok (.athrow, 1) := by decide +kernel
theorem d9_37 : decode jdk_65_method_131_code 37 = .ok (.return_, 1) := by decide +kernel
theorem pn_9 : plainFor (⟨"java/util/Arrays", "checkLength", "(II)V"⟩ : MethodName) = true := plainFor_of_name (by first | (simp [plainName, overriddenIn]; done) | decide +kernel)
set_option maxRecDepth 65536 in
set_option maxHeartbeats 40000000 in
theorem rm9 (l : Launch) (Z : State) (a0 : Array Value) (hw : ∀ d ∈ tables_1, d.before a0 Z = true) (p1 p2 : Int32) (h0 : Heap) (n0 : Nat) (Z0 : n0 ≤ h0.size) (hp : ¬ p2 < p1) :
    own_Met l Z (⟨"java/util/Arrays", "checkLength", "(II)V"⟩ : MethodName) jdk_65_method_131_code 2 none ({ frames := 0, cells := 0, slots := 0, locals := 0 } : Room) #[(.int p1), (.int p2)] h0 (fun v h L => v = none ∧ Fr n0 L ∧ h = h0) := by
  refine own_body pn_9 ?_
  intro p e s m below meth c T0 hZ hx hby hml hown hnm hret hlk X0 e0 F hF
  have N0 := Fr.nil n0
  have K0 := Keep.refl h0 []
  refine own_cast (g' := (mkF m 0 #[.val (.int p1), .val (.int p2)] [])) (by first | (simp [entryFrame, mkF, argsToLocals, Value.category]; done) | rfl) ?_
  refine own_st (T' := T0) (g' := (mkF m 1 #[.val (.int p1), .val (.int p2)] [(.int p2)])) (fun t9 k9 => XS.iloadN X0.here hx rfl (hb hby d9_0) rfl k9) ?_
  refine own_st (T' := T0) (g' := (mkF m 2 #[.val (.int p1), .val (.int p2)] [(.int p1), (.int p2)])) (fun t9 k9 => XS.iloadN X0.here hx rfl (hb hby d9_1) rfl k9) ?_
  refine own_st (T' := T0) (g' := (mkF m 37 #[.val (.int p1), .val (.int p2)] [])) (fun t9 k9 => XS.icmpYes X0.here hx rfl (pc0 := 2) (pc' := 37) rfl (hb hby d9_2) rfl (flt hp).2.1 (by decide) (by decide) k9) ?_
  refine own_ret (v := none) hF X0 (fun _ => rfl) hlk (fun fs hr => X0.returnOut hx hret (hb hby d9_37) hr) ?_ (by decide) (by decide)
  try rw [e0]
  exact ⟨rfl, N0, rfl⟩
theorem d8_0 : decode jdk_65_method_145_code 0 = .ok (.iload_n 1, 1) := by decide +kernel
theorem d8_1 : decode jdk_65_method_145_code 1 = .ok (.iload_n 2, 1) := by decide +kernel
theorem d8_2 : decode jdk_65_method_145_code 2 = .ok (.invokestatic 343, 3) := by decide +kernel
theorem d8_5 : decode jdk_65_method_145_code 5 = .ok (.iload_n 2, 1) := by decide +kernel
theorem d8_6 : decode jdk_65_method_145_code 6 = .ok (.iload_n 1, 1) := by decide +kernel
theorem d8_7 : decode jdk_65_method_145_code 7 = .ok (.isub, 1) := by decide +kernel
theorem d8_8 : decode jdk_65_method_145_code 8 = .ok (.istore_n 3, 1) := by decide +kernel
theorem d8_9 : decode jdk_65_method_145_code 9 = .ok (.iload_n 3, 1) := by decide +kernel
theorem d8_10 : decode jdk_65_method_145_code 10 = .ok (.newarray .double, 2) := by decide +kernel
theorem d8_12 : decode jdk_65_method_145_code 12 = .ok (.astore 4, 2) := by decide +kernel
theorem d8_14 : decode jdk_65_method_145_code 14 = .ok (.aload_n 0, 1) := by decide +kernel
theorem d8_15 : decode jdk_65_method_145_code 15 = .ok (.iload_n 1, 1) := by decide +kernel
theorem d8_16 : decode jdk_65_method_145_code 16 = .ok (.aload 4, 2) := by decide +kernel
theorem d8_18 : decode jdk_65_method_145_code 18 = .ok (.iconst 0, 1) := by decide +kernel
theorem d8_19 : decode jdk_65_method_145_code 19 = .ok (.aload_n 0, 1) := by decide +kernel
theorem d8_20 : decode jdk_65_method_145_code 20 = .ok (.arraylength, 1) := by decide +kernel
theorem d8_21 : decode jdk_65_method_145_code 21 = .ok (.iload_n 1, 1) := by decide +kernel
theorem d8_22 : decode jdk_65_method_145_code 22 = .ok (.isub, 1) := by decide +kernel
theorem d8_23 : decode jdk_65_method_145_code 23 = .ok (.iload_n 3, 1) := by decide +kernel
theorem d8_24 : decode jdk_65_method_145_code 24 = .ok (.invokestatic 304, 3) := by decide +kernel
theorem d8_27 : decode jdk_65_method_145_code 27 = .ok (.invokestatic 150, 3) := by decide +kernel
theorem d8_30 : decode jdk_65_method_145_code 30 = .ok (.aload 4, 2) := by decide +kernel
theorem d8_32 : decode jdk_65_method_145_code 32 = .ok (.areturn, 1) := by decide +kernel
theorem pn_8 : plainFor (⟨"java/util/Arrays", "copyOfRangeDouble", "([DII)[D"⟩ : MethodName) = true := plainFor_of_name (by first | (simp [plainName, overriddenIn]; done) | decide +kernel)
set_option maxRecDepth 65536 in
set_option maxHeartbeats 40000000 in
theorem rm8 (l : Launch) (Z : State) (a0 : Array Value) (hw : ∀ d ∈ tables_1, d.before a0 Z = true) (a1 : Addr) (k1 : ClassId) (vs : List Value) (f : Nat → UInt64) (cp : Nat) (h0 : Heap) (n0 : Nat) (Z0 : n0 ≤ h0.size) (V1 : Arv Z h0 a1 k1 .double (Int32.ofNat (2 * cp)) vs (.double 0)) (hD : own_D vs (2 * cp) f) (hc0 : 1 ≤ cp) (hc : cp ≤ 2) :
    own_Met l Z (⟨"java/util/Arrays", "copyOfRangeDouble", "([DII)[D"⟩ : MethodName) jdk_65_method_145_code 5 (some (.array .double)) ({ frames := 1, cells := 1, slots := 2, locals := 60 } : Room) #[(.ref a1), (.int (Int32.ofNat cp)), (.int (Int32.ofNat (cp + cp)))] h0 (fun v h L => ∃ (b : Addr) (kb : ClassId) (vb : List Value), v = some (.ref b) ∧ Fr n0 L ∧ Keep h0 h [] ∧ h0.size ≤ b ∧ n0 ≤ b ∧ Arv Z h b kb .double (Int32.ofNat cp) vb (.double 0) ∧ own_D vb cp (fun i => f (cp + i))) := by
  refine own_body pn_8 ?_
  intro p e s m below meth c T0 hZ hx hby hml hown hnm hret hlk X0 e0 F hF
  have N0 := Fr.nil n0
  have K0 := Keep.refl h0 []
  refine own_cast (g' := (mkF m 0 #[.val (.ref a1), .val (.int (Int32.ofNat cp)), .val (.int (Int32.ofNat (cp + cp))), .unset, .unset] [])) (by first | (simp [entryFrame, mkF, argsToLocals, Value.category]; done) | rfl) ?_
  obtain ⟨c1, c2⟩ := own_nat (i := cp) (by omega)
  obtain ⟨d1, d2⟩ := own_nat (i := 2 * cp) (by omega)
  refine own_st (T' := T0) (g' := (mkF m 1 #[.val (.ref a1), .val (.int (Int32.ofNat cp)), .val (.int (Int32.ofNat (cp + cp))), .unset, .unset] [(.int (Int32.ofNat cp))])) (fun t9 k9 => XS.iloadN X0.here hx rfl (hb hby d8_0) rfl k9) ?_
  refine own_st (T' := T0) (g' := (mkF m 2 #[.val (.ref a1), .val (.int (Int32.ofNat cp)), .val (.int (Int32.ofNat (cp + cp))), .unset, .unset] [(.int (Int32.ofNat (cp + cp))), (.int (Int32.ofNat cp))])) (fun t9 k9 => XS.iloadN X0.here hx rfl (hb hby d8_1) rfl k9) ?_
  obtain ⟨_, _, ⟨T1, L1, k1, n1⟩, -, X1, ⟨Lc1, hQ1, l1, y1, z1⟩, st1⟩ := Jvm.LawKit.callS X0 hx (y := (⟨"java/util/Arrays", "checkLength", "(II)V"⟩ : MethodName)) hown (mvT hZ (hw _ (List.mem_of_getElem? (i := 44) rfl))) (mvT hZ (hw _ (List.mem_of_getElem? (i := 45) rfl))) (mvT hZ (hw _ (List.mem_of_getElem? (i := 39) rfl))) (mvT hZ (hw _ (List.mem_of_getElem? (i := 46) rfl))) (by decide) (own_back (W := 0) (rm9 l Z a0 hw (Int32.ofNat cp) (Int32.ofNat (cp + cp)) h0 n0 Z0 (own_nlt (by omega) (by omega))) hZ (hw _ (List.mem_of_getElem? (i := 46) rfl)) (hw _ (List.mem_of_getElem? (i := 39) rfl)) (by decide) (by decide)) (g := (mkF m 2 #[.val (.ref a1), .val (.int (Int32.ofNat cp)), .val (.int (Int32.ofNat (cp + cp))), .unset, .unset] [(.int (Int32.ofNat (cp + cp))), (.int (Int32.ofNat cp))])) rfl (by rw [hml]; rfl) (argsL := [(.int (Int32.ofNat cp)), (.int (Int32.ofNat (cp + cp)))]) (rest := []) (lenOf pd_5 rfl) rfl (by show 2 * 0 + _ ≤ _; exact Nat.le_of_eq rfl) (hb hby d8_2) (fun _ _ => ⟨rfl, e0, (Nat.le_of_ble_eq_true rfl), (Nat.le_of_ble_eq_true rfl)⟩)
  dsimp only [Pt.U, Pt.locs, Pt.cells, Pt.slots] at X1 l1 y1 z1 st1 hQ1
  subst l1 y1 z1
  obtain ⟨rfl, Nq1, he1⟩ := hQ1
  have N1 := Fr.app N0 Nq1
  have e1 : T1.heap = h0 := he1
  refine own_st (T' := T1) (g' := (mkF m 5 #[.val (.ref a1), .val (.int (Int32.ofNat cp)), .val (.int (Int32.ofNat (cp + cp))), .unset, .unset] [])) (fun t9 k9 => st1 t9 k9) ?_
  refine own_st (T' := T1) (g' := (mkF m 6 #[.val (.ref a1), .val (.int (Int32.ofNat cp)), .val (.int (Int32.ofNat (cp + cp))), .unset, .unset] [(.int (Int32.ofNat (cp + cp)))])) (fun t9 k9 => XS.iloadN X1.here hx rfl (hb hby d8_5) rfl k9) ?_
  refine own_st (T' := T1) (g' := (mkF m 7 #[.val (.ref a1), .val (.int (Int32.ofNat cp)), .val (.int (Int32.ofNat (cp + cp))), .unset, .unset] [(.int (Int32.ofNat cp)), (.int (Int32.ofNat (cp + cp)))])) (fun t9 k9 => XS.iloadN X1.here hx rfl (hb hby d8_6) rfl k9) ?_
  refine own_st (T' := T1) (g' := (mkF m 8 #[.val (.ref a1), .val (.int (Int32.ofNat cp)), .val (.int (Int32.ofNat (cp + cp))), .unset, .unset] [(.int ((Int32.ofNat (cp + cp)) - (Int32.ofNat cp)))])) (fun t9 k9 => XS.isub X1.here hx rfl (hb hby d8_7) rfl k9) ?_
  rw [own_sub (i := cp + cp) (j := cp) (by omega), Nat.add_sub_cancel]
  refine own_st (T' := T1) (g' := (mkF m 9 #[.val (.ref a1), .val (.int (Int32.ofNat cp)), .val (.int (Int32.ofNat (cp + cp))), .val (.int (Int32.ofNat cp)), .unset] [])) (fun t9 k9 => XS.istoreN X1.here hx rfl (hb hby d8_8) rfl (l' := #[.val (.ref a1), .val (.int (Int32.ofNat cp)), .val (.int (Int32.ofNat (cp + cp))), .val (.int (Int32.ofNat cp)), .unset]) rfl k9) ?_
  refine own_st (T' := T1) (g' := (mkF m 10 #[.val (.ref a1), .val (.int (Int32.ofNat cp)), .val (.int (Int32.ofNat (cp + cp))), .val (.int (Int32.ofNat cp)), .unset] [(.int (Int32.ofNat cp))])) (fun t9 k9 => XS.iloadN X1.here hx rfl (hb hby d8_9) rfl k9) ?_
  obtain ⟨T2, h2, k2, X2, e2, Ex2, A2, st2⟩ := newP X1 hx hZ (hw _ (List.mem_of_getElem? (i := 0) rfl)) e1 (g := (mkF m 10 #[.val (.ref a1), .val (.int (Int32.ofNat cp)), .val (.int (Int32.ofNat (cp + cp))), .val (.int (Int32.ofNat cp)), .unset] [(.int (Int32.ofNat cp))])) rfl (hb hby d8_10) rfl c2 (cap := 2) (by rw [c1]; omega) (by decide) (by decide) (by decide)
  obtain ⟨b2, gb2⟩ : ∃ z, z = h0.size := ⟨_, rfl⟩
  have ne_a1_b2 : a1 ≠ b2 := own_ne gb2 V1.lt
  have g_b2 : n0 ≤ b2 := gb2 ▸ Z0
  have sz_b2 : h0.size ≤ b2 := gb2 ▸ K0.1
  rw [← gb2] at A2 st2
  have V1_3 := V1.ext Ex2
  have K2 := K0.ext Ex2
  have Z2 : n0 ≤ h2.size := Nat.le_trans Z0 Ex2.1
  have V_b2 : Arv Z h2 b2 k2 .double (Int32.ofNat cp) [] (.double 0) := Arv.new A2 c2
  refine own_st (T' := T2) (g' := (mkF m 12 #[.val (.ref a1), .val (.int (Int32.ofNat cp)), .val (.int (Int32.ofNat (cp + cp))), .val (.int (Int32.ofNat cp)), .unset] [(.ref b2)])) (fun t9 k9 => st2 t9 k9) ?_
  have Vb : Arv Z h2 b2 k2 .double (Int32.ofNat cp) (List.replicate cp (.double 0)) (.double 0) := V_b2.pad (pad_rep [] (.double 0) cp)
  refine own_st (T' := T2) (g' := (mkF m 14 #[.val (.ref a1), .val (.int (Int32.ofNat cp)), .val (.int (Int32.ofNat (cp + cp))), .val (.int (Int32.ofNat cp)), .val (.ref b2)] [])) (fun t9 k9 => XS.astore X2.here hx rfl (hb hby d8_12) rfl rfl (l' := #[.val (.ref a1), .val (.int (Int32.ofNat cp)), .val (.int (Int32.ofNat (cp + cp))), .val (.int (Int32.ofNat cp)), .val (.ref b2)]) rfl k9) ?_
  refine own_st (T' := T2) (g' := (mkF m 15 #[.val (.ref a1), .val (.int (Int32.ofNat cp)), .val (.int (Int32.ofNat (cp + cp))), .val (.int (Int32.ofNat cp)), .val (.ref b2)] [(.ref a1)])) (fun t9 k9 => XS.aloadN X2.here hx rfl (hb hby d8_14) rfl rfl k9) ?_
  refine own_st (T' := T2) (g' := (mkF m 16 #[.val (.ref a1), .val (.int (Int32.ofNat cp)), .val (.int (Int32.ofNat (cp + cp))), .val (.int (Int32.ofNat cp)), .val (.ref b2)] [(.int (Int32.ofNat cp)), (.ref a1)])) (fun t9 k9 => XS.iloadN X2.here hx rfl (hb hby d8_15) rfl k9) ?_
  refine own_st (T' := T2) (g' := (mkF m 18 #[.val (.ref a1), .val (.int (Int32.ofNat cp)), .val (.int (Int32.ofNat (cp + cp))), .val (.int (Int32.ofNat cp)), .val (.ref b2)] [(.ref b2), (.int (Int32.ofNat cp)), (.ref a1)])) (fun t9 k9 => XS.aload X2.here hx rfl (hb hby d8_16) rfl rfl k9) ?_
  refine own_st (T' := T2) (g' := (mkF m 19 #[.val (.ref a1), .val (.int (Int32.ofNat cp)), .val (.int (Int32.ofNat (cp + cp))), .val (.int (Int32.ofNat cp)), .val (.ref b2)] [(.int (0 : Int32)), (.ref b2), (.int (Int32.ofNat cp)), (.ref a1)])) (fun t9 k9 => XS.iconst X2.here hx rfl (hb hby d8_18) k9) ?_
  refine own_st (T' := T2) (g' := (mkF m 20 #[.val (.ref a1), .val (.int (Int32.ofNat cp)), .val (.int (Int32.ofNat (cp + cp))), .val (.int (Int32.ofNat cp)), .val (.ref b2)] [(.ref a1), (.int (0 : Int32)), (.ref b2), (.int (Int32.ofNat cp)), (.ref a1)])) (fun t9 k9 => XS.aloadN X2.here hx rfl (hb hby d8_19) rfl rfl k9) ?_
  obtain ⟨clu4, Aru4, qu4, Su4, Nu4, Hu4, Gu4⟩ := (id V1_3)
  refine own_st (T' := T2) (g' := (mkF m 21 #[.val (.ref a1), .val (.int (Int32.ofNat cp)), .val (.int (Int32.ofNat (cp + cp))), .val (.int (Int32.ofNat cp)), .val (.ref b2)] [(.int (Int32.ofNat (2 * cp))), (.int (0 : Int32)), (.ref b2), (.int (Int32.ofNat cp)), (.ref a1)])) (fun t9 k9 => X2.arraylength hx (by rw [e2]; exact Aru4.1) (State.isArrayOf_alike hZ.alike Aru4.2.1) (g := (mkF m 20 #[.val (.ref a1), .val (.int (Int32.ofNat cp)), .val (.int (Int32.ofNat (cp + cp))), .val (.int (Int32.ofNat cp)), .val (.ref b2)] [(.ref a1), (.int (0 : Int32)), (.ref b2), (.int (Int32.ofNat cp)), (.ref a1)])) rfl rfl (hb hby d8_20) t9 (by rw [len_of Su4 Nu4]; exact k9)) ?_
  refine own_st (T' := T2) (g' := (mkF m 22 #[.val (.ref a1), .val (.int (Int32.ofNat cp)), .val (.int (Int32.ofNat (cp + cp))), .val (.int (Int32.ofNat cp)), .val (.ref b2)] [(.int (Int32.ofNat cp)), (.int (Int32.ofNat (2 * cp))), (.int (0 : Int32)), (.ref b2), (.int (Int32.ofNat cp)), (.ref a1)])) (fun t9 k9 => XS.iloadN X2.here hx rfl (hb hby d8_21) rfl k9) ?_
  refine own_st (T' := T2) (g' := (mkF m 23 #[.val (.ref a1), .val (.int (Int32.ofNat cp)), .val (.int (Int32.ofNat (cp + cp))), .val (.int (Int32.ofNat cp)), .val (.ref b2)] [(.int ((Int32.ofNat (2 * cp)) - (Int32.ofNat cp))), (.int (0 : Int32)), (.ref b2), (.int (Int32.ofNat cp)), (.ref a1)])) (fun t9 k9 => XS.isub X2.here hx rfl (hb hby d8_22) rfl k9) ?_
  rw [own_sub (i := 2 * cp) (j := cp) (by omega), show 2 * cp - cp = cp by omega]
  refine own_st (T' := T2) (g' := (mkF m 24 #[.val (.ref a1), .val (.int (Int32.ofNat cp)), .val (.int (Int32.ofNat (cp + cp))), .val (.int (Int32.ofNat cp)), .val (.ref b2)] [(.int (Int32.ofNat cp)), (.int (Int32.ofNat cp)), (.int (0 : Int32)), (.ref b2), (.int (Int32.ofNat cp)), (.ref a1)])) (fun t9 k9 => XS.iloadN X2.here hx rfl (hb hby d8_23) rfl k9) ?_
  obtain ⟨_, _, ⟨T5, L5, k5, n5⟩, -, X5, ⟨Lc5, hQ5, l5, y5, z5⟩, st5⟩ := Jvm.LawKit.callS X2 hx (y := (⟨"java/lang/Math", "min", "(II)I"⟩ : MethodName)) hown (mvT hZ (hw _ (List.mem_of_getElem? (i := 47) rfl))) (mvT hZ (hw _ (List.mem_of_getElem? (i := 48) rfl))) (mvT hZ (hw _ (List.mem_of_getElem? (i := 49) rfl))) (mvT hZ (hw _ (List.mem_of_getElem? (i := 50) rfl))) (by decide) (own_back (W := 4) (rm10 l Z a0 hw (Int32.ofNat cp) (Int32.ofNat cp) h2 n0 Z2) hZ (hw _ (List.mem_of_getElem? (i := 50) rfl)) (hw _ (List.mem_of_getElem? (i := 49) rfl)) (by decide) (by decide)) (g := (mkF m 24 #[.val (.ref a1), .val (.int (Int32.ofNat cp)), .val (.int (Int32.ofNat (cp + cp))), .val (.int (Int32.ofNat cp)), .val (.ref b2)] [(.int (Int32.ofNat cp)), (.int (Int32.ofNat cp)), (.int (0 : Int32)), (.ref b2), (.int (Int32.ofNat cp)), (.ref a1)])) rfl (by rw [hml]; rfl) (argsL := [(.int (Int32.ofNat cp)), (.int (Int32.ofNat cp))]) (rest := [(.int (0 : Int32)), (.ref b2), (.int (Int32.ofNat cp)), (.ref a1)]) (lenOf pd_6 rfl) rfl (by show 2 * 0 + _ ≤ _; exact Nat.le_of_eq rfl) (hb hby d8_24) (fun _ _ => ⟨rfl, e2, (Nat.le_of_ble_eq_true rfl), (Nat.le_of_ble_eq_true rfl)⟩)
  dsimp only [Pt.U, Pt.locs, Pt.cells, Pt.slots] at X5 l5 y5 z5 st5 hQ5
  subst l5 y5 z5
  obtain ⟨z5, rfl, Nq5, he5, hz5⟩ := hQ5
  have N5 := Fr.app N1 Nq5
  have e5 : T5.heap = h2 := he5
  refine own_st (T' := T5) (g' := (mkF m 27 #[.val (.ref a1), .val (.int (Int32.ofNat cp)), .val (.int (Int32.ofNat (cp + cp))), .val (.int (Int32.ofNat cp)), .val (.ref b2)] [(.int z5), (.int (0 : Int32)), (.ref b2), (.int (Int32.ofNat cp)), (.ref a1)])) (fun t9 k9 => st5 t9 k9) ?_
  obtain rfl : z5 = (Int32.ofNat cp) := hz5.elim (fun q => q.2) (fun q => q.2)
  show own_Go p e below F T5 (mkF m 27 #[.val (.ref a1), .val (.int (Int32.ofNat cp)), .val (.int (Int32.ofNat (cp + cp))), .val (.int (Int32.ofNat cp)), .val (.ref b2)] [(.int (Int32.ofNat cp)), (.int (0 : Int32)), (.ref b2), (.int (Int32.ofNat cp)), (.ref a1)])
  have hpart := own_D.part hD cp cp (by omega)
  obtain ⟨T6, h6, Lc6, X6, e6, N6, Kq6, V6, st6⟩ := cpA X5 hx hZ hown (hw _ (List.mem_of_getElem? (i := 51) rfl)) (hw _ (List.mem_of_getElem? (i := 54) rfl)) (hw _ (List.mem_of_getElem? (i := 52) rfl)) (hw _ (List.mem_of_getElem? (i := 53) rfl)) e5 (sp := (Int32.ofNat cp)) (dp := (0 : Int32)) (nn := (Int32.ofNat cp)) (us := ((List.range cp).map fun i => vs.getD (cp + i) (.double 0))) V1_3 Vb (Or.inl ⟨rfl, rfl⟩) c2 (by decide) c2 (by rw [c1, d1]; omega) (by rw [c1]; show 0 + cp ≤ cp; omega) (by rw [c1]) (by rw [c1, List.length_replicate]; show 0 + cp ≤ cp; omega) N5 g_b2 (g := (mkF m 27 #[.val (.ref a1), .val (.int (Int32.ofNat cp)), .val (.int (Int32.ofNat (cp + cp))), .val (.int (Int32.ofNat cp)), .val (.ref b2)] [(.int (Int32.ofNat cp)), (.int (0 : Int32)), (.ref b2), (.int (Int32.ofNat cp)), (.ref a1)])) rfl (by rw [hml]; rfl) rfl (hb hby d8_27) (by decide) (W := 0) (by show 2 * 0 + _ ≤ _; exact Nat.le_of_eq rfl) (by decide)
  have V1_7 := V1_3.keep Kq6 (ninS ne_a1_b2 nin0)
  have K6 := K2.trans Kq6 (allS (Or.inr sz_b2) all0)
  have Z6 : n0 ≤ h6.size := Nat.le_trans Z2 Kq6.1
  refine own_st (T' := T6) (g' := (mkF m 30 #[.val (.ref a1), .val (.int (Int32.ofNat cp)), .val (.int (Int32.ofNat (cp + cp))), .val (.int (Int32.ofNat cp)), .val (.ref b2)] [])) (fun t9 k9 => st6 t9 k9) ?_
  refine own_st (T' := T6) (g' := (mkF m 32 #[.val (.ref a1), .val (.int (Int32.ofNat cp)), .val (.int (Int32.ofNat (cp + cp))), .val (.int (Int32.ofNat cp)), .val (.ref b2)] [(.ref b2)])) (fun t9 k9 => XS.aload X6.here hx rfl (hb hby d8_30) rfl rfl k9) ?_
  have hcopy := own_D.copy (own_D.rep cp) hpart 0 (by omega)
  rw [c1] at V6
  refine own_ret (v := some (.ref b2)) hF X6 (own_some hret) hlk (fun fs hr => own_retA X6 hx hret rfl rfl (hb hby d8_32) hr) ?_ (by decide) (by decide)
  try rw [e6]
  exact ⟨b2, k2, _, rfl, N6, K6, sz_b2, g_b2, V6, hcopy.congr fun j hj => by rw [if_pos ⟨Nat.zero_le _, by omega⟩, Nat.sub_zero]⟩
theorem d7_0 : decode jdk_65_method_144_code 0 = .ok (.iload_n 1, 1) := by decide +kernel
theorem d7_1 : decode jdk_65_method_144_code 1 = .ok (.ifCond .ne 9, 3) := by decide +kernel
theorem d7_4 : decode jdk_65_method_144_code 4 = .ok (.iload_n 2, 1) := by decide +kernel
theorem d7_5 : decode jdk_65_method_144_code 5 = .ok (.aload_n 0, 1) := by decide +kernel
theorem d7_6 : decode jdk_65_method_144_code 6 = .ok (.arraylength, 1) := by decide +kernel
theorem d7_7 : decode jdk_65_method_144_code 7 = .ok (.if_icmp .eq 10, 3) := by decide +kernel
theorem d7_10 : decode jdk_65_method_144_code 10 = .ok (.aload_n 0, 1) := by decide +kernel
theorem d7_11 : decode jdk_65_method_144_code 11 = .ok (.iload_n 1, 1) := by decide +kernel
theorem d7_12 : decode jdk_65_method_144_code 12 = .ok (.iload_n 2, 1) := by decide +kernel
theorem d7_13 : decode jdk_65_method_144_code 13 = .ok (.invokestatic 367, 3) := by decide +kernel
theorem d7_16 : decode jdk_65_method_144_code 16 = .ok (.areturn, 1) := by decide +kernel
theorem d7_17 : decode jdk_65_method_144_code 17 = .ok (.aload_n 0, 1) := by decide +kernel
theorem d7_18 : decode jdk_65_method_144_code 18 = .ok (.invokevirtual 328, 3) := by decide +kernel
theorem d7_21 : decode jdk_65_method_144_code 21 = .ok (.checkcast 329, 3) := by decide +kernel
theorem d7_24 : decode jdk_65_method_144_code 24 = .ok (.areturn, 1) := by decide +kernel
theorem pn_7 : plainFor (⟨"java/util/Arrays", "copyOfRange", "([DII)[D"⟩ : MethodName) = true := plainFor_of_name (by first | (simp [plainName, overriddenIn]; done) | decide +kernel)
set_option maxRecDepth 65536 in
set_option maxHeartbeats 40000000 in
theorem rm7 (l : Launch) (Z : State) (a0 : Array Value) (hw : ∀ d ∈ tables_1, d.before a0 Z = true) (a1 : Addr) (k1 : ClassId) (vs : List Value) (f : Nat → UInt64) (cp : Nat) (h0 : Heap) (n0 : Nat) (Z0 : n0 ≤ h0.size) (V1 : Arv Z h0 a1 k1 .double (Int32.ofNat (2 * cp)) vs (.double 0)) (hD : own_D vs (2 * cp) f) (hc0 : 1 ≤ cp) (hc : cp ≤ 2) :
    own_Met l Z (⟨"java/util/Arrays", "copyOfRange", "([DII)[D"⟩ : MethodName) jdk_65_method_144_code 3 (some (.array .double)) ({ frames := 2, cells := 1, slots := 2, locals := 76 } : Room) #[(.ref a1), (.int (Int32.ofNat cp)), (.int (Int32.ofNat (cp + cp)))] h0 (fun v h L => ∃ (b : Addr) (kb : ClassId) (vb : List Value), v = some (.ref b) ∧ Fr n0 L ∧ Keep h0 h [] ∧ h0.size ≤ b ∧ n0 ≤ b ∧ Arv Z h b kb .double (Int32.ofNat cp) vb (.double 0) ∧ own_D vb cp (fun i => f (cp + i))) := by
  refine own_body pn_7 ?_
  intro p e s m below meth c T0 hZ hx hby hml hown hnm hret hlk X0 e0 F hF
  have N0 := Fr.nil n0
  have K0 := Keep.refl h0 []
  refine own_cast (g' := (mkF m 0 #[.val (.ref a1), .val (.int (Int32.ofNat cp)), .val (.int (Int32.ofNat (cp + cp)))] [])) (by first | (simp [entryFrame, mkF, argsToLocals, Value.category]; done) | rfl) ?_
  refine own_st (T' := T0) (g' := (mkF m 1 #[.val (.ref a1), .val (.int (Int32.ofNat cp)), .val (.int (Int32.ofNat (cp + cp)))] [(.int (Int32.ofNat cp))])) (fun t9 k9 => XS.iloadN X0.here hx rfl (hb hby d7_0) rfl k9) ?_
  refine own_st (T' := T0) (g' := (mkF m 10 #[.val (.ref a1), .val (.int (Int32.ofNat cp)), .val (.int (Int32.ofNat (cp + cp)))] [])) (fun t9 k9 => XS.ifYes X0.here hx rfl (pc0 := 1) (pc' := 10) rfl (hb hby d7_1) rfl ((if0 _ _).trans (feq (fun q => by have := own_eq' (n := 0) q (by omega) (by omega); omega)).2) (by decide) (by decide) k9) ?_
  refine own_st (T' := T0) (g' := (mkF m 11 #[.val (.ref a1), .val (.int (Int32.ofNat cp)), .val (.int (Int32.ofNat (cp + cp)))] [(.ref a1)])) (fun t9 k9 => XS.aloadN X0.here hx rfl (hb hby d7_10) rfl rfl k9) ?_
  refine own_st (T' := T0) (g' := (mkF m 12 #[.val (.ref a1), .val (.int (Int32.ofNat cp)), .val (.int (Int32.ofNat (cp + cp)))] [(.int (Int32.ofNat cp)), (.ref a1)])) (fun t9 k9 => XS.iloadN X0.here hx rfl (hb hby d7_11) rfl k9) ?_
  refine own_st (T' := T0) (g' := (mkF m 13 #[.val (.ref a1), .val (.int (Int32.ofNat cp)), .val (.int (Int32.ofNat (cp + cp)))] [(.int (Int32.ofNat (cp + cp))), (.int (Int32.ofNat cp)), (.ref a1)])) (fun t9 k9 => XS.iloadN X0.here hx rfl (hb hby d7_12) rfl k9) ?_
  obtain ⟨_, _, ⟨T1, L1, k1, n1⟩, -, X1, ⟨Lc1, hQ1, l1, y1, z1⟩, st1⟩ := Jvm.LawKit.callS X0 hx (y := (⟨"java/util/Arrays", "copyOfRangeDouble", "([DII)[D"⟩ : MethodName)) hown (mvT hZ (hw _ (List.mem_of_getElem? (i := 41) rfl))) (mvT hZ (hw _ (List.mem_of_getElem? (i := 42) rfl))) (mvT hZ (hw _ (List.mem_of_getElem? (i := 39) rfl))) (mvT hZ (hw _ (List.mem_of_getElem? (i := 43) rfl))) (by decide) (own_back (W := 0) (rm8 l Z a0 hw a1 k1 vs f cp h0 n0 Z0 V1 hD hc0 hc) hZ (hw _ (List.mem_of_getElem? (i := 43) rfl)) (hw _ (List.mem_of_getElem? (i := 39) rfl)) (by decide) (by decide)) (g := (mkF m 13 #[.val (.ref a1), .val (.int (Int32.ofNat cp)), .val (.int (Int32.ofNat (cp + cp)))] [(.int (Int32.ofNat (cp + cp))), (.int (Int32.ofNat cp)), (.ref a1)])) rfl (by rw [hml]; rfl) (argsL := [(.ref a1), (.int (Int32.ofNat cp)), (.int (Int32.ofNat (cp + cp)))]) (rest := []) (lenOf pd_4 rfl) rfl (by show 2 * 0 + _ ≤ _; exact Nat.le_of_eq rfl) (hb hby d7_13) (fun _ _ => ⟨rfl, e0, (Nat.le_of_ble_eq_true rfl), (Nat.le_of_ble_eq_true rfl)⟩)
  dsimp only [Pt.U, Pt.locs, Pt.cells, Pt.slots] at X1 l1 y1 z1 st1 hQ1
  subst l1 y1 z1
  obtain ⟨b1, kb1, vb1, rfl, Nq1, Kq1, sz1, g_b1, Vq1, hv1⟩ := hQ1
  have N1 := Fr.app N0 Nq1
  obtain ⟨h1, e1⟩ : ∃ z, T1.heap = z := ⟨_, rfl⟩
  rw [e1] at Kq1 Vq1
  have V1_2 := V1.keep Kq1 nin0
  have K1 := K0.trans Kq1 all0
  have Z1 : n0 ≤ h1.size := Nat.le_trans Z0 Kq1.1
  refine own_st (T' := T1) (g' := (mkF m 16 #[.val (.ref a1), .val (.int (Int32.ofNat cp)), .val (.int (Int32.ofNat (cp + cp)))] [(.ref b1)])) (fun t9 k9 => st1 t9 k9) ?_
  refine own_ret (v := some (.ref b1)) hF X1 (own_some hret) hlk (fun fs hr => own_retA X1 hx hret rfl rfl (hb hby d7_16) hr) ?_ (by decide) (by decide)
  try rw [e1]
  exact ⟨b1, kb1, vb1, rfl, N1, K1, sz1, g_b1, Vq1, hv1⟩
theorem d11_0 : decode jdk_65_method_113_code 0 = .ok (.iconst 0, 1) := by decide +kernel
theorem d11_1 : decode jdk_65_method_113_code 1 = .ok (.istore_n 3, 1) := by decide +kernel
theorem d11_2 : decode jdk_65_method_113_code 2 = .ok (.aload_n 0, 1) := by decide +kernel
theorem d11_3 : decode jdk_65_method_113_code 3 = .ok (.arraylength, 1) := by decide +kernel
theorem d11_4 : decode jdk_65_method_113_code 4 = .ok (.istore 4, 2) := by decide +kernel
theorem d11_6 : decode jdk_65_method_113_code 6 = .ok (.iload_n 3, 1) := by decide +kernel
theorem d11_7 : decode jdk_65_method_113_code 7 = .ok (.iload 4, 2) := by decide +kernel
theorem d11_9 : decode jdk_65_method_113_code 9 = .ok (.if_icmp .ge 13, 3) := by decide +kernel
theorem d11_12 : decode jdk_65_method_113_code 12 = .ok (.aload_n 0, 1) := by decide +kernel
theorem d11_13 : decode jdk_65_method_113_code 13 = .ok (.iload_n 3, 1) := by decide +kernel
theorem d11_14 : decode jdk_65_method_113_code 14 = .ok (.dload_n 1, 1) := by decide +kernel
theorem d11_15 : decode jdk_65_method_113_code 15 = .ok (.dastore, 1) := by decide +kernel
theorem d11_16 : decode jdk_65_method_113_code 16 = .ok (.iinc 3 1, 3) := by decide +kernel
theorem d11_19 : decode jdk_65_method_113_code 19 = .ok (.goto (-13), 3) := by decide +kernel
theorem d11_22 : decode jdk_65_method_113_code 22 = .ok (.return_, 1) := by decide +kernel
theorem pn_11 : plainFor (⟨"java/util/Arrays", "fill", "([DD)V"⟩ : MethodName) = true := plainFor_of_name (by first | (simp [plainName, overriddenIn]; done) | decide +kernel)
set_option maxRecDepth 65536 in
set_option maxHeartbeats 40000000 in
theorem rm11 (l : Launch) (Z : State) (a0 : Array Value) (hw : ∀ d ∈ tables_1, d.before a0 Z = true) (a1 : Addr) (k1 : ClassId) (vs : List Value) (f : Nat → UInt64) (n : Nat) (d2 : UInt64) (h0 : Heap) (n0 : Nat) (Z0 : n0 ≤ h0.size) (V1 : Arv Z h0 a1 k1 .double (Int32.ofNat n) vs (.double 0)) (hD : own_D vs n f) (hn : n ≤ 16) (hd2 : own_NN d2) (g_a1 : n0 ≤ a1) :
    own_Met l Z (⟨"java/util/Arrays", "fill", "([DD)V"⟩ : MethodName) jdk_65_method_113_code 5 none ({ frames := 0, cells := 0, slots := 0, locals := 0 } : Room) #[(.ref a1), (.double d2)] h0 (fun v h L => ∃ vs', v = none ∧ Fr n0 L ∧ Keep h0 h [a1] ∧ Arv Z h a1 k1 .double (Int32.ofNat n) vs' (.double 0) ∧ own_D vs' n (fun _ => d2)) := by
  refine own_body pn_11 ?_
  intro p e s m below meth c T0 hZ hx hby hml hown hnm hret hlk X0 e0 F hF
  have N0 := Fr.nil n0
  have K0 := Keep.refl h0 [a1]
  refine own_cast (g' := (mkF m 0 #[.val (.ref a1), .val (.double d2), .second, .unset, .unset] [])) (by first | (simp [entryFrame, mkF, argsToLocals, Value.category]; done) | rfl) ?_
  refine own_st (T' := T0) (g' := (mkF m 1 #[.val (.ref a1), .val (.double d2), .second, .unset, .unset] [(.int (0 : Int32))])) (fun t9 k9 => XS.iconst X0.here hx rfl (hb hby d11_0) k9) ?_
  refine own_st (T' := T0) (g' := (mkF m 2 #[.val (.ref a1), .val (.double d2), .second, .val (.int (0 : Int32)), .unset] [])) (fun t9 k9 => XS.istoreN X0.here hx rfl (hb hby d11_1) rfl (l' := #[.val (.ref a1), .val (.double d2), .second, .val (.int (0 : Int32)), .unset]) rfl k9) ?_
  refine own_st (T' := T0) (g' := (mkF m 3 #[.val (.ref a1), .val (.double d2), .second, .val (.int (0 : Int32)), .unset] [(.ref a1)])) (fun t9 k9 => XS.aloadN X0.here hx rfl (hb hby d11_2) rfl rfl k9) ?_
  obtain ⟨clu1, Aru1, qu1, Su1, Nu1, Hu1, Gu1⟩ := (id V1)
  refine own_st (T' := T0) (g' := (mkF m 4 #[.val (.ref a1), .val (.double d2), .second, .val (.int (0 : Int32)), .unset] [(.int (Int32.ofNat n))])) (fun t9 k9 => X0.arraylength hx (by rw [e0]; exact Aru1.1) (State.isArrayOf_alike hZ.alike Aru1.2.1) (g := (mkF m 3 #[.val (.ref a1), .val (.double d2), .second, .val (.int (0 : Int32)), .unset] [(.ref a1)])) rfl rfl (hb hby d11_3) t9 (by rw [len_of Su1 Nu1]; exact k9)) ?_
  refine own_st (T' := T0) (g' := (mkF m 6 #[.val (.ref a1), .val (.double d2), .second, .val (.int (0 : Int32)), .val (.int (Int32.ofNat n))] [])) (fun t9 k9 => XS.istore X0.here hx rfl (hb hby d11_4) rfl (l' := #[.val (.ref a1), .val (.double d2), .second, .val (.int (0 : Int32)), .val (.int (Int32.ofNat n))]) rfl k9) ?_
  have lp : ∀ (k : Nat) (T2 : State) (L2 : List Loc) (h2 : Heap) (i : Nat) (vq : List Value), Stand p l e ({ frames := 0, cells := 0, slots := 0, locals := 0 } : Room) s m #[(.ref a1), (.double d2)] below meth c T2 L2 (0) (0) → T2.heap = h2 → Fr n0 L2 → (n0 ≤ h2.size) → (Keep h0 h2 [a1]) → (Arv Z h2 a1 k1 .double (Int32.ofNat n) vq (.double 0)) → (i + k = n) → (own_D vq n (fun j => if j < i then d2 else f j)) → own_Go p e below F T2 (mkF m 6 #[.val (.ref a1), .val (.double d2), .second, .val (.int (Int32.ofNat i)), .val (.int (Int32.ofNat n))] []) := by
    intro k
    induction k with
    | zero =>
      intro T2 L2 h2 i vq X2 e2 N2 Z2 K2 V9 hi hq
      obtain rfl : n = i := by omega
      show own_Go p e below F T2 (mkF m 6 #[.val (.ref a1), .val (.double d2), .second, .val (.int (Int32.ofNat n)), .val (.int (Int32.ofNat n))] [])
      refine own_st (T' := T2) (g' := (mkF m 7 #[.val (.ref a1), .val (.double d2), .second, .val (.int (Int32.ofNat n)), .val (.int (Int32.ofNat n))] [(.int (Int32.ofNat n))])) (fun t9 k9 => XS.iloadN X2.here hx rfl (hb hby d11_6) rfl k9) ?_
      refine own_st (T' := T2) (g' := (mkF m 9 #[.val (.ref a1), .val (.double d2), .second, .val (.int (Int32.ofNat n)), .val (.int (Int32.ofNat n))] [(.int (Int32.ofNat n)), (.int (Int32.ofNat n))])) (fun t9 k9 => XS.iload X2.here hx rfl (hb hby d11_7) rfl k9) ?_
      refine own_st (T' := T2) (g' := (mkF m 22 #[.val (.ref a1), .val (.double d2), .second, .val (.int (Int32.ofNat n)), .val (.int (Int32.ofNat n))] [])) (fun t9 k9 => XS.icmpYes X2.here hx rfl (pc0 := 9) (pc' := 22) rfl (hb hby d11_9) rfl (flt (Int32.lt_irrefl)).2.1 (by decide) (by decide) k9) ?_
      refine own_ret (v := none) hF X2 (fun _ => rfl) hlk (fun fs hr => X2.returnOut hx hret (hb hby d11_22) hr) ?_ (by decide) (by decide)
      try rw [e2]
      exact ⟨_, rfl, N2, K2, V9, hq.congr fun j hj => by rw [if_pos hj]⟩
    | succ k ih =>
      intro T2 L2 h2 i vq X2 e2 N2 Z2 K2 V9 hi hq
      obtain ⟨q1, q2⟩ := own_nat (i := i) (by omega)
      refine own_st (T' := T2) (g' := (mkF m 7 #[.val (.ref a1), .val (.double d2), .second, .val (.int (Int32.ofNat i)), .val (.int (Int32.ofNat n))] [(.int (Int32.ofNat i))])) (fun t9 k9 => XS.iloadN X2.here hx rfl (hb hby d11_6) rfl k9) ?_
      refine own_st (T' := T2) (g' := (mkF m 9 #[.val (.ref a1), .val (.double d2), .second, .val (.int (Int32.ofNat i)), .val (.int (Int32.ofNat n))] [(.int (Int32.ofNat n)), (.int (Int32.ofNat i))])) (fun t9 k9 => XS.iload X2.here hx rfl (hb hby d11_7) rfl k9) ?_
      refine own_st (T' := T2) (g' := (mkF m 12 #[.val (.ref a1), .val (.double d2), .second, .val (.int (Int32.ofNat i)), .val (.int (Int32.ofNat n))] [])) (fun t9 k9 => XS.icmpNo X2.here hx rfl (hb hby d11_9) rfl (tlt (own_lt (by omega) (by omega))).2.1 k9) ?_
      refine own_st (T' := T2) (g' := (mkF m 13 #[.val (.ref a1), .val (.double d2), .second, .val (.int (Int32.ofNat i)), .val (.int (Int32.ofNat n))] [(.ref a1)])) (fun t9 k9 => XS.aloadN X2.here hx rfl (hb hby d11_12) rfl rfl k9) ?_
      refine own_st (T' := T2) (g' := (mkF m 14 #[.val (.ref a1), .val (.double d2), .second, .val (.int (Int32.ofNat i)), .val (.int (Int32.ofNat n))] [(.int (Int32.ofNat i)), (.ref a1)])) (fun t9 k9 => XS.iloadN X2.here hx rfl (hb hby d11_13) rfl k9) ?_
      refine own_st (T' := T2) (g' := (mkF m 15 #[.val (.ref a1), .val (.double d2), .second, .val (.int (Int32.ofNat i)), .val (.int (Int32.ofNat n))] [(.double d2), (.int (Int32.ofNat i)), (.ref a1)])) (fun t9 k9 => XS.dloadN X2.here hx rfl (hb hby d11_14) rfl k9) ?_
      obtain ⟨clu3, Aru3, qu3, Su3, Nu3, Hu3, Gu3⟩ := (id V9)
      obtain ⟨T4, h4, X4, e4, W4, st4⟩ := stD X2 hx hZ e2 Aru3 (j := (Int32.ofNat i)) (inb_of Su3 ⟨q2, own_lt (by omega) (by omega)⟩) (g := (mkF m 15 #[.val (.ref a1), .val (.double d2), .second, .val (.int (Int32.ofNat i)), .val (.int (Int32.ofNat n))] [(.double d2), (.int (Int32.ofNat i)), (.ref a1)])) rfl rfl (hb hby d11_15)
      have Va4 := Arv.set Aru3 qu3 Su3 Nu3 Hu3 Gu3 rfl W4 i q1 (by rw [hq.1]; omega)
      have K4 := K2.wr W4 (Or.inl (by simp))
      have N4 := Fr.snoc X4 N2 g_a1
      have Z4 : n0 ≤ h4.size := by rw [W4.size]; exact Z2
      refine own_st (T' := T4) (g' := (mkF m 16 #[.val (.ref a1), .val (.double d2), .second, .val (.int (Int32.ofNat i)), .val (.int (Int32.ofNat n))] [])) (fun t9 k9 => st4 t9 k9) ?_
      refine own_st (T' := T4) (g' := (mkF m 19 #[.val (.ref a1), .val (.double d2), .second, .val (.int ((Int32.ofNat i) + (1 : Int32))), .val (.int (Int32.ofNat n))] [])) (fun t9 k9 => XS.iinc X4.here hx rfl (hb hby d11_16) rfl (l' := #[.val (.ref a1), .val (.double d2), .second, .val (.int ((Int32.ofNat i) + (1 : Int32))), .val (.int (Int32.ofNat n))]) rfl k9) ?_
      rw [own_one i]
      refine own_st (T' := T4) (g' := (mkF m 6 #[.val (.ref a1), .val (.double d2), .second, .val (.int (Int32.ofNat (i + 1))), .val (.int (Int32.ofNat n))] [])) (fun t9 k9 => XS.goto X4.here hx rfl (pc0 := 19) (pc' := 6) rfl (hb hby d11_19) (by decide) (by decide) k9) ?_
      exact ih _ _ _ (i + 1) _ X4 e4 N4 Z4 K4 Va4 (by omega) ((hq.set i d2 (by omega) hd2).congr fun j hj => by
            by_cases a : j = i
            · rw [if_pos a, if_pos (by omega)]
            · rw [if_neg a]
              by_cases b : j < i
              · rw [if_pos b, if_pos (by omega)]
              · rw [if_neg b, if_neg (by omega)])
  exact lp n _ _ _ 0 _ X0 e0 N0 Z0 K0 V1 (Nat.zero_add n) (hD.congr fun j _ => by rw [if_neg (Nat.not_lt_zero j)])
theorem d1_0 : decode prog_77_method_1_code 0 = .ok (.aload_n 0, 1) := by decide +kernel
theorem d1_1 : decode prog_77_method_1_code 1 = .ok (.invokespecial 1, 3) := by decide +kernel
theorem d1_4 : decode prog_77_method_1_code 4 = .ok (.aload_n 0, 1) := by decide +kernel
theorem d1_5 : decode prog_77_method_1_code 5 = .ok (.iconst 2, 1) := by decide +kernel
theorem d1_6 : decode prog_77_method_1_code 6 = .ok (.newarray .double, 2) := by decide +kernel
theorem d1_8 : decode prog_77_method_1_code 8 = .ok (.dup, 1) := by decide +kernel
theorem d1_9 : decode prog_77_method_1_code 9 = .ok (.iconst 0, 1) := by decide +kernel
theorem d1_10 : decode prog_77_method_1_code 10 = .ok (.ldc2_w 9, 3) := by decide +kernel
theorem d1_13 : decode prog_77_method_1_code 13 = .ok (.dastore, 1) := by decide +kernel
theorem d1_14 : decode prog_77_method_1_code 14 = .ok (.dup, 1) := by decide +kernel
theorem d1_15 : decode prog_77_method_1_code 15 = .ok (.iconst 1, 1) := by decide +kernel
theorem d1_16 : decode prog_77_method_1_code 16 = .ok (.ldc2_w 9, 3) := by decide +kernel
theorem d1_19 : decode prog_77_method_1_code 19 = .ok (.dastore, 1) := by decide +kernel
theorem d1_20 : decode prog_77_method_1_code 20 = .ok (.putfield 11, 3) := by decide +kernel
theorem d1_23 : decode prog_77_method_1_code 23 = .ok (.aload_n 0, 1) := by decide +kernel
theorem d1_24 : decode prog_77_method_1_code 24 = .ok (.iconst 1, 1) := by decide +kernel
theorem d1_25 : decode prog_77_method_1_code 25 = .ok (.putfield 17, 3) := by decide +kernel
theorem d1_28 : decode prog_77_method_1_code 28 = .ok (.return_, 1) := by decide +kernel
theorem pn_1 : plainFor (⟨"com/example/shelfwright/shelfwright/packers/FirstFit", "<init>", "()V"⟩ : MethodName) = true := plainFor_of_name (by first | (simp [plainName, overriddenIn]; done) | decide +kernel)
set_option maxRecDepth 65536 in
set_option maxHeartbeats 40000000 in
theorem rm1 (l : Launch) (Z : State) (a0 : Array Value) (hw : ∀ d ∈ tables_1, d.before a0 Z = true) (a1 : Addr) (u1 u2 : Value) (h0 : Heap) (n0 : Nat) (Z0 : n0 ≤ h0.size) (E1 : Exa Z h0 a1 "com/example/shelfwright/shelfwright/packers/FirstFit") (U1 : Fld Z h0 a1 "com/example/shelfwright/shelfwright/packers/FirstFit" "largestKey" "[D" u1) (U2 : Fld Z h0 a1 "com/example/shelfwright/shelfwright/packers/FirstFit" "capacity" "I" u2) (U3 : Fld Z h0 a1 "com/example/shelfwright/shelfwright/packers/FirstFit" "count" "I" (.int (0 : Int32))) (g_a1 : n0 ≤ a1) :
    own_Met l Z (⟨"com/example/shelfwright/shelfwright/packers/FirstFit", "<init>", "()V"⟩ : MethodName) prog_77_method_1_code 1 none ({ frames := 1, cells := 1, slots := 2, locals := 12 } : Room) #[(.ref a1)] h0 (fun v h L => ∃ (d : Addr) (kd : ClassId) (vs : List Value), v = none ∧ Fr n0 L ∧ Keep h0 h [a1] ∧ h0.size ≤ d ∧ n0 ≤ d ∧ Exa Z h a1 "com/example/shelfwright/shelfwright/packers/FirstFit" ∧ Fld Z h a1 "com/example/shelfwright/shelfwright/packers/FirstFit" "largestKey" "[D" (.ref d) ∧ Fld Z h a1 "com/example/shelfwright/shelfwright/packers/FirstFit" "capacity" "I" (.int (Int32.ofNat 1)) ∧ Fld Z h a1 "com/example/shelfwright/shelfwright/packers/FirstFit" "count" "I" (.int (Int32.ofNat 0)) ∧ Arv Z h d kd .double (Int32.ofNat (2 * 1)) vs (.double 0) ∧ own_D vs (2 * 1) (fun _ => (18442240474082181120 : UInt64))) := by
  refine own_body pn_1 ?_
  intro p e s m below meth c T0 hZ hx hby hml hown hnm hret hlk X0 e0 F hF
  have N0 := Fr.nil n0
  have K0 := Keep.refl h0 [a1]
  refine own_cast (g' := (mkF m 0 #[.val (.ref a1)] [])) (by first | (simp [entryFrame, mkF, argsToLocals, Value.category]; done) | rfl) ?_
  refine own_st (T' := T0) (g' := (mkF m 1 #[.val (.ref a1)] [(.ref a1)])) (fun t9 k9 => XS.aloadN X0.here hx rfl (hb hby d1_0) rfl rfl k9) ?_
  obtain ⟨T1, X1, e1, st1⟩ := initO X0 hx hZ hown (hw _ (List.mem_of_getElem? (i := 7) rfl)) (hw _ (List.mem_of_getElem? (i := 8) rfl)) (hw _ (List.mem_of_getElem? (i := 9) rfl)) e0 (g := (mkF m 1 #[.val (.ref a1)] [(.ref a1)])) rfl (by rw [hml]; rfl) rfl (hb hby d1_1) (by decide) (W := 0) (by show 2 * 0 + _ ≤ _; exact Nat.le_of_eq rfl) (by decide)
  refine own_st (T' := T1) (g' := (mkF m 4 #[.val (.ref a1)] [])) (fun t9 k9 => st1 t9 k9) ?_
  refine own_st (T' := T1) (g' := (mkF m 5 #[.val (.ref a1)] [(.ref a1)])) (fun t9 k9 => XS.aloadN X1.here hx rfl (hb hby d1_4) rfl rfl k9) ?_
  refine own_st (T' := T1) (g' := (mkF m 6 #[.val (.ref a1)] [(.int (2 : Int32)), (.ref a1)])) (fun t9 k9 => XS.iconst X1.here hx rfl (hb hby d1_5) k9) ?_
  obtain ⟨T2, h2, k2, X2, e2, Ex2, A2, st2⟩ := newP X1 hx hZ (hw _ (List.mem_of_getElem? (i := 0) rfl)) e1 (g := (mkF m 6 #[.val (.ref a1)] [(.int (2 : Int32)), (.ref a1)])) rfl (hb hby d1_6) rfl (by decide) (cap := 2) (by decide) (by decide) (by decide) (by decide)
  obtain ⟨b2, gb2⟩ : ∃ z, z = h0.size := ⟨_, rfl⟩
  have ne_a1_b2 : a1 ≠ b2 := own_ne gb2 E1.lt
  have g_b2 : n0 ≤ b2 := gb2 ▸ Z0
  have sz_b2 : h0.size ≤ b2 := gb2 ▸ K0.1
  rw [← gb2] at A2 st2
  have E1_3 := E1.ext Ex2
  have U1_4 := U1.ext Ex2
  have U2_5 := U2.ext Ex2
  have U3_6 := U3.ext Ex2
  have K2 := K0.ext Ex2
  have Z2 : n0 ≤ h2.size := Nat.le_trans Z0 Ex2.1
  have V_b2 : Arv Z h2 b2 k2 .double (2 : Int32) [(.double 0), (.double 0)] (.double 0) := (Arv.new A2 (by decide)).pad (pad_rep [] (.double 0) 2)
  refine own_st (T' := T2) (g' := (mkF m 8 #[.val (.ref a1)] [(.ref b2), (.ref a1)])) (fun t9 k9 => st2 t9 k9) ?_
  refine own_st (T' := T2) (g' := (mkF m 9 #[.val (.ref a1)] [(.ref b2), (.ref b2), (.ref a1)])) (fun t9 k9 => XS.dup X2.here hx rfl (hb hby d1_8) rfl rfl k9) ?_
  refine own_st (T' := T2) (g' := (mkF m 10 #[.val (.ref a1)] [(.int (0 : Int32)), (.ref b2), (.ref b2), (.ref a1)])) (fun t9 k9 => XS.iconst X2.here hx rfl (hb hby d1_9) k9) ?_
  refine own_st (T' := T2) (g' := (mkF m 13 #[.val (.ref a1)] [(.double (18442240474082181120 : UInt64)), (.int (0 : Int32)), (.ref b2), (.ref b2), (.ref a1)])) (fun t9 k9 => X2.ldc2DoubleC hx hown (mvT hZ (hw _ (List.mem_of_getElem? (i := 10) rfl))) (g := (mkF m 10 #[.val (.ref a1)] [(.int (0 : Int32)), (.ref b2), (.ref b2), (.ref a1)])) rfl (hb hby d1_10) t9 k9) ?_
  obtain ⟨clu7, Aru7, qu7, Su7, Nu7, Hu7, Gu7⟩ := (id V_b2)
  obtain ⟨T8, h8, X8, e8, W8, st8⟩ := stD X2 hx hZ e2 Aru7 (j := (0 : Int32)) (inb_of Su7 ⟨by decide, by decide⟩) (g := (mkF m 13 #[.val (.ref a1)] [(.double (18442240474082181120 : UInt64)), (.int (0 : Int32)), (.ref b2), (.ref b2), (.ref a1)])) rfl rfl (hb hby d1_13)
  have Va8 := Arv.set Aru7 qu7 Su7 Nu7 Hu7 Gu7 rfl W8 0 rfl (by first | (simp; done) | exact Nat.le_of_ble_eq_true rfl)
  have E1_9 := E1_3.wr W8
  have U1_10 := U1_4.other W8 (Or.inl ne_a1_b2)
  have U2_11 := U2_5.other W8 (Or.inl ne_a1_b2)
  have U3_12 := U3_6.other W8 (Or.inl ne_a1_b2)
  have K8 := K2.wr W8 (Or.inr sz_b2)
  have N8 := Fr.snoc X8 N0 g_b2
  have Z8 : n0 ≤ h8.size := by rw [W8.size]; exact Z2
  refine own_st (T' := T8) (g' := (mkF m 14 #[.val (.ref a1)] [(.ref b2), (.ref a1)])) (fun t9 k9 => st8 t9 k9) ?_
  refine own_st (T' := T8) (g' := (mkF m 15 #[.val (.ref a1)] [(.ref b2), (.ref b2), (.ref a1)])) (fun t9 k9 => XS.dup X8.here hx rfl (hb hby d1_14) rfl rfl k9) ?_
  refine own_st (T' := T8) (g' := (mkF m 16 #[.val (.ref a1)] [(.int (1 : Int32)), (.ref b2), (.ref b2), (.ref a1)])) (fun t9 k9 => XS.iconst X8.here hx rfl (hb hby d1_15) k9) ?_
  refine own_st (T' := T8) (g' := (mkF m 19 #[.val (.ref a1)] [(.double (18442240474082181120 : UInt64)), (.int (1 : Int32)), (.ref b2), (.ref b2), (.ref a1)])) (fun t9 k9 => X8.ldc2DoubleC hx hown (mvT hZ (hw _ (List.mem_of_getElem? (i := 10) rfl))) (g := (mkF m 16 #[.val (.ref a1)] [(.int (1 : Int32)), (.ref b2), (.ref b2), (.ref a1)])) rfl (hb hby d1_16) t9 k9) ?_
  obtain ⟨clu13, Aru13, qu13, Su13, Nu13, Hu13, Gu13⟩ := (id Va8)
  obtain ⟨T14, h14, X14, e14, W14, st14⟩ := stD X8 hx hZ e8 Aru13 (j := (1 : Int32)) (inb_of Su13 ⟨by decide, by decide⟩) (g := (mkF m 19 #[.val (.ref a1)] [(.double (18442240474082181120 : UInt64)), (.int (1 : Int32)), (.ref b2), (.ref b2), (.ref a1)])) rfl rfl (hb hby d1_19)
  have Va14 := Arv.set Aru13 qu13 Su13 Nu13 Hu13 Gu13 rfl W14 1 rfl (by first | (simp; done) | exact Nat.le_of_ble_eq_true rfl)
  have E1_15 := E1_9.wr W14
  have U1_16 := U1_10.other W14 (Or.inl ne_a1_b2)
  have U2_17 := U2_11.other W14 (Or.inl ne_a1_b2)
  have U3_18 := U3_12.other W14 (Or.inl ne_a1_b2)
  have K14 := K8.wr W14 (Or.inr sz_b2)
  have N14 := Fr.snoc X14 N8 g_b2
  have Z14 : n0 ≤ h14.size := by rw [W14.size]; exact Z8
  refine own_st (T' := T14) (g' := (mkF m 20 #[.val (.ref a1)] [(.ref b2), (.ref a1)])) (fun t9 k9 => st14 t9 k9) ?_
  obtain ⟨T19, h19, X19, e19, W19, st19⟩ := putF X14 hx hZ hown (host := "") (Or.inl (hw _ (List.mem_of_getElem? (i := 11) rfl))) Via.refl e14 U1_16 E1_15 (Or.inl (hw _ (List.mem_of_getElem? (i := 12) rfl))) (hw _ (List.mem_of_getElem? (i := 2) rfl)) (ty := (.array .double)) (by decide) rfl rfl (g := (mkF m 20 #[.val (.ref a1)] [(.ref b2), (.ref a1)])) rfl rfl (hb hby d1_20)
  have Fw19 := U1_16.same W19
  have E1_20 := E1_15.wr W19
  have U2_21 := U2_17.other W19 (Or.inr (slot_ne (Or.inl (hw _ (List.mem_of_getElem? (i := 14) rfl))) (Or.inl (hw _ (List.mem_of_getElem? (i := 12) rfl))) (by decide) (t := .int) (t' := (.array .double)) (by decide) (by decide)))
  have U3_22 := U3_18.other W19 (Or.inr (slot_ne (Or.inl (hw _ (List.mem_of_getElem? (i := 21) rfl))) (Or.inl (hw _ (List.mem_of_getElem? (i := 12) rfl))) (by decide) (t := .int) (t' := (.array .double)) (by decide) (by decide)))
  have Va14_23 := Va14.other W19 (Ne.symm ne_a1_b2)
  have K19 := K14.wr W19 (Or.inl (by simp))
  have N19 := Fr.snoc X19 N14 g_a1
  have Z19 : n0 ≤ h19.size := by rw [W19.size]; exact Z14
  refine own_st (T' := T19) (g' := (mkF m 23 #[.val (.ref a1)] [])) (fun t9 k9 => st19 t9 k9) ?_
  refine own_st (T' := T19) (g' := (mkF m 24 #[.val (.ref a1)] [(.ref a1)])) (fun t9 k9 => XS.aloadN X19.here hx rfl (hb hby d1_23) rfl rfl k9) ?_
  refine own_st (T' := T19) (g' := (mkF m 25 #[.val (.ref a1)] [(.int (1 : Int32)), (.ref a1)])) (fun t9 k9 => XS.iconst X19.here hx rfl (hb hby d1_24) k9) ?_
  obtain ⟨T24, h24, X24, e24, W24, st24⟩ := putF X19 hx hZ hown (host := "") (Or.inl (hw _ (List.mem_of_getElem? (i := 13) rfl))) Via.refl e19 U2_21 E1_20 (Or.inl (hw _ (List.mem_of_getElem? (i := 14) rfl))) (hw _ (List.mem_of_getElem? (i := 2) rfl)) (ty := .int) (by decide) rfl rfl (g := (mkF m 25 #[.val (.ref a1)] [(.int (1 : Int32)), (.ref a1)])) rfl rfl (hb hby d1_25)
  have Fw24 := U2_21.same W24
  have E1_25 := E1_20.wr W24
  have Fw19_26 := Fw19.other W24 (Or.inr (slot_ne (Or.inl (hw _ (List.mem_of_getElem? (i := 12) rfl))) (Or.inl (hw _ (List.mem_of_getElem? (i := 14) rfl))) (by decide) (t := (.array .double)) (t' := .int) (by decide) (by decide)))
  have U3_27 := U3_22.other W24 (Or.inr (slot_ne (Or.inl (hw _ (List.mem_of_getElem? (i := 21) rfl))) (Or.inl (hw _ (List.mem_of_getElem? (i := 14) rfl))) (by decide) (t := .int) (t' := .int) (by decide) (by decide)))
  have Va14_28 := Va14_23.other W24 (Ne.symm ne_a1_b2)
  have K24 := K19.wr W24 (Or.inl (by simp))
  have N24 := Fr.snoc X24 N19 g_a1
  have Z24 : n0 ≤ h24.size := by rw [W24.size]; exact Z19
  refine own_st (T' := T24) (g' := (mkF m 28 #[.val (.ref a1)] [])) (fun t9 k9 => st24 t9 k9) ?_
  refine own_ret (v := none) hF X24 (fun _ => rfl) hlk (fun fs hr => X24.returnOut hx hret (hb hby d1_28) hr) ?_ (by decide) (by decide)
  try rw [e24]
  exact ⟨b2, k2, _, rfl, N24, K24, sz_b2, g_b2, E1_25, Fw19_26, Fw24, U3_27, Va14_28, ⟨rfl, fun j hj => by
      match j, hj with
      | 0, _ => exact ⟨rfl, own_ninf⟩
      | 1, _ => exact ⟨rfl, own_ninf⟩⟩⟩
theorem d5_0 : decode prog_77_method_3_code 0 = .ok (.aload_n 0, 1) := by decide +kernel
theorem d5_1 : decode prog_77_method_3_code 1 = .ok (.getfield 11, 3) := by decide +kernel
theorem d5_4 : decode prog_77_method_3_code 4 = .ok (.aload_n 0, 1) := by decide +kernel
theorem d5_5 : decode prog_77_method_3_code 5 = .ok (.getfield 17, 3) := by decide +kernel
theorem d5_8 : decode prog_77_method_3_code 8 = .ok (.iload_n 1, 1) := by decide +kernel
theorem d5_9 : decode prog_77_method_3_code 9 = .ok (.iadd, 1) := by decide +kernel
theorem d5_10 : decode prog_77_method_3_code 10 = .ok (.daload, 1) := by decide +kernel
theorem d5_11 : decode prog_77_method_3_code 11 = .ok (.dreturn, 1) := by decide +kernel
theorem pn_5 : plainFor (⟨"com/example/shelfwright/shelfwright/packers/FirstFit", "key", "(I)D"⟩ : MethodName) = true := plainFor_of_name (by first | (simp [plainName, overriddenIn]; done) | decide +kernel)
set_option maxRecDepth 65536 in
set_option maxHeartbeats 40000000 in
theorem rm5 (l : Launch) (Z : State) (a0 : Array Value) (hw : ∀ d ∈ tables_1, d.before a0 Z = true) (a1 d1 : Addr) (k1 : ClassId) (vs : List Value) (f : Nat → UInt64) (cp i : Nat) (h0 : Heap) (n0 : Nat) (Z0 : n0 ≤ h0.size) (F1 : Fld Z h0 a1 "com/example/shelfwright/shelfwright/packers/FirstFit" "largestKey" "[D" (.ref d1)) (F2 : Fld Z h0 a1 "com/example/shelfwright/shelfwright/packers/FirstFit" "capacity" "I" (.int (Int32.ofNat cp))) (V1 : Arv Z h0 d1 k1 .double (Int32.ofNat (2 * cp)) vs (.double 0)) (hD : own_D vs (2 * cp) f) (hc : cp ≤ 4) (hi : i < cp) :
    own_Met l Z (⟨"com/example/shelfwright/shelfwright/packers/FirstFit", "key", "(I)D"⟩ : MethodName) prog_77_method_3_code 2 (some .double) ({ frames := 0, cells := 0, slots := 0, locals := 0 } : Room) #[(.ref a1), (.int (Int32.ofNat i))] h0 (fun v h L => v = some (.double (f (cp + i))) ∧ Fr n0 L ∧ h = h0) := by
  refine own_body pn_5 ?_
  intro p e s m below meth c T0 hZ hx hby hml hown hnm hret hlk X0 e0 F hF
  have N0 := Fr.nil n0
  have K0 := Keep.refl h0 []
  refine own_cast (g' := (mkF m 0 #[.val (.ref a1), .val (.int (Int32.ofNat i))] [])) (by first | (simp [entryFrame, mkF, argsToLocals, Value.category]; done) | rfl) ?_
  obtain ⟨q1, q2⟩ := own_nat (i := cp + i) (by omega)
  refine own_st (T' := T0) (g' := (mkF m 1 #[.val (.ref a1), .val (.int (Int32.ofNat i))] [(.ref a1)])) (fun t9 k9 => XS.aloadN X0.here hx rfl (hb hby d5_0) rfl rfl k9) ?_
  obtain ⟨T1, X1, e1, st1⟩ := getF X0 hx hZ hown (host := "") (Or.inl (hw _ (List.mem_of_getElem? (i := 11) rfl))) Via.refl e0 F1 (g := (mkF m 1 #[.val (.ref a1), .val (.int (Int32.ofNat i))] [(.ref a1)])) rfl rfl (hb hby d5_1)
  refine own_st (T' := T1) (g' := (mkF m 4 #[.val (.ref a1), .val (.int (Int32.ofNat i))] [(.ref d1)])) (fun t9 k9 => st1 t9 k9) ?_
  refine own_st (T' := T1) (g' := (mkF m 5 #[.val (.ref a1), .val (.int (Int32.ofNat i))] [(.ref a1), (.ref d1)])) (fun t9 k9 => XS.aloadN X1.here hx rfl (hb hby d5_4) rfl rfl k9) ?_
  obtain ⟨T2, X2, e2, st2⟩ := getF X1 hx hZ hown (host := "") (Or.inl (hw _ (List.mem_of_getElem? (i := 13) rfl))) Via.refl e1 F2 (g := (mkF m 5 #[.val (.ref a1), .val (.int (Int32.ofNat i))] [(.ref a1), (.ref d1)])) rfl rfl (hb hby d5_5)
  refine own_st (T' := T2) (g' := (mkF m 8 #[.val (.ref a1), .val (.int (Int32.ofNat i))] [(.int (Int32.ofNat cp)), (.ref d1)])) (fun t9 k9 => st2 t9 k9) ?_
  refine own_st (T' := T2) (g' := (mkF m 9 #[.val (.ref a1), .val (.int (Int32.ofNat i))] [(.int (Int32.ofNat i)), (.int (Int32.ofNat cp)), (.ref d1)])) (fun t9 k9 => XS.iloadN X2.here hx rfl (hb hby d5_8) rfl k9) ?_
  refine own_st (T' := T2) (g' := (mkF m 10 #[.val (.ref a1), .val (.int (Int32.ofNat i))] [(.int ((Int32.ofNat cp) + (Int32.ofNat i))), (.ref d1)])) (fun t9 k9 => XS.iadd X2.here hx rfl (hb hby d5_9) rfl k9) ?_
  rw [own_add]
  obtain ⟨clu3, Aru3, qu3, Su3, Nu3, Hu3, Gu3⟩ := (id V1)
  have hinu3 := inb_of Su3 (j := (Int32.ofNat (cp + i))) ⟨q2, own_lt (by omega) (by omega)⟩
  refine own_st (T' := T2) (g' := (mkF m 11 #[.val (.ref a1), .val (.int (Int32.ofNat i))] [(.double (f (cp + i)))])) (fun t9 k9 => X2.daload hx (j := (Int32.ofNat (cp + i))) (v := (.double (f (cp + i)))) (by rw [e2]; exact Aru3.1) (State.isArrayOf_alike hZ.alike Aru3.2.1) Aru3.2.2 hinu3 (Hu3.at hinu3 (by rw [q1]; exact (hD.2 _ (by omega)).1)) (g := (mkF m 10 #[.val (.ref a1), .val (.int (Int32.ofNat i))] [(.int (Int32.ofNat (cp + i))), (.ref d1)])) rfl rfl (hb hby d5_10) t9 k9) ?_
  refine own_ret (v := some (.double (f (cp + i)))) hF X2 (own_some hret) hlk (fun fs hr => own_retD X2 hx hret (hb hby d5_11) hr) ?_ (by decide) (by decide)
  try rw [e2]
  exact ⟨rfl, N0, rfl⟩
theorem d4_0 : decode prog_77_method_4_code 0 = .ok (.aload_n 0, 1) := by decide +kernel
theorem d4_1 : decode prog_77_method_4_code 1 = .ok (.getfield 17, 3) := by decide +kernel
theorem d4_4 : decode prog_77_method_4_code 4 = .ok (.iload_n 1, 1) := by decide +kernel
theorem d4_5 : decode prog_77_method_4_code 5 = .ok (.iadd, 1) := by decide +kernel
theorem d4_6 : decode prog_77_method_4_code 6 = .ok (.istore 4, 2) := by decide +kernel
theorem d4_8 : decode prog_77_method_4_code 8 = .ok (.aload_n 0, 1) := by decide +kernel
theorem d4_9 : decode prog_77_method_4_code 9 = .ok (.getfield 11, 3) := by decide +kernel
theorem d4_12 : decode prog_77_method_4_code 12 = .ok (.iload 4, 2) := by decide +kernel
theorem d4_14 : decode prog_77_method_4_code 14 = .ok (.dload_n 2, 1) := by decide +kernel
theorem d4_15 : decode prog_77_method_4_code 15 = .ok (.dastore, 1) := by decide +kernel
theorem d4_16 : decode prog_77_method_4_code 16 = .ok (.iload 4, 2) := by decide +kernel
theorem d4_18 : decode prog_77_method_4_code 18 = .ok (.iconst 2, 1) := by decide +kernel
theorem d4_19 : decode prog_77_method_4_code 19 = .ok (.idiv, 1) := by decide +kernel
theorem d4_20 : decode prog_77_method_4_code 20 = .ok (.istore 4, 2) := by decide +kernel
theorem d4_22 : decode prog_77_method_4_code 22 = .ok (.iload 4, 2) := by decide +kernel
theorem d4_24 : decode prog_77_method_4_code 24 = .ok (.ifCond .le 42, 3) := by decide +kernel
theorem d4_27 : decode prog_77_method_4_code 27 = .ok (.aload_n 0, 1) := by decide +kernel
theorem d4_28 : decode prog_77_method_4_code 28 = .ok (.getfield 11, 3) := by decide +kernel
theorem d4_31 : decode prog_77_method_4_code 31 = .ok (.iload 4, 2) := by decide +kernel
theorem d4_33 : decode prog_77_method_4_code 33 = .ok (.aload_n 0, 1) := by decide +kernel
theorem d4_34 : decode prog_77_method_4_code 34 = .ok (.getfield 11, 3) := by decide +kernel
theorem d4_37 : decode prog_77_method_4_code 37 = .ok (.iconst 2, 1) := by decide +kernel
theorem d4_38 : decode prog_77_method_4_code 38 = .ok (.iload 4, 2) := by decide +kernel
theorem d4_40 : decode prog_77_method_4_code 40 = .ok (.imul, 1) := by decide +kernel
theorem d4_41 : decode prog_77_method_4_code 41 = .ok (.daload, 1) := by decide +kernel
theorem d4_42 : decode prog_77_method_4_code 42 = .ok (.aload_n 0, 1) := by decide +kernel
theorem d4_43 : decode prog_77_method_4_code 43 = .ok (.getfield 11, 3) := by decide +kernel
theorem d4_46 : decode prog_77_method_4_code 46 = .ok (.iconst 2, 1) := by decide +kernel
theorem d4_47 : decode prog_77_method_4_code 47 = .ok (.iload 4, 2) := by decide +kernel
theorem d4_49 : decode prog_77_method_4_code 49 = .ok (.imul, 1) := by decide +kernel
theorem d4_50 : decode prog_77_method_4_code 50 = .ok (.iconst 1, 1) := by decide +kernel
theorem d4_51 : decode prog_77_method_4_code 51 = .ok (.iadd, 1) := by decide +kernel
theorem d4_52 : decode prog_77_method_4_code 52 = .ok (.daload, 1) := by decide +kernel
theorem d4_53 : decode prog_77_method_4_code 53 = .ok (.invokestatic 31, 3) := by decide +kernel
theorem d4_56 : decode prog_77_method_4_code 56 = .ok (.dastore, 1) := by decide +kernel
theorem d4_57 : decode prog_77_method_4_code 57 = .ok (.iload 4, 2) := by decide +kernel
theorem d4_59 : decode prog_77_method_4_code 59 = .ok (.iconst 2, 1) := by decide +kernel
theorem d4_60 : decode prog_77_method_4_code 60 = .ok (.idiv, 1) := by decide +kernel
theorem d4_61 : decode prog_77_method_4_code 61 = .ok (.istore 4, 2) := by decide +kernel
theorem d4_63 : decode prog_77_method_4_code 63 = .ok (.goto (-41), 3) := by decide +kernel
theorem d4_66 : decode prog_77_method_4_code 66 = .ok (.return_, 1) := by decide +kernel
theorem pn_4 : plainFor (⟨"com/example/shelfwright/shelfwright/packers/FirstFit", "set", "(ID)V"⟩ : MethodName) = true := plainFor_of_name (by first | (simp [plainName, overriddenIn]; done) | decide +kernel)
set_option maxRecDepth 65536 in
set_option maxHeartbeats 40000000 in
theorem rm4 (l : Launch) (Z : State) (a0 : Array Value) (hw : ∀ d ∈ tables_1, d.before a0 Z = true) (a1 d1 : Addr) (k1 : ClassId) (vs : List Value) (f : Nat → UInt64) (cp pl : Nat) (d2 : UInt64) (h0 : Heap) (n0 : Nat) (Z0 : n0 ≤ h0.size) (F1 : Fld Z h0 a1 "com/example/shelfwright/shelfwright/packers/FirstFit" "largestKey" "[D" (.ref d1)) (F2 : Fld Z h0 a1 "com/example/shelfwright/shelfwright/packers/FirstFit" "capacity" "I" (.int (Int32.ofNat cp))) (V1 : Arv Z h0 d1 k1 .double (Int32.ofNat (2 * cp)) vs (.double 0)) (hD : own_D vs (2 * cp) f) (hc : cp ≤ 4) (hpl : pl < cp) (hd2 : own_NN d2) (hne : a1 ≠ d1) (g_d1 : n0 ≤ d1) :
    own_Met l Z (⟨"com/example/shelfwright/shelfwright/packers/FirstFit", "set", "(ID)V"⟩ : MethodName) prog_77_method_4_code 5 none ({ frames := 1, cells := 0, slots := 0, locals := 40 } : Room) #[(.ref a1), (.int (Int32.ofNat pl)), (.double d2)] h0 (fun v h L => ∃ (vs' : List Value) (fq : Nat → UInt64), v = none ∧ Fr n0 L ∧ Keep h0 h [d1] ∧ Arv Z h d1 k1 .double (Int32.ofNat (2 * cp)) vs' (.double 0) ∧ own_D vs' (2 * cp) fq ∧ (∀ i, i < cp → fq (cp + i) = if i = pl then d2 else f (cp + i))) := by
  refine own_body pn_4 ?_
  intro p e s m below meth c T0 hZ hx hby hml hown hnm hret hlk X0 e0 F hF
  have N0 := Fr.nil n0
  have K0 := Keep.refl h0 [d1]
  refine own_cast (g' := (mkF m 0 #[.val (.ref a1), .val (.int (Int32.ofNat pl)), .val (.double d2), .second, .unset] [])) (by first | (simp [entryFrame, mkF, argsToLocals, Value.category]; done) | rfl) ?_
  obtain ⟨q1, q2⟩ := own_nat (i := cp + pl) (by omega)
  refine own_st (T' := T0) (g' := (mkF m 1 #[.val (.ref a1), .val (.int (Int32.ofNat pl)), .val (.double d2), .second, .unset] [(.ref a1)])) (fun t9 k9 => XS.aloadN X0.here hx rfl (hb hby d4_0) rfl rfl k9) ?_
  obtain ⟨T1, X1, e1, st1⟩ := getF X0 hx hZ hown (host := "") (Or.inl (hw _ (List.mem_of_getElem? (i := 13) rfl))) Via.refl e0 F2 (g := (mkF m 1 #[.val (.ref a1), .val (.int (Int32.ofNat pl)), .val (.double d2), .second, .unset] [(.ref a1)])) rfl rfl (hb hby d4_1)
  refine own_st (T' := T1) (g' := (mkF m 4 #[.val (.ref a1), .val (.int (Int32.ofNat pl)), .val (.double d2), .second, .unset] [(.int (Int32.ofNat cp))])) (fun t9 k9 => st1 t9 k9) ?_
  refine own_st (T' := T1) (g' := (mkF m 5 #[.val (.ref a1), .val (.int (Int32.ofNat pl)), .val (.double d2), .second, .unset] [(.int (Int32.ofNat pl)), (.int (Int32.ofNat cp))])) (fun t9 k9 => XS.iloadN X1.here hx rfl (hb hby d4_4) rfl k9) ?_
  refine own_st (T' := T1) (g' := (mkF m 6 #[.val (.ref a1), .val (.int (Int32.ofNat pl)), .val (.double d2), .second, .unset] [(.int ((Int32.ofNat cp) + (Int32.ofNat pl)))])) (fun t9 k9 => XS.iadd X1.here hx rfl (hb hby d4_5) rfl k9) ?_
  rw [own_add]
  refine own_st (T' := T1) (g' := (mkF m 8 #[.val (.ref a1), .val (.int (Int32.ofNat pl)), .val (.double d2), .second, .val (.int (Int32.ofNat (cp + pl)))] [])) (fun t9 k9 => XS.istore X1.here hx rfl (hb hby d4_6) rfl (l' := #[.val (.ref a1), .val (.int (Int32.ofNat pl)), .val (.double d2), .second, .val (.int (Int32.ofNat (cp + pl)))]) rfl k9) ?_
  refine own_st (T' := T1) (g' := (mkF m 9 #[.val (.ref a1), .val (.int (Int32.ofNat pl)), .val (.double d2), .second, .val (.int (Int32.ofNat (cp + pl)))] [(.ref a1)])) (fun t9 k9 => XS.aloadN X1.here hx rfl (hb hby d4_8) rfl rfl k9) ?_
  obtain ⟨T2, X2, e2, st2⟩ := getF X1 hx hZ hown (host := "") (Or.inl (hw _ (List.mem_of_getElem? (i := 11) rfl))) Via.refl e1 F1 (g := (mkF m 9 #[.val (.ref a1), .val (.int (Int32.ofNat pl)), .val (.double d2), .second, .val (.int (Int32.ofNat (cp + pl)))] [(.ref a1)])) rfl rfl (hb hby d4_9)
  refine own_st (T' := T2) (g' := (mkF m 12 #[.val (.ref a1), .val (.int (Int32.ofNat pl)), .val (.double d2), .second, .val (.int (Int32.ofNat (cp + pl)))] [(.ref d1)])) (fun t9 k9 => st2 t9 k9) ?_
  refine own_st (T' := T2) (g' := (mkF m 14 #[.val (.ref a1), .val (.int (Int32.ofNat pl)), .val (.double d2), .second, .val (.int (Int32.ofNat (cp + pl)))] [(.int (Int32.ofNat (cp + pl))), (.ref d1)])) (fun t9 k9 => XS.iload X2.here hx rfl (hb hby d4_12) rfl k9) ?_
  refine own_st (T' := T2) (g' := (mkF m 15 #[.val (.ref a1), .val (.int (Int32.ofNat pl)), .val (.double d2), .second, .val (.int (Int32.ofNat (cp + pl)))] [(.double d2), (.int (Int32.ofNat (cp + pl))), (.ref d1)])) (fun t9 k9 => XS.dloadN X2.here hx rfl (hb hby d4_14) rfl k9) ?_
  obtain ⟨clu3, Aru3, qu3, Su3, Nu3, Hu3, Gu3⟩ := (id V1)
  obtain ⟨T4, h4, X4, e4, W4, st4⟩ := stD X2 hx hZ e2 Aru3 (j := (Int32.ofNat (cp + pl))) (inb_of Su3 ⟨q2, own_lt (by omega) (by omega)⟩) (g := (mkF m 15 #[.val (.ref a1), .val (.int (Int32.ofNat pl)), .val (.double d2), .second, .val (.int (Int32.ofNat (cp + pl)))] [(.double d2), (.int (Int32.ofNat (cp + pl))), (.ref d1)])) rfl rfl (hb hby d4_15)
  have Va4 := Arv.set Aru3 qu3 Su3 Nu3 Hu3 Gu3 rfl W4 (cp + pl) q1 (by rw [hD.1]; omega)
  have F1_5 := F1.other W4 (Or.inl hne)
  have F2_6 := F2.other W4 (Or.inl hne)
  have K4 := K0.wr W4 (Or.inl (by simp))
  have N4 := Fr.snoc X4 N0 g_d1
  have Z4 : n0 ≤ h4.size := by rw [W4.size]; exact Z0
  refine own_st (T' := T4) (g' := (mkF m 16 #[.val (.ref a1), .val (.int (Int32.ofNat pl)), .val (.double d2), .second, .val (.int (Int32.ofNat (cp + pl)))] [])) (fun t9 k9 => st4 t9 k9) ?_
  refine own_st (T' := T4) (g' := (mkF m 18 #[.val (.ref a1), .val (.int (Int32.ofNat pl)), .val (.double d2), .second, .val (.int (Int32.ofNat (cp + pl)))] [(.int (Int32.ofNat (cp + pl)))])) (fun t9 k9 => XS.iload X4.here hx rfl (hb hby d4_16) rfl k9) ?_
  refine own_st (T' := T4) (g' := (mkF m 19 #[.val (.ref a1), .val (.int (Int32.ofNat pl)), .val (.double d2), .second, .val (.int (Int32.ofNat (cp + pl)))] [(.int (2 : Int32)), (.int (Int32.ofNat (cp + pl)))])) (fun t9 k9 => XS.iconst X4.here hx rfl (hb hby d4_18) k9) ?_
  refine own_st (T' := T4) (g' := (mkF m 20 #[.val (.ref a1), .val (.int (Int32.ofNat pl)), .val (.double d2), .second, .val (.int (Int32.ofNat (cp + pl)))] [(.int ((Int32.ofNat (cp + pl)) / (2 : Int32)))])) (fun t9 k9 => XS.idiv X4.here hx rfl (hb hby d4_19) rfl (by decide) k9) ?_
  rw [own_half (by omega)]
  refine own_st (T' := T4) (g' := (mkF m 22 #[.val (.ref a1), .val (.int (Int32.ofNat pl)), .val (.double d2), .second, .val (.int (Int32.ofNat ((cp + pl) / 2)))] [])) (fun t9 k9 => XS.istore X4.here hx rfl (hb hby d4_20) rfl (l' := #[.val (.ref a1), .val (.int (Int32.ofNat pl)), .val (.double d2), .second, .val (.int (Int32.ofNat ((cp + pl) / 2)))]) rfl k9) ?_
  have lp : ∀ (k : Nat) (T7 : State) (L7 : List Loc) (h7 : Heap) (nd : Nat) (vq : List Value) (fq : Nat → UInt64), Stand p l e ({ frames := 1, cells := 0, slots := 0, locals := 40 } : Room) s m #[(.ref a1), (.int (Int32.ofNat pl)), (.double d2)] below meth c T7 L7 (0) (0) → T7.heap = h7 → Fr n0 L7 → (n0 ≤ h7.size) → (Keep h0 h7 [d1]) → (Fld Z h7 a1 "com/example/shelfwright/shelfwright/packers/FirstFit" "largestKey" "[D" (.ref d1)) → (Arv Z h7 d1 k1 .double (Int32.ofNat (2 * cp)) vq (.double 0)) → (nd ≤ k) → (nd < cp) → (own_D vq (2 * cp) fq) → (∀ i, i < cp → fq (cp + i) = if i = pl then d2 else f (cp + i)) → own_Go p e below F T7 (mkF m 22 #[.val (.ref a1), .val (.int (Int32.ofNat pl)), .val (.double d2), .second, .val (.int (Int32.ofNat nd))] []) := by
    intro k
    induction k with
    | zero =>
      intro T7 L7 h7 nd vq fq X7 e7 N7 Z7 K7 Fl9 V9 hk hnd hq hkp
      obtain rfl : nd = 0 := by omega
      show own_Go p e below F T7 (mkF m 22 #[.val (.ref a1), .val (.int (Int32.ofNat pl)), .val (.double d2), .second, .val (.int (Int32.ofNat 0))] [])
      refine own_st (T' := T7) (g' := (mkF m 24 #[.val (.ref a1), .val (.int (Int32.ofNat pl)), .val (.double d2), .second, .val (.int (Int32.ofNat 0))] [(.int (Int32.ofNat 0))])) (fun t9 k9 => XS.iload X7.here hx rfl (hb hby d4_22) rfl k9) ?_
      refine own_st (T' := T7) (g' := (mkF m 66 #[.val (.ref a1), .val (.int (Int32.ofNat pl)), .val (.double d2), .second, .val (.int (Int32.ofNat 0))] [])) (fun t9 k9 => XS.ifYes X7.here hx rfl (pc0 := 24) (pc' := 66) rfl (hb hby d4_24) rfl ((if0 _ _).trans (flt (by decide)).2.2.2) (by decide) (by decide) k9) ?_
      refine own_ret (v := none) hF X7 (fun _ => rfl) hlk (fun fs hr => X7.returnOut hx hret (hb hby d4_66) hr) ?_ (by decide) (by decide)
      try rw [e7]
      exact ⟨_, fq, rfl, N7, K7, V9, hq, hkp⟩
    | succ k ih =>
      intro T7 L7 h7 nd vq fq X7 e7 N7 Z7 K7 Fl9 V9 hk hnd hq hkp
      by_cases h0d : nd = 0
      · subst h0d
        show own_Go p e below F T7 (mkF m 22 #[.val (.ref a1), .val (.int (Int32.ofNat pl)), .val (.double d2), .second, .val (.int (Int32.ofNat 0))] [])
        refine own_st (T' := T7) (g' := (mkF m 24 #[.val (.ref a1), .val (.int (Int32.ofNat pl)), .val (.double d2), .second, .val (.int (Int32.ofNat 0))] [(.int (Int32.ofNat 0))])) (fun t9 k9 => XS.iload X7.here hx rfl (hb hby d4_22) rfl k9) ?_
        refine own_st (T' := T7) (g' := (mkF m 66 #[.val (.ref a1), .val (.int (Int32.ofNat pl)), .val (.double d2), .second, .val (.int (Int32.ofNat 0))] [])) (fun t9 k9 => XS.ifYes X7.here hx rfl (pc0 := 24) (pc' := 66) rfl (hb hby d4_24) rfl ((if0 _ _).trans (flt (by decide)).2.2.2) (by decide) (by decide) k9) ?_
        refine own_ret (v := none) hF X7 (fun _ => rfl) hlk (fun fs hr => X7.returnOut hx hret (hb hby d4_66) hr) ?_ (by decide) (by decide)
        try rw [e7]
        exact ⟨_, fq, rfl, N7, K7, V9, hq, hkp⟩
      · obtain ⟨a1', a2'⟩ := own_nat (i := nd) (by omega)
        obtain ⟨b1', b2'⟩ := own_nat (i := 2 * nd) (by omega)
        obtain ⟨c1', c2'⟩ := own_nat (i := 2 * nd + 1) (by omega)
        refine own_st (T' := T7) (g' := (mkF m 24 #[.val (.ref a1), .val (.int (Int32.ofNat pl)), .val (.double d2), .second, .val (.int (Int32.ofNat nd))] [(.int (Int32.ofNat nd))])) (fun t9 k9 => XS.iload X7.here hx rfl (hb hby d4_22) rfl k9) ?_
        refine own_st (T' := T7) (g' := (mkF m 27 #[.val (.ref a1), .val (.int (Int32.ofNat pl)), .val (.double d2), .second, .val (.int (Int32.ofNat nd))] [])) (fun t9 k9 => XS.ifNo X7.here hx rfl (hb hby d4_24) rfl ((if0 _ _).trans (tlt (own_lt (i := 0) (by omega) (by omega))).2.2.2) k9) ?_
        refine own_st (T' := T7) (g' := (mkF m 28 #[.val (.ref a1), .val (.int (Int32.ofNat pl)), .val (.double d2), .second, .val (.int (Int32.ofNat nd))] [(.ref a1)])) (fun t9 k9 => XS.aloadN X7.here hx rfl (hb hby d4_27) rfl rfl k9) ?_
        obtain ⟨T8, X8, e8, st8⟩ := getF X7 hx hZ hown (host := "") (Or.inl (hw _ (List.mem_of_getElem? (i := 11) rfl))) Via.refl e7 Fl9 (g := (mkF m 28 #[.val (.ref a1), .val (.int (Int32.ofNat pl)), .val (.double d2), .second, .val (.int (Int32.ofNat nd))] [(.ref a1)])) rfl rfl (hb hby d4_28)
        refine own_st (T' := T8) (g' := (mkF m 31 #[.val (.ref a1), .val (.int (Int32.ofNat pl)), .val (.double d2), .second, .val (.int (Int32.ofNat nd))] [(.ref d1)])) (fun t9 k9 => st8 t9 k9) ?_
        refine own_st (T' := T8) (g' := (mkF m 33 #[.val (.ref a1), .val (.int (Int32.ofNat pl)), .val (.double d2), .second, .val (.int (Int32.ofNat nd))] [(.int (Int32.ofNat nd)), (.ref d1)])) (fun t9 k9 => XS.iload X8.here hx rfl (hb hby d4_31) rfl k9) ?_
        refine own_st (T' := T8) (g' := (mkF m 34 #[.val (.ref a1), .val (.int (Int32.ofNat pl)), .val (.double d2), .second, .val (.int (Int32.ofNat nd))] [(.ref a1), (.int (Int32.ofNat nd)), (.ref d1)])) (fun t9 k9 => XS.aloadN X8.here hx rfl (hb hby d4_33) rfl rfl k9) ?_
        obtain ⟨T9, X9, e9, st9⟩ := getF X8 hx hZ hown (host := "") (Or.inl (hw _ (List.mem_of_getElem? (i := 11) rfl))) Via.refl e8 Fl9 (g := (mkF m 34 #[.val (.ref a1), .val (.int (Int32.ofNat pl)), .val (.double d2), .second, .val (.int (Int32.ofNat nd))] [(.ref a1), (.int (Int32.ofNat nd)), (.ref d1)])) rfl rfl (hb hby d4_34)
        refine own_st (T' := T9) (g' := (mkF m 37 #[.val (.ref a1), .val (.int (Int32.ofNat pl)), .val (.double d2), .second, .val (.int (Int32.ofNat nd))] [(.ref d1), (.int (Int32.ofNat nd)), (.ref d1)])) (fun t9 k9 => st9 t9 k9) ?_
        refine own_st (T' := T9) (g' := (mkF m 38 #[.val (.ref a1), .val (.int (Int32.ofNat pl)), .val (.double d2), .second, .val (.int (Int32.ofNat nd))] [(.int (2 : Int32)), (.ref d1), (.int (Int32.ofNat nd)), (.ref d1)])) (fun t9 k9 => XS.iconst X9.here hx rfl (hb hby d4_37) k9) ?_
        refine own_st (T' := T9) (g' := (mkF m 40 #[.val (.ref a1), .val (.int (Int32.ofNat pl)), .val (.double d2), .second, .val (.int (Int32.ofNat nd))] [(.int (Int32.ofNat nd)), (.int (2 : Int32)), (.ref d1), (.int (Int32.ofNat nd)), (.ref d1)])) (fun t9 k9 => XS.iload X9.here hx rfl (hb hby d4_38) rfl k9) ?_
        refine own_st (T' := T9) (g' := (mkF m 41 #[.val (.ref a1), .val (.int (Int32.ofNat pl)), .val (.double d2), .second, .val (.int (Int32.ofNat nd))] [(.int ((2 : Int32) * (Int32.ofNat nd))), (.ref d1), (.int (Int32.ofNat nd)), (.ref d1)])) (fun t9 k9 => XS.imul X9.here hx rfl (hb hby d4_40) rfl k9) ?_
        rw [own_twice]
        obtain ⟨clu10, Aru10, qu10, Su10, Nu10, Hu10, Gu10⟩ := (id V9)
        have hinu10 := inb_of Su10 (j := (Int32.ofNat (2 * nd))) ⟨b2', own_lt (by omega) (by omega)⟩
        refine own_st (T' := T9) (g' := (mkF m 42 #[.val (.ref a1), .val (.int (Int32.ofNat pl)), .val (.double d2), .second, .val (.int (Int32.ofNat nd))] [(.double (fq (2 * nd))), (.int (Int32.ofNat nd)), (.ref d1)])) (fun t9 k9 => X9.daload hx (j := (Int32.ofNat (2 * nd))) (v := (.double (fq (2 * nd)))) (by rw [e9]; exact Aru10.1) (State.isArrayOf_alike hZ.alike Aru10.2.1) Aru10.2.2 hinu10 (Hu10.at hinu10 (by rw [b1']; exact (hq.2 _ (by omega)).1)) (g := (mkF m 41 #[.val (.ref a1), .val (.int (Int32.ofNat pl)), .val (.double d2), .second, .val (.int (Int32.ofNat nd))] [(.int (Int32.ofNat (2 * nd))), (.ref d1), (.int (Int32.ofNat nd)), (.ref d1)])) rfl rfl (hb hby d4_41) t9 k9) ?_
        refine own_st (T' := T9) (g' := (mkF m 43 #[.val (.ref a1), .val (.int (Int32.ofNat pl)), .val (.double d2), .second, .val (.int (Int32.ofNat nd))] [(.ref a1), (.double (fq (2 * nd))), (.int (Int32.ofNat nd)), (.ref d1)])) (fun t9 k9 => XS.aloadN X9.here hx rfl (hb hby d4_42) rfl rfl k9) ?_
        obtain ⟨T11, X11, e11, st11⟩ := getF X9 hx hZ hown (host := "") (Or.inl (hw _ (List.mem_of_getElem? (i := 11) rfl))) Via.refl e9 Fl9 (g := (mkF m 43 #[.val (.ref a1), .val (.int (Int32.ofNat pl)), .val (.double d2), .second, .val (.int (Int32.ofNat nd))] [(.ref a1), (.double (fq (2 * nd))), (.int (Int32.ofNat nd)), (.ref d1)])) rfl rfl (hb hby d4_43)
        refine own_st (T' := T11) (g' := (mkF m 46 #[.val (.ref a1), .val (.int (Int32.ofNat pl)), .val (.double d2), .second, .val (.int (Int32.ofNat nd))] [(.ref d1), (.double (fq (2 * nd))), (.int (Int32.ofNat nd)), (.ref d1)])) (fun t9 k9 => st11 t9 k9) ?_
        refine own_st (T' := T11) (g' := (mkF m 47 #[.val (.ref a1), .val (.int (Int32.ofNat pl)), .val (.double d2), .second, .val (.int (Int32.ofNat nd))] [(.int (2 : Int32)), (.ref d1), (.double (fq (2 * nd))), (.int (Int32.ofNat nd)), (.ref d1)])) (fun t9 k9 => XS.iconst X11.here hx rfl (hb hby d4_46) k9) ?_
        refine own_st (T' := T11) (g' := (mkF m 49 #[.val (.ref a1), .val (.int (Int32.ofNat pl)), .val (.double d2), .second, .val (.int (Int32.ofNat nd))] [(.int (Int32.ofNat nd)), (.int (2 : Int32)), (.ref d1), (.double (fq (2 * nd))), (.int (Int32.ofNat nd)), (.ref d1)])) (fun t9 k9 => XS.iload X11.here hx rfl (hb hby d4_47) rfl k9) ?_
        refine own_st (T' := T11) (g' := (mkF m 50 #[.val (.ref a1), .val (.int (Int32.ofNat pl)), .val (.double d2), .second, .val (.int (Int32.ofNat nd))] [(.int ((2 : Int32) * (Int32.ofNat nd))), (.ref d1), (.double (fq (2 * nd))), (.int (Int32.ofNat nd)), (.ref d1)])) (fun t9 k9 => XS.imul X11.here hx rfl (hb hby d4_49) rfl k9) ?_
        rw [own_twice]
        refine own_st (T' := T11) (g' := (mkF m 51 #[.val (.ref a1), .val (.int (Int32.ofNat pl)), .val (.double d2), .second, .val (.int (Int32.ofNat nd))] [(.int (1 : Int32)), (.int (Int32.ofNat (2 * nd))), (.ref d1), (.double (fq (2 * nd))), (.int (Int32.ofNat nd)), (.ref d1)])) (fun t9 k9 => XS.iconst X11.here hx rfl (hb hby d4_50) k9) ?_
        refine own_st (T' := T11) (g' := (mkF m 52 #[.val (.ref a1), .val (.int (Int32.ofNat pl)), .val (.double d2), .second, .val (.int (Int32.ofNat nd))] [(.int ((Int32.ofNat (2 * nd)) + (1 : Int32))), (.ref d1), (.double (fq (2 * nd))), (.int (Int32.ofNat nd)), (.ref d1)])) (fun t9 k9 => XS.iadd X11.here hx rfl (hb hby d4_51) rfl k9) ?_
        rw [own_one (2 * nd)]
        obtain ⟨clu12, Aru12, qu12, Su12, Nu12, Hu12, Gu12⟩ := (id V9)
        have hinu12 := inb_of Su12 (j := (Int32.ofNat (2 * nd + 1))) ⟨c2', own_lt (by omega) (by omega)⟩
        refine own_st (T' := T11) (g' := (mkF m 53 #[.val (.ref a1), .val (.int (Int32.ofNat pl)), .val (.double d2), .second, .val (.int (Int32.ofNat nd))] [(.double (fq (2 * nd + 1))), (.double (fq (2 * nd))), (.int (Int32.ofNat nd)), (.ref d1)])) (fun t9 k9 => X11.daload hx (j := (Int32.ofNat (2 * nd + 1))) (v := (.double (fq (2 * nd + 1)))) (by rw [e11]; exact Aru12.1) (State.isArrayOf_alike hZ.alike Aru12.2.1) Aru12.2.2 hinu12 (Hu12.at hinu12 (by rw [c1']; exact (hq.2 _ (by omega)).1)) (g := (mkF m 52 #[.val (.ref a1), .val (.int (Int32.ofNat pl)), .val (.double d2), .second, .val (.int (Int32.ofNat nd))] [(.int (Int32.ofNat (2 * nd + 1))), (.ref d1), (.double (fq (2 * nd))), (.int (Int32.ofNat nd)), (.ref d1)])) rfl rfl (hb hby d4_52) t9 k9) ?_
        have na := (hq.2 (2 * nd) (by omega)).2
        have nb := (hq.2 (2 * nd + 1) (by omega)).2
        have hcm13 := mvT (args := #[(.ref a1), (.int (Int32.ofNat pl)), (.double d2)]) hZ (hw _ (List.mem_of_getElem? (i := 61) rfl))
        rw [own_maxcode] at hcm13
        obtain ⟨_, vm13, B13, -, X13, ⟨rfl, hB13⟩, st13⟩ := Jvm.LawKit.callS X11 hx (y := Jvm.Free.Fl.Abs.maxDN) hown (mvT hZ (hw _ (List.mem_of_getElem? (i := 59) rfl))) (mvT hZ (hw _ (List.mem_of_getElem? (i := 60) rfl))) (mvT hZ (hw _ (List.mem_of_getElem? (i := 49) rfl))) hcm13 (by decide) (Jvm.Free.Fl.Abs.maxD_pays (W := 2) (fq (2 * nd)) (fq (2 * nd + 1)) hcm13 (by decide) (by decide)) (g := (mkF m 53 #[.val (.ref a1), .val (.int (Int32.ofNat pl)), .val (.double d2), .second, .val (.int (Int32.ofNat nd))] [(.double (fq (2 * nd + 1))), (.double (fq (2 * nd))), (.int (Int32.ofNat nd)), (.ref d1)])) rfl (by rw [hml]; rfl) (argsL := [(.double (fq (2 * nd))), (.double (fq (2 * nd + 1)))]) (rest := [(.int (Int32.ofNat nd)), (.ref d1)]) (lenOf pd_9 rfl) rfl (by show 2 * 0 + _ ≤ _; exact Nat.le_of_eq rfl) (hb hby d4_53) (fun _ _ => ⟨(Nat.le_of_ble_eq_true rfl), (Nat.le_of_ble_eq_true rfl), rfl, na, nb⟩)
        subst hB13
        dsimp only [Pt.U, Pt.locs, Pt.cells, Pt.slots] at X13 st13
        obtain ⟨T13, hT13⟩ : ∃ z, z = T11.setVm vm13 := ⟨_, rfl⟩
        rw [← hT13] at X13 st13
        have e13 : T13.heap = h7 := by rw [hT13]; exact e11
        refine own_st (T' := T13) (g' := (mkF m 56 #[.val (.ref a1), .val (.int (Int32.ofNat pl)), .val (.double d2), .second, .val (.int (Int32.ofNat nd))] [(.double (Jvm.Native.java_lang_Math.nans.pick64 true (fq (2 * nd)) (fq (2 * nd + 1)))), (.int (Int32.ofNat nd)), (.ref d1)])) (fun t9 k9 => st13 t9 k9) ?_
        obtain ⟨clu14, Aru14, qu14, Su14, Nu14, Hu14, Gu14⟩ := (id V9)
        obtain ⟨T15, h15, X15, e15, W15, st15⟩ := stD X13 hx hZ e13 Aru14 (j := (Int32.ofNat nd)) (inb_of Su14 ⟨a2', own_lt (by omega) (by omega)⟩) (g := (mkF m 56 #[.val (.ref a1), .val (.int (Int32.ofNat pl)), .val (.double d2), .second, .val (.int (Int32.ofNat nd))] [(.double (Jvm.Native.java_lang_Math.nans.pick64 true (fq (2 * nd)) (fq (2 * nd + 1)))), (.int (Int32.ofNat nd)), (.ref d1)])) rfl rfl (hb hby d4_56)
        have Va15 := Arv.set Aru14 qu14 Su14 Nu14 Hu14 Gu14 rfl W15 nd a1' (by rw [hq.1]; omega)
        have Fl9_16 := Fl9.other W15 (Or.inl hne)
        have K15 := K7.wr W15 (Or.inl (by simp))
        have N15 := Fr.snoc X15 N7 g_d1
        have Z15 : n0 ≤ h15.size := by rw [W15.size]; exact Z7
        refine own_st (T' := T15) (g' := (mkF m 57 #[.val (.ref a1), .val (.int (Int32.ofNat pl)), .val (.double d2), .second, .val (.int (Int32.ofNat nd))] [])) (fun t9 k9 => st15 t9 k9) ?_
        refine own_st (T' := T15) (g' := (mkF m 59 #[.val (.ref a1), .val (.int (Int32.ofNat pl)), .val (.double d2), .second, .val (.int (Int32.ofNat nd))] [(.int (Int32.ofNat nd))])) (fun t9 k9 => XS.iload X15.here hx rfl (hb hby d4_57) rfl k9) ?_
        refine own_st (T' := T15) (g' := (mkF m 60 #[.val (.ref a1), .val (.int (Int32.ofNat pl)), .val (.double d2), .second, .val (.int (Int32.ofNat nd))] [(.int (2 : Int32)), (.int (Int32.ofNat nd))])) (fun t9 k9 => XS.iconst X15.here hx rfl (hb hby d4_59) k9) ?_
        refine own_st (T' := T15) (g' := (mkF m 61 #[.val (.ref a1), .val (.int (Int32.ofNat pl)), .val (.double d2), .second, .val (.int (Int32.ofNat nd))] [(.int ((Int32.ofNat nd) / (2 : Int32)))])) (fun t9 k9 => XS.idiv X15.here hx rfl (hb hby d4_60) rfl (by decide) k9) ?_
        rw [own_half (by omega)]
        refine own_st (T' := T15) (g' := (mkF m 63 #[.val (.ref a1), .val (.int (Int32.ofNat pl)), .val (.double d2), .second, .val (.int (Int32.ofNat (nd / 2)))] [])) (fun t9 k9 => XS.istore X15.here hx rfl (hb hby d4_61) rfl (l' := #[.val (.ref a1), .val (.int (Int32.ofNat pl)), .val (.double d2), .second, .val (.int (Int32.ofNat (nd / 2)))]) rfl k9) ?_
        refine own_st (T' := T15) (g' := (mkF m 22 #[.val (.ref a1), .val (.int (Int32.ofNat pl)), .val (.double d2), .second, .val (.int (Int32.ofNat (nd / 2)))] [])) (fun t9 k9 => XS.goto X15.here hx rfl (pc0 := 63) (pc' := 22) rfl (hb hby d4_63) (by decide) (by decide) k9) ?_
        exact ih _ _ _ (nd / 2) _ _ X15 e15 N15 Z15 K15 Fl9_16 Va15 (by omega) (by omega) (hq.set nd _ (by omega) (own_pick na nb)) (fun i hi => by
              show (if cp + i = nd then _ else fq (cp + i)) = _
              rw [if_neg (by omega)]; exact hkp i hi)
  exact lp ((cp + pl) / 2) _ _ _ ((cp + pl) / 2) _ _ X4 e4 N4 Z4 K4 F1_5 Va4 (Nat.le_refl _) (by omega) (hD.set (cp + pl) d2 (by omega) hd2) (fun i hi => by
        show (if cp + i = cp + pl then d2 else f (cp + i)) = _
        by_cases q : i = pl
        · rw [if_pos q, if_pos (by omega)]
        · rw [if_neg q, if_neg (by omega)])
theorem d6_0 : decode prog_77_method_9_code 0 = .ok (.aload_n 0, 1) := by decide +kernel
theorem d6_1 : decode prog_77_method_9_code 1 = .ok (.getfield 11, 3) := by decide +kernel
theorem d6_4 : decode prog_77_method_9_code 4 = .ok (.aload_n 0, 1) := by decide +kernel
theorem d6_5 : decode prog_77_method_9_code 5 = .ok (.getfield 17, 3) := by decide +kernel
theorem d6_8 : decode prog_77_method_9_code 8 = .ok (.aload_n 0, 1) := by decide +kernel
theorem d6_9 : decode prog_77_method_9_code 9 = .ok (.getfield 17, 3) := by decide +kernel
theorem d6_12 : decode prog_77_method_9_code 12 = .ok (.aload_n 0, 1) := by decide +kernel
theorem d6_13 : decode prog_77_method_9_code 13 = .ok (.getfield 21, 3) := by decide +kernel
theorem d6_16 : decode prog_77_method_9_code 16 = .ok (.iadd, 1) := by decide +kernel
theorem d6_17 : decode prog_77_method_9_code 17 = .ok (.invokestatic 51, 3) := by decide +kernel
theorem d6_20 : decode prog_77_method_9_code 20 = .ok (.astore_n 1, 1) := by decide +kernel
theorem d6_21 : decode prog_77_method_9_code 21 = .ok (.aload_n 0, 1) := by decide +kernel
theorem d6_22 : decode prog_77_method_9_code 22 = .ok (.iconst 2, 1) := by decide +kernel
theorem d6_23 : decode prog_77_method_9_code 23 = .ok (.aload_n 0, 1) := by decide +kernel
theorem d6_24 : decode prog_77_method_9_code 24 = .ok (.getfield 17, 3) := by decide +kernel
theorem d6_27 : decode prog_77_method_9_code 27 = .ok (.imul, 1) := by decide +kernel
theorem d6_28 : decode prog_77_method_9_code 28 = .ok (.putfield 17, 3) := by decide +kernel
theorem d6_31 : decode prog_77_method_9_code 31 = .ok (.aload_n 0, 1) := by decide +kernel
theorem d6_32 : decode prog_77_method_9_code 32 = .ok (.iconst 2, 1) := by decide +kernel
theorem d6_33 : decode prog_77_method_9_code 33 = .ok (.aload_n 0, 1) := by decide +kernel
theorem d6_34 : decode prog_77_method_9_code 34 = .ok (.getfield 17, 3) := by decide +kernel
theorem d6_37 : decode prog_77_method_9_code 37 = .ok (.imul, 1) := by decide +kernel
theorem d6_38 : decode prog_77_method_9_code 38 = .ok (.newarray .double, 2) := by decide +kernel
theorem d6_40 : decode prog_77_method_9_code 40 = .ok (.putfield 11, 3) := by decide +kernel
theorem d6_43 : decode prog_77_method_9_code 43 = .ok (.aload_n 0, 1) := by decide +kernel
theorem d6_44 : decode prog_77_method_9_code 44 = .ok (.getfield 11, 3) := by decide +kernel
theorem d6_47 : decode prog_77_method_9_code 47 = .ok (.ldc2_w 9, 3) := by decide +kernel
theorem d6_50 : decode prog_77_method_9_code 50 = .ok (.invokestatic 57, 3) := by decide +kernel
theorem d6_53 : decode prog_77_method_9_code 53 = .ok (.aload_n 1, 1) := by decide +kernel
theorem d6_54 : decode prog_77_method_9_code 54 = .ok (.iconst 0, 1) := by decide +kernel
theorem d6_55 : decode prog_77_method_9_code 55 = .ok (.aload_n 0, 1) := by decide +kernel
theorem d6_56 : decode prog_77_method_9_code 56 = .ok (.getfield 11, 3) := by decide +kernel
theorem d6_59 : decode prog_77_method_9_code 59 = .ok (.aload_n 0, 1) := by decide +kernel
theorem d6_60 : decode prog_77_method_9_code 60 = .ok (.getfield 17, 3) := by decide +kernel
theorem d6_63 : decode prog_77_method_9_code 63 = .ok (.aload_n 1, 1) := by decide +kernel
theorem d6_64 : decode prog_77_method_9_code 64 = .ok (.arraylength, 1) := by decide +kernel
theorem d6_65 : decode prog_77_method_9_code 65 = .ok (.invokestatic 61, 3) := by decide +kernel
theorem d6_68 : decode prog_77_method_9_code 68 = .ok (.aload_n 0, 1) := by decide +kernel
theorem d6_69 : decode prog_77_method_9_code 69 = .ok (.getfield 17, 3) := by decide +kernel
theorem d6_72 : decode prog_77_method_9_code 72 = .ok (.iconst 1, 1) := by decide +kernel
theorem d6_73 : decode prog_77_method_9_code 73 = .ok (.isub, 1) := by decide +kernel
theorem d6_74 : decode prog_77_method_9_code 74 = .ok (.istore_n 2, 1) := by decide +kernel
theorem d6_75 : decode prog_77_method_9_code 75 = .ok (.iload_n 2, 1) := by decide +kernel
theorem d6_76 : decode prog_77_method_9_code 76 = .ok (.ifCond .le 36, 3) := by decide +kernel
theorem d6_79 : decode prog_77_method_9_code 79 = .ok (.aload_n 0, 1) := by decide +kernel
theorem d6_80 : decode prog_77_method_9_code 80 = .ok (.getfield 11, 3) := by decide +kernel
theorem d6_83 : decode prog_77_method_9_code 83 = .ok (.iload_n 2, 1) := by decide +kernel
theorem d6_84 : decode prog_77_method_9_code 84 = .ok (.aload_n 0, 1) := by decide +kernel
theorem d6_85 : decode prog_77_method_9_code 85 = .ok (.getfield 11, 3) := by decide +kernel
theorem d6_88 : decode prog_77_method_9_code 88 = .ok (.iconst 2, 1) := by decide +kernel
theorem d6_89 : decode prog_77_method_9_code 89 = .ok (.iload_n 2, 1) := by decide +kernel
theorem d6_90 : decode prog_77_method_9_code 90 = .ok (.imul, 1) := by decide +kernel
theorem d6_91 : decode prog_77_method_9_code 91 = .ok (.daload, 1) := by decide +kernel
theorem d6_92 : decode prog_77_method_9_code 92 = .ok (.aload_n 0, 1) := by decide +kernel
theorem d6_93 : decode prog_77_method_9_code 93 = .ok (.getfield 11, 3) := by decide +kernel
theorem d6_96 : decode prog_77_method_9_code 96 = .ok (.iconst 2, 1) := by decide +kernel
theorem d6_97 : decode prog_77_method_9_code 97 = .ok (.iload_n 2, 1) := by decide +kernel
theorem d6_98 : decode prog_77_method_9_code 98 = .ok (.imul, 1) := by decide +kernel
theorem d6_99 : decode prog_77_method_9_code 99 = .ok (.iconst 1, 1) := by decide +kernel
theorem d6_100 : decode prog_77_method_9_code 100 = .ok (.iadd, 1) := by decide +kernel
theorem d6_101 : decode prog_77_method_9_code 101 = .ok (.daload, 1) := by decide +kernel
theorem d6_102 : decode prog_77_method_9_code 102 = .ok (.invokestatic 31, 3) := by decide +kernel
theorem d6_105 : decode prog_77_method_9_code 105 = .ok (.dastore, 1) := by decide +kernel
theorem d6_106 : decode prog_77_method_9_code 106 = .ok (.iinc 2 (-1), 3) := by decide +kernel
theorem d6_109 : decode prog_77_method_9_code 109 = .ok (.goto (-34), 3) := by decide +kernel
theorem d6_112 : decode prog_77_method_9_code 112 = .ok (.return_, 1) := by decide +kernel
theorem pn_6 : plainFor (⟨"com/example/shelfwright/shelfwright/packers/FirstFit", "grow", "()V"⟩ : MethodName) = true := plainFor_of_name (by first | (simp [plainName, overriddenIn]; done) | decide +kernel)
set_option maxRecDepth 65536 in
set_option maxHeartbeats 40000000 in
theorem rm6 (l : Launch) (Z : State) (a0 : Array Value) (hw : ∀ d ∈ tables_1, d.before a0 Z = true) (a1 d1 : Addr) (k1 : ClassId) (vs : List Value) (f : Nat → UInt64) (cp : Nat) (h0 : Heap) (n0 : Nat) (Z0 : n0 ≤ h0.size) (E1 : Exa Z h0 a1 "com/example/shelfwright/shelfwright/packers/FirstFit") (F1 : Fld Z h0 a1 "com/example/shelfwright/shelfwright/packers/FirstFit" "largestKey" "[D" (.ref d1)) (F2 : Fld Z h0 a1 "com/example/shelfwright/shelfwright/packers/FirstFit" "capacity" "I" (.int (Int32.ofNat cp))) (F3 : Fld Z h0 a1 "com/example/shelfwright/shelfwright/packers/FirstFit" "count" "I" (.int (Int32.ofNat cp))) (V1 : Arv Z h0 d1 k1 .double (Int32.ofNat (2 * cp)) vs (.double 0)) (hD : own_D vs (2 * cp) f) (hc0 : 1 ≤ cp) (hc : cp ≤ 2) (g_a1 : n0 ≤ a1) (hne : d1 ≠ a1) :
    own_Met l Z (⟨"com/example/shelfwright/shelfwright/packers/FirstFit", "grow", "()V"⟩ : MethodName) prog_77_method_9_code 3 none ({ frames := 3, cells := 2, slots := 10, locals := 100 } : Room) #[(.ref a1)] h0 (fun v h L => ∃ (d : Addr) (kd : ClassId) (vq : List Value) (fq : Nat → UInt64), v = none ∧ Fr n0 L ∧ Keep h0 h [a1] ∧ h0.size ≤ d ∧ n0 ≤ d ∧ Exa Z h a1 "com/example/shelfwright/shelfwright/packers/FirstFit" ∧ Fld Z h a1 "com/example/shelfwright/shelfwright/packers/FirstFit" "largestKey" "[D" (.ref d) ∧ Fld Z h a1 "com/example/shelfwright/shelfwright/packers/FirstFit" "capacity" "I" (.int (Int32.ofNat (2 * cp))) ∧ Fld Z h a1 "com/example/shelfwright/shelfwright/packers/FirstFit" "count" "I" (.int (Int32.ofNat cp)) ∧ Arv Z h d kd .double (Int32.ofNat (2 * (2 * cp))) vq (.double 0) ∧ own_D vq (2 * (2 * cp)) fq ∧ ∀ i, i < cp → fq (2 * cp + i) = f (cp + i)) := by
  refine own_body pn_6 ?_
  intro p e s m below meth c T0 hZ hx hby hml hown hnm hret hlk X0 e0 F hF
  have N0 := Fr.nil n0
  have K0 := Keep.refl h0 [a1]
  refine own_cast (g' := (mkF m 0 #[.val (.ref a1), .unset, .unset] [])) (by first | (simp [entryFrame, mkF, argsToLocals, Value.category]; done) | rfl) ?_
  obtain ⟨c1, c2⟩ := own_nat (i := cp) (by omega)
  obtain ⟨e1', e2'⟩ := own_nat (i := 2 * cp) (by omega)
  obtain ⟨f1', f2'⟩ := own_nat (i := 2 * (2 * cp)) (by omega)
  refine own_st (T' := T0) (g' := (mkF m 1 #[.val (.ref a1), .unset, .unset] [(.ref a1)])) (fun t9 k9 => XS.aloadN X0.here hx rfl (hb hby d6_0) rfl rfl k9) ?_
  obtain ⟨T1, X1, e1, st1⟩ := getF X0 hx hZ hown (host := "") (Or.inl (hw _ (List.mem_of_getElem? (i := 11) rfl))) Via.refl e0 F1 (g := (mkF m 1 #[.val (.ref a1), .unset, .unset] [(.ref a1)])) rfl rfl (hb hby d6_1)
  refine own_st (T' := T1) (g' := (mkF m 4 #[.val (.ref a1), .unset, .unset] [(.ref d1)])) (fun t9 k9 => st1 t9 k9) ?_
  refine own_st (T' := T1) (g' := (mkF m 5 #[.val (.ref a1), .unset, .unset] [(.ref a1), (.ref d1)])) (fun t9 k9 => XS.aloadN X1.here hx rfl (hb hby d6_4) rfl rfl k9) ?_
  obtain ⟨T2, X2, e2, st2⟩ := getF X1 hx hZ hown (host := "") (Or.inl (hw _ (List.mem_of_getElem? (i := 13) rfl))) Via.refl e1 F2 (g := (mkF m 5 #[.val (.ref a1), .unset, .unset] [(.ref a1), (.ref d1)])) rfl rfl (hb hby d6_5)
  refine own_st (T' := T2) (g' := (mkF m 8 #[.val (.ref a1), .unset, .unset] [(.int (Int32.ofNat cp)), (.ref d1)])) (fun t9 k9 => st2 t9 k9) ?_
  refine own_st (T' := T2) (g' := (mkF m 9 #[.val (.ref a1), .unset, .unset] [(.ref a1), (.int (Int32.ofNat cp)), (.ref d1)])) (fun t9 k9 => XS.aloadN X2.here hx rfl (hb hby d6_8) rfl rfl k9) ?_
  obtain ⟨T3, X3, e3, st3⟩ := getF X2 hx hZ hown (host := "") (Or.inl (hw _ (List.mem_of_getElem? (i := 13) rfl))) Via.refl e2 F2 (g := (mkF m 9 #[.val (.ref a1), .unset, .unset] [(.ref a1), (.int (Int32.ofNat cp)), (.ref d1)])) rfl rfl (hb hby d6_9)
  refine own_st (T' := T3) (g' := (mkF m 12 #[.val (.ref a1), .unset, .unset] [(.int (Int32.ofNat cp)), (.int (Int32.ofNat cp)), (.ref d1)])) (fun t9 k9 => st3 t9 k9) ?_
  refine own_st (T' := T3) (g' := (mkF m 13 #[.val (.ref a1), .unset, .unset] [(.ref a1), (.int (Int32.ofNat cp)), (.int (Int32.ofNat cp)), (.ref d1)])) (fun t9 k9 => XS.aloadN X3.here hx rfl (hb hby d6_12) rfl rfl k9) ?_
  obtain ⟨T4, X4, e4, st4⟩ := getF X3 hx hZ hown (host := "") (Or.inl (hw _ (List.mem_of_getElem? (i := 20) rfl))) Via.refl e3 F3 (g := (mkF m 13 #[.val (.ref a1), .unset, .unset] [(.ref a1), (.int (Int32.ofNat cp)), (.int (Int32.ofNat cp)), (.ref d1)])) rfl rfl (hb hby d6_13)
  refine own_st (T' := T4) (g' := (mkF m 16 #[.val (.ref a1), .unset, .unset] [(.int (Int32.ofNat cp)), (.int (Int32.ofNat cp)), (.int (Int32.ofNat cp)), (.ref d1)])) (fun t9 k9 => st4 t9 k9) ?_
  refine own_st (T' := T4) (g' := (mkF m 17 #[.val (.ref a1), .unset, .unset] [(.int ((Int32.ofNat cp) + (Int32.ofNat cp))), (.int (Int32.ofNat cp)), (.ref d1)])) (fun t9 k9 => XS.iadd X4.here hx rfl (hb hby d6_16) rfl k9) ?_
  rw [own_add]
  have lt_d1 := V1.lt
  have lt_a1 := E1.lt
  obtain ⟨_, _, ⟨T5, L5, k5, n5⟩, -, X5, ⟨Lc5, hQ5, l5, y5, z5⟩, st5⟩ := Jvm.LawKit.callS X4 hx (y := (⟨"java/util/Arrays", "copyOfRange", "([DII)[D"⟩ : MethodName)) hown (mvT hZ (hw _ (List.mem_of_getElem? (i := 37) rfl))) (mvT hZ (hw _ (List.mem_of_getElem? (i := 38) rfl))) (mvT hZ (hw _ (List.mem_of_getElem? (i := 39) rfl))) (mvT hZ (hw _ (List.mem_of_getElem? (i := 40) rfl))) (by decide) (own_back (W := 0) (rm7 l Z a0 hw d1 k1 vs f cp h0 n0 Z0 V1 hD hc0 hc) hZ (hw _ (List.mem_of_getElem? (i := 40) rfl)) (hw _ (List.mem_of_getElem? (i := 39) rfl)) (by decide) (by decide)) (g := (mkF m 17 #[.val (.ref a1), .unset, .unset] [(.int (Int32.ofNat (cp + cp))), (.int (Int32.ofNat cp)), (.ref d1)])) rfl (by rw [hml]; rfl) (argsL := [(.ref d1), (.int (Int32.ofNat cp)), (.int (Int32.ofNat (cp + cp)))]) (rest := []) (lenOf pd_4 rfl) rfl (by show 2 * 0 + _ ≤ _; exact Nat.le_of_eq rfl) (hb hby d6_17) (fun _ _ => ⟨rfl, e4, (Nat.le_of_ble_eq_true rfl), (Nat.le_of_ble_eq_true rfl)⟩)
  dsimp only [Pt.U, Pt.locs, Pt.cells, Pt.slots] at X5 l5 y5 z5 st5 hQ5
  subst l5 y5 z5
  obtain ⟨b5, kb5, vb5, rfl, Nq5, Kq5, sz5, g_b5, Vq5, hv5⟩ := hQ5
  have N5 := Fr.app N0 Nq5
  obtain ⟨h5, e5⟩ : ∃ z, T5.heap = z := ⟨_, rfl⟩
  rw [e5] at Kq5 Vq5
  have E1_6 := E1.keep Kq5
  have F1_7 := F1.keep Kq5 nin0
  have F2_8 := F2.keep Kq5 nin0
  have F3_9 := F3.keep Kq5 nin0
  have V1_10 := V1.keep Kq5 nin0
  have K5 := K0.trans Kq5 all0
  have Z5 : n0 ≤ h5.size := Nat.le_trans Z0 Kq5.1
  refine own_st (T' := T5) (g' := (mkF m 20 #[.val (.ref a1), .unset, .unset] [(.ref b5)])) (fun t9 k9 => st5 t9 k9) ?_
  have ne_a1_b5 : a1 ≠ b5 := Nat.ne_of_lt (Nat.lt_of_lt_of_le lt_a1 sz5)
  have ne_d1_b5 : d1 ≠ b5 := Nat.ne_of_lt (Nat.lt_of_lt_of_le lt_d1 sz5)
  refine own_st (T' := T5) (g' := (mkF m 21 #[.val (.ref a1), .val (.ref b5), .unset] [])) (fun t9 k9 => XS.astoreN X5.here hx rfl (hb hby d6_20) rfl rfl (l' := #[.val (.ref a1), .val (.ref b5), .unset]) rfl k9) ?_
  refine own_st (T' := T5) (g' := (mkF m 22 #[.val (.ref a1), .val (.ref b5), .unset] [(.ref a1)])) (fun t9 k9 => XS.aloadN X5.here hx rfl (hb hby d6_21) rfl rfl k9) ?_
  refine own_st (T' := T5) (g' := (mkF m 23 #[.val (.ref a1), .val (.ref b5), .unset] [(.int (2 : Int32)), (.ref a1)])) (fun t9 k9 => XS.iconst X5.here hx rfl (hb hby d6_22) k9) ?_
  refine own_st (T' := T5) (g' := (mkF m 24 #[.val (.ref a1), .val (.ref b5), .unset] [(.ref a1), (.int (2 : Int32)), (.ref a1)])) (fun t9 k9 => XS.aloadN X5.here hx rfl (hb hby d6_23) rfl rfl k9) ?_
  obtain ⟨T11, X11, e11, st11⟩ := getF X5 hx hZ hown (host := "") (Or.inl (hw _ (List.mem_of_getElem? (i := 13) rfl))) Via.refl e5 F2_8 (g := (mkF m 24 #[.val (.ref a1), .val (.ref b5), .unset] [(.ref a1), (.int (2 : Int32)), (.ref a1)])) rfl rfl (hb hby d6_24)
  refine own_st (T' := T11) (g' := (mkF m 27 #[.val (.ref a1), .val (.ref b5), .unset] [(.int (Int32.ofNat cp)), (.int (2 : Int32)), (.ref a1)])) (fun t9 k9 => st11 t9 k9) ?_
  refine own_st (T' := T11) (g' := (mkF m 28 #[.val (.ref a1), .val (.ref b5), .unset] [(.int ((2 : Int32) * (Int32.ofNat cp))), (.ref a1)])) (fun t9 k9 => XS.imul X11.here hx rfl (hb hby d6_27) rfl k9) ?_
  rw [own_twice]
  obtain ⟨T12, h12, X12, e12, W12, st12⟩ := putF X11 hx hZ hown (host := "") (Or.inl (hw _ (List.mem_of_getElem? (i := 13) rfl))) Via.refl e11 F2_8 E1_6 (Or.inl (hw _ (List.mem_of_getElem? (i := 14) rfl))) (hw _ (List.mem_of_getElem? (i := 2) rfl)) (ty := .int) (by decide) rfl rfl (g := (mkF m 28 #[.val (.ref a1), .val (.ref b5), .unset] [(.int (Int32.ofNat (2 * cp))), (.ref a1)])) rfl rfl (hb hby d6_28)
  have Fw12 := F2_8.same W12
  have E1_13 := E1_6.wr W12
  have F1_14 := F1_7.other W12 (Or.inr (slot_ne (Or.inl (hw _ (List.mem_of_getElem? (i := 12) rfl))) (Or.inl (hw _ (List.mem_of_getElem? (i := 14) rfl))) (by decide) (t := (.array .double)) (t' := .int) (by decide) (by decide)))
  have F3_15 := F3_9.other W12 (Or.inr (slot_ne (Or.inl (hw _ (List.mem_of_getElem? (i := 21) rfl))) (Or.inl (hw _ (List.mem_of_getElem? (i := 14) rfl))) (by decide) (t := .int) (t' := .int) (by decide) (by decide)))
  have V1_16 := V1_10.other W12 hne
  have Vq5_17 := Vq5.other W12 (Ne.symm ne_a1_b5)
  have K12 := K5.wr W12 (Or.inl (by simp))
  have N12 := Fr.snoc X12 N5 g_a1
  have Z12 : n0 ≤ h12.size := by rw [W12.size]; exact Z5
  refine own_st (T' := T12) (g' := (mkF m 31 #[.val (.ref a1), .val (.ref b5), .unset] [])) (fun t9 k9 => st12 t9 k9) ?_
  refine own_st (T' := T12) (g' := (mkF m 32 #[.val (.ref a1), .val (.ref b5), .unset] [(.ref a1)])) (fun t9 k9 => XS.aloadN X12.here hx rfl (hb hby d6_31) rfl rfl k9) ?_
  refine own_st (T' := T12) (g' := (mkF m 33 #[.val (.ref a1), .val (.ref b5), .unset] [(.int (2 : Int32)), (.ref a1)])) (fun t9 k9 => XS.iconst X12.here hx rfl (hb hby d6_32) k9) ?_
  refine own_st (T' := T12) (g' := (mkF m 34 #[.val (.ref a1), .val (.ref b5), .unset] [(.ref a1), (.int (2 : Int32)), (.ref a1)])) (fun t9 k9 => XS.aloadN X12.here hx rfl (hb hby d6_33) rfl rfl k9) ?_
  obtain ⟨T18, X18, e18, st18⟩ := getF X12 hx hZ hown (host := "") (Or.inl (hw _ (List.mem_of_getElem? (i := 13) rfl))) Via.refl e12 Fw12 (g := (mkF m 34 #[.val (.ref a1), .val (.ref b5), .unset] [(.ref a1), (.int (2 : Int32)), (.ref a1)])) rfl rfl (hb hby d6_34)
  refine own_st (T' := T18) (g' := (mkF m 37 #[.val (.ref a1), .val (.ref b5), .unset] [(.int (Int32.ofNat (2 * cp))), (.int (2 : Int32)), (.ref a1)])) (fun t9 k9 => st18 t9 k9) ?_
  refine own_st (T' := T18) (g' := (mkF m 38 #[.val (.ref a1), .val (.ref b5), .unset] [(.int ((2 : Int32) * (Int32.ofNat (2 * cp)))), (.ref a1)])) (fun t9 k9 => XS.imul X18.here hx rfl (hb hby d6_37) rfl k9) ?_
  rw [own_twice]
  obtain ⟨T19, h19, k19, X19, e19, Ex19, A19, st19⟩ := newP X18 hx hZ (hw _ (List.mem_of_getElem? (i := 0) rfl)) e18 (g := (mkF m 38 #[.val (.ref a1), .val (.ref b5), .unset] [(.int (Int32.ofNat (2 * (2 * cp)))), (.ref a1)])) rfl (hb hby d6_38) rfl f2' (cap := 8) (by rw [f1']; omega) (by decide) (by decide) (by decide)
  obtain ⟨b19, gb19⟩ : ∃ z, z = h12.size := ⟨_, rfl⟩
  have ne_a1_b19 : a1 ≠ b19 := own_ne gb19 E1_13.lt
  have ne_b5_b19 : b5 ≠ b19 := own_ne gb19 Vq5_17.lt
  have ne_d1_b19 : d1 ≠ b19 := own_ne gb19 V1_16.lt
  have g_b19 : n0 ≤ b19 := gb19 ▸ Z12
  have sz_b19 : h0.size ≤ b19 := gb19 ▸ K12.1
  rw [← gb19] at A19 st19
  have E1_20 := E1_13.ext Ex19
  have F1_21 := F1_14.ext Ex19
  have Fw12_22 := Fw12.ext Ex19
  have F3_23 := F3_15.ext Ex19
  have V1_24 := V1_16.ext Ex19
  have Vq5_25 := Vq5_17.ext Ex19
  have K19 := K12.ext Ex19
  have Z19 : n0 ≤ h19.size := Nat.le_trans Z12 Ex19.1
  have V_b19 : Arv Z h19 b19 k19 .double (Int32.ofNat (2 * (2 * cp))) [] (.double 0) := Arv.new A19 f2'
  refine own_st (T' := T19) (g' := (mkF m 40 #[.val (.ref a1), .val (.ref b5), .unset] [(.ref b19), (.ref a1)])) (fun t9 k9 => st19 t9 k9) ?_
  have Vb : Arv Z h19 b19 k19 .double (Int32.ofNat (2 * (2 * cp))) (List.replicate (2 * (2 * cp)) (.double 0)) (.double 0) := V_b19.pad (pad_rep [] (.double 0) (2 * (2 * cp)))
  obtain ⟨T26, h26, X26, e26, W26, st26⟩ := putF X19 hx hZ hown (host := "") (Or.inl (hw _ (List.mem_of_getElem? (i := 11) rfl))) Via.refl e19 F1_21 E1_20 (Or.inl (hw _ (List.mem_of_getElem? (i := 12) rfl))) (hw _ (List.mem_of_getElem? (i := 2) rfl)) (ty := (.array .double)) (by decide) rfl rfl (g := (mkF m 40 #[.val (.ref a1), .val (.ref b5), .unset] [(.ref b19), (.ref a1)])) rfl rfl (hb hby d6_40)
  have Fw26 := F1_21.same W26
  have E1_27 := E1_20.wr W26
  have Fw12_28 := Fw12_22.other W26 (Or.inr (slot_ne (Or.inl (hw _ (List.mem_of_getElem? (i := 14) rfl))) (Or.inl (hw _ (List.mem_of_getElem? (i := 12) rfl))) (by decide) (t := .int) (t' := (.array .double)) (by decide) (by decide)))
  have F3_29 := F3_23.other W26 (Or.inr (slot_ne (Or.inl (hw _ (List.mem_of_getElem? (i := 21) rfl))) (Or.inl (hw _ (List.mem_of_getElem? (i := 12) rfl))) (by decide) (t := .int) (t' := (.array .double)) (by decide) (by decide)))
  have V1_30 := V1_24.other W26 hne
  have Vq5_31 := Vq5_25.other W26 (Ne.symm ne_a1_b5)
  have Vb_32 := Vb.other W26 (Ne.symm ne_a1_b19)
  have K26 := K19.wr W26 (Or.inl (by simp))
  have N26 := Fr.snoc X26 N12 g_a1
  have Z26 : n0 ≤ h26.size := by rw [W26.size]; exact Z19
  refine own_st (T' := T26) (g' := (mkF m 43 #[.val (.ref a1), .val (.ref b5), .unset] [])) (fun t9 k9 => st26 t9 k9) ?_
  refine own_st (T' := T26) (g' := (mkF m 44 #[.val (.ref a1), .val (.ref b5), .unset] [(.ref a1)])) (fun t9 k9 => XS.aloadN X26.here hx rfl (hb hby d6_43) rfl rfl k9) ?_
  obtain ⟨T33, X33, e33, st33⟩ := getF X26 hx hZ hown (host := "") (Or.inl (hw _ (List.mem_of_getElem? (i := 11) rfl))) Via.refl e26 Fw26 (g := (mkF m 44 #[.val (.ref a1), .val (.ref b5), .unset] [(.ref a1)])) rfl rfl (hb hby d6_44)
  refine own_st (T' := T33) (g' := (mkF m 47 #[.val (.ref a1), .val (.ref b5), .unset] [(.ref b19)])) (fun t9 k9 => st33 t9 k9) ?_
  refine own_st (T' := T33) (g' := (mkF m 50 #[.val (.ref a1), .val (.ref b5), .unset] [(.double (18442240474082181120 : UInt64)), (.ref b19)])) (fun t9 k9 => X33.ldc2DoubleC hx hown (mvT hZ (hw _ (List.mem_of_getElem? (i := 10) rfl))) (g := (mkF m 47 #[.val (.ref a1), .val (.ref b5), .unset] [(.ref b19)])) rfl (hb hby d6_47) t9 k9) ?_
  obtain ⟨_, _, ⟨T34, L34, k34, n34⟩, -, X34, ⟨Lc34, hQ34, l34, y34, z34⟩, st34⟩ := Jvm.LawKit.callS X33 hx (y := (⟨"java/util/Arrays", "fill", "([DD)V"⟩ : MethodName)) hown (mvT hZ (hw _ (List.mem_of_getElem? (i := 55) rfl))) (mvT hZ (hw _ (List.mem_of_getElem? (i := 56) rfl))) (mvT hZ (hw _ (List.mem_of_getElem? (i := 39) rfl))) (mvT hZ (hw _ (List.mem_of_getElem? (i := 57) rfl))) (by decide) (own_back (W := 0) (rm11 l Z a0 hw b19 k19 _ _ (2 * (2 * cp)) (18442240474082181120 : UInt64) h26 n0 Z26 Vb_32 (own_D.rep _) (by omega) own_ninf g_b19) hZ (hw _ (List.mem_of_getElem? (i := 57) rfl)) (hw _ (List.mem_of_getElem? (i := 39) rfl)) (by decide) (by decide)) (g := (mkF m 50 #[.val (.ref a1), .val (.ref b5), .unset] [(.double (18442240474082181120 : UInt64)), (.ref b19)])) rfl (by rw [hml]; rfl) (argsL := [(.ref b19), (.double (18442240474082181120 : UInt64))]) (rest := []) (lenOf pd_8 rfl) rfl (by show 2 * 0 + _ ≤ _; exact Nat.le_of_eq rfl) (hb hby d6_50) (fun _ _ => ⟨rfl, e33, (Nat.le_of_ble_eq_true rfl), (Nat.le_of_ble_eq_true rfl)⟩)
  dsimp only [Pt.U, Pt.locs, Pt.cells, Pt.slots] at X34 l34 y34 z34 st34 hQ34
  subst l34 y34 z34
  obtain ⟨vf34, rfl, Nq34, Kq34, Vq34, hf34⟩ := hQ34
  have N34 := Fr.app N26 Nq34
  obtain ⟨h34, e34⟩ : ∃ z, T34.heap = z := ⟨_, rfl⟩
  rw [e34] at Kq34 Vq34
  have E1_35 := E1_27.keep Kq34
  have Fw26_36 := Fw26.keep Kq34 (ninS ne_a1_b19 nin0)
  have Fw12_37 := Fw12_28.keep Kq34 (ninS ne_a1_b19 nin0)
  have F3_38 := F3_29.keep Kq34 (ninS ne_a1_b19 nin0)
  have V1_39 := V1_30.keep Kq34 (ninS ne_d1_b19 nin0)
  have Vq5_40 := Vq5_31.keep Kq34 (ninS ne_b5_b19 nin0)
  have K34 := K26.trans Kq34 (allS (Or.inr sz_b19) all0)
  have Z34 : n0 ≤ h34.size := Nat.le_trans Z26 Kq34.1
  refine own_st (T' := T34) (g' := (mkF m 53 #[.val (.ref a1), .val (.ref b5), .unset] [])) (fun t9 k9 => st34 t9 k9) ?_
  refine own_st (T' := T34) (g' := (mkF m 54 #[.val (.ref a1), .val (.ref b5), .unset] [(.ref b5)])) (fun t9 k9 => XS.aloadN X34.here hx rfl (hb hby d6_53) rfl rfl k9) ?_
  refine own_st (T' := T34) (g' := (mkF m 55 #[.val (.ref a1), .val (.ref b5), .unset] [(.int (0 : Int32)), (.ref b5)])) (fun t9 k9 => XS.iconst X34.here hx rfl (hb hby d6_54) k9) ?_
  refine own_st (T' := T34) (g' := (mkF m 56 #[.val (.ref a1), .val (.ref b5), .unset] [(.ref a1), (.int (0 : Int32)), (.ref b5)])) (fun t9 k9 => XS.aloadN X34.here hx rfl (hb hby d6_55) rfl rfl k9) ?_
  obtain ⟨T41, X41, e41, st41⟩ := getF X34 hx hZ hown (host := "") (Or.inl (hw _ (List.mem_of_getElem? (i := 11) rfl))) Via.refl e34 Fw26_36 (g := (mkF m 56 #[.val (.ref a1), .val (.ref b5), .unset] [(.ref a1), (.int (0 : Int32)), (.ref b5)])) rfl rfl (hb hby d6_56)
  refine own_st (T' := T41) (g' := (mkF m 59 #[.val (.ref a1), .val (.ref b5), .unset] [(.ref b19), (.int (0 : Int32)), (.ref b5)])) (fun t9 k9 => st41 t9 k9) ?_
  refine own_st (T' := T41) (g' := (mkF m 60 #[.val (.ref a1), .val (.ref b5), .unset] [(.ref a1), (.ref b19), (.int (0 : Int32)), (.ref b5)])) (fun t9 k9 => XS.aloadN X41.here hx rfl (hb hby d6_59) rfl rfl k9) ?_
  obtain ⟨T42, X42, e42, st42⟩ := getF X41 hx hZ hown (host := "") (Or.inl (hw _ (List.mem_of_getElem? (i := 13) rfl))) Via.refl e41 Fw12_37 (g := (mkF m 60 #[.val (.ref a1), .val (.ref b5), .unset] [(.ref a1), (.ref b19), (.int (0 : Int32)), (.ref b5)])) rfl rfl (hb hby d6_60)
  refine own_st (T' := T42) (g' := (mkF m 63 #[.val (.ref a1), .val (.ref b5), .unset] [(.int (Int32.ofNat (2 * cp))), (.ref b19), (.int (0 : Int32)), (.ref b5)])) (fun t9 k9 => st42 t9 k9) ?_
  refine own_st (T' := T42) (g' := (mkF m 64 #[.val (.ref a1), .val (.ref b5), .unset] [(.ref b5), (.int (Int32.ofNat (2 * cp))), (.ref b19), (.int (0 : Int32)), (.ref b5)])) (fun t9 k9 => XS.aloadN X42.here hx rfl (hb hby d6_63) rfl rfl k9) ?_
  obtain ⟨clu43, Aru43, qu43, Su43, Nu43, Hu43, Gu43⟩ := (id Vq5_40)
  refine own_st (T' := T42) (g' := (mkF m 65 #[.val (.ref a1), .val (.ref b5), .unset] [(.int (Int32.ofNat cp)), (.int (Int32.ofNat (2 * cp))), (.ref b19), (.int (0 : Int32)), (.ref b5)])) (fun t9 k9 => X42.arraylength hx (by rw [e42]; exact Aru43.1) (State.isArrayOf_alike hZ.alike Aru43.2.1) (g := (mkF m 64 #[.val (.ref a1), .val (.ref b5), .unset] [(.ref b5), (.int (Int32.ofNat (2 * cp))), (.ref b19), (.int (0 : Int32)), (.ref b5)])) rfl rfl (hb hby d6_64) t9 (by rw [len_of Su43 Nu43]; exact k9)) ?_
  obtain ⟨T44, h44, Lc44, X44, e44, N44, Kq44, V44, st44⟩ := cpA X42 hx hZ hown (hw _ (List.mem_of_getElem? (i := 58) rfl)) (hw _ (List.mem_of_getElem? (i := 54) rfl)) (hw _ (List.mem_of_getElem? (i := 52) rfl)) (hw _ (List.mem_of_getElem? (i := 53) rfl)) e42 (sp := (0 : Int32)) (dp := (Int32.ofNat (2 * cp))) (nn := (Int32.ofNat cp)) (us := ((List.range cp).map fun i => vb5.getD (0 + i) (.double 0))) Vq5_40 Vq34 (Or.inl ⟨rfl, rfl⟩) (by decide) e2' c2 (by rw [c1]; show 0 + cp ≤ cp; omega) (by rw [c1, e1', f1']; omega) (by rw [c1]; rfl) (by rw [c1, e1', hf34.1]; omega) N34 g_b19 (g := (mkF m 65 #[.val (.ref a1), .val (.ref b5), .unset] [(.int (Int32.ofNat cp)), (.int (Int32.ofNat (2 * cp))), (.ref b19), (.int (0 : Int32)), (.ref b5)])) rfl (by rw [hml]; rfl) rfl (hb hby d6_65) (by decide) (W := 0) (by show 2 * 0 + _ ≤ _; exact Nat.le_of_eq rfl) (by decide)
  have E1_45 := E1_35.keep Kq44
  have Fw26_46 := Fw26_36.keep Kq44 (ninS ne_a1_b19 nin0)
  have Fw12_47 := Fw12_37.keep Kq44 (ninS ne_a1_b19 nin0)
  have F3_48 := F3_38.keep Kq44 (ninS ne_a1_b19 nin0)
  have V1_49 := V1_39.keep Kq44 (ninS ne_d1_b19 nin0)
  have Vq5_50 := Vq5_40.keep Kq44 (ninS ne_b5_b19 nin0)
  have K44 := K34.trans Kq44 (allS (Or.inr sz_b19) all0)
  have Z44 : n0 ≤ h44.size := Nat.le_trans Z34 Kq44.1
  refine own_st (T' := T44) (g' := (mkF m 68 #[.val (.ref a1), .val (.ref b5), .unset] [])) (fun t9 k9 => st44 t9 k9) ?_
  have hcp := own_D.copy hf34 (own_D.part hv5 0 cp (by omega)) (2 * cp) (by omega)
  rw [c1, e1'] at V44
  refine own_st (T' := T44) (g' := (mkF m 69 #[.val (.ref a1), .val (.ref b5), .unset] [(.ref a1)])) (fun t9 k9 => XS.aloadN X44.here hx rfl (hb hby d6_68) rfl rfl k9) ?_
  obtain ⟨T51, X51, e51, st51⟩ := getF X44 hx hZ hown (host := "") (Or.inl (hw _ (List.mem_of_getElem? (i := 13) rfl))) Via.refl e44 Fw12_47 (g := (mkF m 69 #[.val (.ref a1), .val (.ref b5), .unset] [(.ref a1)])) rfl rfl (hb hby d6_69)
  refine own_st (T' := T51) (g' := (mkF m 72 #[.val (.ref a1), .val (.ref b5), .unset] [(.int (Int32.ofNat (2 * cp)))])) (fun t9 k9 => st51 t9 k9) ?_
  refine own_st (T' := T51) (g' := (mkF m 73 #[.val (.ref a1), .val (.ref b5), .unset] [(.int (1 : Int32)), (.int (Int32.ofNat (2 * cp)))])) (fun t9 k9 => XS.iconst X51.here hx rfl (hb hby d6_72) k9) ?_
  refine own_st (T' := T51) (g' := (mkF m 74 #[.val (.ref a1), .val (.ref b5), .unset] [(.int ((Int32.ofNat (2 * cp)) - (1 : Int32)))])) (fun t9 k9 => XS.isub X51.here hx rfl (hb hby d6_73) rfl k9) ?_
  rw [show (1 : Int32) = Int32.ofNat 1 from rfl, own_sub (i := 2 * cp) (j := 1) (by omega)]
  refine own_st (T' := T51) (g' := (mkF m 75 #[.val (.ref a1), .val (.ref b5), .val (.int (Int32.ofNat (2 * cp - 1)))] [])) (fun t9 k9 => XS.istoreN X51.here hx rfl (hb hby d6_74) rfl (l' := #[.val (.ref a1), .val (.ref b5), .val (.int (Int32.ofNat (2 * cp - 1)))]) rfl k9) ?_
  have lp : ∀ (k : Nat) (T52 : State) (L52 : List Loc) (h52 : Heap) (nd : Nat) (vq : List Value) (fq : Nat → UInt64), Stand p l e ({ frames := 3, cells := 2, slots := 10, locals := 100 } : Room) s m #[(.ref a1)] below meth c T52 L52 ((0 + 1) + 1) ((0 + 2) + 8) → T52.heap = h52 → Fr n0 L52 → (n0 ≤ h52.size) → (Keep h0 h52 [a1]) → (Exa Z h52 a1 "com/example/shelfwright/shelfwright/packers/FirstFit") → (Fld Z h52 a1 "com/example/shelfwright/shelfwright/packers/FirstFit" "largestKey" "[D" (.ref b19)) → (Fld Z h52 a1 "com/example/shelfwright/shelfwright/packers/FirstFit" "capacity" "I" (.int (Int32.ofNat (2 * cp)))) → (Fld Z h52 a1 "com/example/shelfwright/shelfwright/packers/FirstFit" "count" "I" (.int (Int32.ofNat cp))) → (Arv Z h52 b19 k19 .double (Int32.ofNat (2 * (2 * cp))) vq (.double 0)) → (nd ≤ k) → (nd < 2 * cp) → (own_D vq (2 * (2 * cp)) fq) → (∀ i, i < cp → fq (2 * cp + i) = f (cp + i)) → own_Go p e below F T52 (mkF m 75 #[.val (.ref a1), .val (.ref b5), .val (.int (Int32.ofNat nd))] []) := by
    intro k
    induction k with
    | zero =>
      intro T52 L52 h52 nd vq fq X52 e52 N52 Z52 K52 E9 FlargestKey9 Fcapacity9 Fcount9 V9 hk hnd hq hkp
      obtain rfl : nd = 0 := by omega
      show own_Go p e below F T52 (mkF m 75 #[.val (.ref a1), .val (.ref b5), .val (.int (Int32.ofNat 0))] [])
      refine own_st (T' := T52) (g' := (mkF m 76 #[.val (.ref a1), .val (.ref b5), .val (.int (Int32.ofNat 0))] [(.int (Int32.ofNat 0))])) (fun t9 k9 => XS.iloadN X52.here hx rfl (hb hby d6_75) rfl k9) ?_
      refine own_st (T' := T52) (g' := (mkF m 112 #[.val (.ref a1), .val (.ref b5), .val (.int (Int32.ofNat 0))] [])) (fun t9 k9 => XS.ifYes X52.here hx rfl (pc0 := 76) (pc' := 112) rfl (hb hby d6_76) rfl ((if0 _ _).trans (flt (by decide)).2.2.2) (by decide) (by decide) k9) ?_
      refine own_ret (v := none) hF X52 (fun _ => rfl) hlk (fun fs hr => X52.returnOut hx hret (hb hby d6_112) hr) ?_ (by decide) (by decide)
      try rw [e52]
      exact ⟨b19, _, _, fq, rfl, N52, K52, sz_b19, g_b19, E9, FlargestKey9, Fcapacity9, Fcount9, V9, hq, hkp⟩
    | succ k ih =>
      intro T52 L52 h52 nd vq fq X52 e52 N52 Z52 K52 E9 FlargestKey9 Fcapacity9 Fcount9 V9 hk hnd hq hkp
      by_cases h0d : nd = 0
      · subst h0d
        show own_Go p e below F T52 (mkF m 75 #[.val (.ref a1), .val (.ref b5), .val (.int (Int32.ofNat 0))] [])
        refine own_st (T' := T52) (g' := (mkF m 76 #[.val (.ref a1), .val (.ref b5), .val (.int (Int32.ofNat 0))] [(.int (Int32.ofNat 0))])) (fun t9 k9 => XS.iloadN X52.here hx rfl (hb hby d6_75) rfl k9) ?_
        refine own_st (T' := T52) (g' := (mkF m 112 #[.val (.ref a1), .val (.ref b5), .val (.int (Int32.ofNat 0))] [])) (fun t9 k9 => XS.ifYes X52.here hx rfl (pc0 := 76) (pc' := 112) rfl (hb hby d6_76) rfl ((if0 _ _).trans (flt (by decide)).2.2.2) (by decide) (by decide) k9) ?_
        refine own_ret (v := none) hF X52 (fun _ => rfl) hlk (fun fs hr => X52.returnOut hx hret (hb hby d6_112) hr) ?_ (by decide) (by decide)
        try rw [e52]
        exact ⟨b19, _, _, fq, rfl, N52, K52, sz_b19, g_b19, E9, FlargestKey9, Fcapacity9, Fcount9, V9, hq, hkp⟩
      · obtain ⟨a1', a2'⟩ := own_nat (i := nd) (by omega)
        obtain ⟨b1', b2'⟩ := own_nat (i := 2 * nd) (by omega)
        obtain ⟨c1', c2'⟩ := own_nat (i := 2 * nd + 1) (by omega)
        refine own_st (T' := T52) (g' := (mkF m 76 #[.val (.ref a1), .val (.ref b5), .val (.int (Int32.ofNat nd))] [(.int (Int32.ofNat nd))])) (fun t9 k9 => XS.iloadN X52.here hx rfl (hb hby d6_75) rfl k9) ?_
        refine own_st (T' := T52) (g' := (mkF m 79 #[.val (.ref a1), .val (.ref b5), .val (.int (Int32.ofNat nd))] [])) (fun t9 k9 => XS.ifNo X52.here hx rfl (hb hby d6_76) rfl ((if0 _ _).trans (tlt (own_lt (i := 0) (by omega) (by omega))).2.2.2) k9) ?_
        refine own_st (T' := T52) (g' := (mkF m 80 #[.val (.ref a1), .val (.ref b5), .val (.int (Int32.ofNat nd))] [(.ref a1)])) (fun t9 k9 => XS.aloadN X52.here hx rfl (hb hby d6_79) rfl rfl k9) ?_
        obtain ⟨T53, X53, e53, st53⟩ := getF X52 hx hZ hown (host := "") (Or.inl (hw _ (List.mem_of_getElem? (i := 11) rfl))) Via.refl e52 FlargestKey9 (g := (mkF m 80 #[.val (.ref a1), .val (.ref b5), .val (.int (Int32.ofNat nd))] [(.ref a1)])) rfl rfl (hb hby d6_80)
        refine own_st (T' := T53) (g' := (mkF m 83 #[.val (.ref a1), .val (.ref b5), .val (.int (Int32.ofNat nd))] [(.ref b19)])) (fun t9 k9 => st53 t9 k9) ?_
        refine own_st (T' := T53) (g' := (mkF m 84 #[.val (.ref a1), .val (.ref b5), .val (.int (Int32.ofNat nd))] [(.int (Int32.ofNat nd)), (.ref b19)])) (fun t9 k9 => XS.iloadN X53.here hx rfl (hb hby d6_83) rfl k9) ?_
        refine own_st (T' := T53) (g' := (mkF m 85 #[.val (.ref a1), .val (.ref b5), .val (.int (Int32.ofNat nd))] [(.ref a1), (.int (Int32.ofNat nd)), (.ref b19)])) (fun t9 k9 => XS.aloadN X53.here hx rfl (hb hby d6_84) rfl rfl k9) ?_
        obtain ⟨T54, X54, e54, st54⟩ := getF X53 hx hZ hown (host := "") (Or.inl (hw _ (List.mem_of_getElem? (i := 11) rfl))) Via.refl e53 FlargestKey9 (g := (mkF m 85 #[.val (.ref a1), .val (.ref b5), .val (.int (Int32.ofNat nd))] [(.ref a1), (.int (Int32.ofNat nd)), (.ref b19)])) rfl rfl (hb hby d6_85)
        refine own_st (T' := T54) (g' := (mkF m 88 #[.val (.ref a1), .val (.ref b5), .val (.int (Int32.ofNat nd))] [(.ref b19), (.int (Int32.ofNat nd)), (.ref b19)])) (fun t9 k9 => st54 t9 k9) ?_
        refine own_st (T' := T54) (g' := (mkF m 89 #[.val (.ref a1), .val (.ref b5), .val (.int (Int32.ofNat nd))] [(.int (2 : Int32)), (.ref b19), (.int (Int32.ofNat nd)), (.ref b19)])) (fun t9 k9 => XS.iconst X54.here hx rfl (hb hby d6_88) k9) ?_
        refine own_st (T' := T54) (g' := (mkF m 90 #[.val (.ref a1), .val (.ref b5), .val (.int (Int32.ofNat nd))] [(.int (Int32.ofNat nd)), (.int (2 : Int32)), (.ref b19), (.int (Int32.ofNat nd)), (.ref b19)])) (fun t9 k9 => XS.iloadN X54.here hx rfl (hb hby d6_89) rfl k9) ?_
        refine own_st (T' := T54) (g' := (mkF m 91 #[.val (.ref a1), .val (.ref b5), .val (.int (Int32.ofNat nd))] [(.int ((2 : Int32) * (Int32.ofNat nd))), (.ref b19), (.int (Int32.ofNat nd)), (.ref b19)])) (fun t9 k9 => XS.imul X54.here hx rfl (hb hby d6_90) rfl k9) ?_
        rw [own_twice]
        obtain ⟨clu55, Aru55, qu55, Su55, Nu55, Hu55, Gu55⟩ := (id V9)
        have hinu55 := inb_of Su55 (j := (Int32.ofNat (2 * nd))) ⟨b2', own_lt (by omega) (by omega)⟩
        refine own_st (T' := T54) (g' := (mkF m 92 #[.val (.ref a1), .val (.ref b5), .val (.int (Int32.ofNat nd))] [(.double (fq (2 * nd))), (.int (Int32.ofNat nd)), (.ref b19)])) (fun t9 k9 => X54.daload hx (j := (Int32.ofNat (2 * nd))) (v := (.double (fq (2 * nd)))) (by rw [e54]; exact Aru55.1) (State.isArrayOf_alike hZ.alike Aru55.2.1) Aru55.2.2 hinu55 (Hu55.at hinu55 (by rw [b1']; exact (hq.2 _ (by omega)).1)) (g := (mkF m 91 #[.val (.ref a1), .val (.ref b5), .val (.int (Int32.ofNat nd))] [(.int (Int32.ofNat (2 * nd))), (.ref b19), (.int (Int32.ofNat nd)), (.ref b19)])) rfl rfl (hb hby d6_91) t9 k9) ?_
        refine own_st (T' := T54) (g' := (mkF m 93 #[.val (.ref a1), .val (.ref b5), .val (.int (Int32.ofNat nd))] [(.ref a1), (.double (fq (2 * nd))), (.int (Int32.ofNat nd)), (.ref b19)])) (fun t9 k9 => XS.aloadN X54.here hx rfl (hb hby d6_92) rfl rfl k9) ?_
        obtain ⟨T56, X56, e56, st56⟩ := getF X54 hx hZ hown (host := "") (Or.inl (hw _ (List.mem_of_getElem? (i := 11) rfl))) Via.refl e54 FlargestKey9 (g := (mkF m 93 #[.val (.ref a1), .val (.ref b5), .val (.int (Int32.ofNat nd))] [(.ref a1), (.double (fq (2 * nd))), (.int (Int32.ofNat nd)), (.ref b19)])) rfl rfl (hb hby d6_93)
        refine own_st (T' := T56) (g' := (mkF m 96 #[.val (.ref a1), .val (.ref b5), .val (.int (Int32.ofNat nd))] [(.ref b19), (.double (fq (2 * nd))), (.int (Int32.ofNat nd)), (.ref b19)])) (fun t9 k9 => st56 t9 k9) ?_
        refine own_st (T' := T56) (g' := (mkF m 97 #[.val (.ref a1), .val (.ref b5), .val (.int (Int32.ofNat nd))] [(.int (2 : Int32)), (.ref b19), (.double (fq (2 * nd))), (.int (Int32.ofNat nd)), (.ref b19)])) (fun t9 k9 => XS.iconst X56.here hx rfl (hb hby d6_96) k9) ?_
        refine own_st (T' := T56) (g' := (mkF m 98 #[.val (.ref a1), .val (.ref b5), .val (.int (Int32.ofNat nd))] [(.int (Int32.ofNat nd)), (.int (2 : Int32)), (.ref b19), (.double (fq (2 * nd))), (.int (Int32.ofNat nd)), (.ref b19)])) (fun t9 k9 => XS.iloadN X56.here hx rfl (hb hby d6_97) rfl k9) ?_
        refine own_st (T' := T56) (g' := (mkF m 99 #[.val (.ref a1), .val (.ref b5), .val (.int (Int32.ofNat nd))] [(.int ((2 : Int32) * (Int32.ofNat nd))), (.ref b19), (.double (fq (2 * nd))), (.int (Int32.ofNat nd)), (.ref b19)])) (fun t9 k9 => XS.imul X56.here hx rfl (hb hby d6_98) rfl k9) ?_
        rw [own_twice]
        refine own_st (T' := T56) (g' := (mkF m 100 #[.val (.ref a1), .val (.ref b5), .val (.int (Int32.ofNat nd))] [(.int (1 : Int32)), (.int (Int32.ofNat (2 * nd))), (.ref b19), (.double (fq (2 * nd))), (.int (Int32.ofNat nd)), (.ref b19)])) (fun t9 k9 => XS.iconst X56.here hx rfl (hb hby d6_99) k9) ?_
        refine own_st (T' := T56) (g' := (mkF m 101 #[.val (.ref a1), .val (.ref b5), .val (.int (Int32.ofNat nd))] [(.int ((Int32.ofNat (2 * nd)) + (1 : Int32))), (.ref b19), (.double (fq (2 * nd))), (.int (Int32.ofNat nd)), (.ref b19)])) (fun t9 k9 => XS.iadd X56.here hx rfl (hb hby d6_100) rfl k9) ?_
        rw [own_one (2 * nd)]
        obtain ⟨clu57, Aru57, qu57, Su57, Nu57, Hu57, Gu57⟩ := (id V9)
        have hinu57 := inb_of Su57 (j := (Int32.ofNat (2 * nd + 1))) ⟨c2', own_lt (by omega) (by omega)⟩
        refine own_st (T' := T56) (g' := (mkF m 102 #[.val (.ref a1), .val (.ref b5), .val (.int (Int32.ofNat nd))] [(.double (fq (2 * nd + 1))), (.double (fq (2 * nd))), (.int (Int32.ofNat nd)), (.ref b19)])) (fun t9 k9 => X56.daload hx (j := (Int32.ofNat (2 * nd + 1))) (v := (.double (fq (2 * nd + 1)))) (by rw [e56]; exact Aru57.1) (State.isArrayOf_alike hZ.alike Aru57.2.1) Aru57.2.2 hinu57 (Hu57.at hinu57 (by rw [c1']; exact (hq.2 _ (by omega)).1)) (g := (mkF m 101 #[.val (.ref a1), .val (.ref b5), .val (.int (Int32.ofNat nd))] [(.int (Int32.ofNat (2 * nd + 1))), (.ref b19), (.double (fq (2 * nd))), (.int (Int32.ofNat nd)), (.ref b19)])) rfl rfl (hb hby d6_101) t9 k9) ?_
        have na := (hq.2 (2 * nd) (by omega)).2
        have nb := (hq.2 (2 * nd + 1) (by omega)).2
        have hcm58 := mvT (args := #[(.ref a1)]) hZ (hw _ (List.mem_of_getElem? (i := 61) rfl))
        rw [own_maxcode] at hcm58
        obtain ⟨_, vm58, B58, -, X58, ⟨rfl, hB58⟩, st58⟩ := Jvm.LawKit.callS X56 hx (y := Jvm.Free.Fl.Abs.maxDN) hown (mvT hZ (hw _ (List.mem_of_getElem? (i := 59) rfl))) (mvT hZ (hw _ (List.mem_of_getElem? (i := 60) rfl))) (mvT hZ (hw _ (List.mem_of_getElem? (i := 49) rfl))) hcm58 (by decide) (Jvm.Free.Fl.Abs.maxD_pays (W := 2) (fq (2 * nd)) (fq (2 * nd + 1)) hcm58 (by decide) (by decide)) (g := (mkF m 102 #[.val (.ref a1), .val (.ref b5), .val (.int (Int32.ofNat nd))] [(.double (fq (2 * nd + 1))), (.double (fq (2 * nd))), (.int (Int32.ofNat nd)), (.ref b19)])) rfl (by rw [hml]; rfl) (argsL := [(.double (fq (2 * nd))), (.double (fq (2 * nd + 1)))]) (rest := [(.int (Int32.ofNat nd)), (.ref b19)]) (lenOf pd_9 rfl) rfl (by show 2 * 0 + _ ≤ _; exact Nat.le_of_eq rfl) (hb hby d6_102) (fun _ _ => ⟨(Nat.le_of_ble_eq_true rfl), (Nat.le_of_ble_eq_true rfl), rfl, na, nb⟩)
        subst hB58
        dsimp only [Pt.U, Pt.locs, Pt.cells, Pt.slots] at X58 st58
        obtain ⟨T58, hT58⟩ : ∃ z, z = T56.setVm vm58 := ⟨_, rfl⟩
        rw [← hT58] at X58 st58
        have e58 : T58.heap = h52 := by rw [hT58]; exact e56
        refine own_st (T' := T58) (g' := (mkF m 105 #[.val (.ref a1), .val (.ref b5), .val (.int (Int32.ofNat nd))] [(.double (Jvm.Native.java_lang_Math.nans.pick64 true (fq (2 * nd)) (fq (2 * nd + 1)))), (.int (Int32.ofNat nd)), (.ref b19)])) (fun t9 k9 => st58 t9 k9) ?_
        obtain ⟨clu59, Aru59, qu59, Su59, Nu59, Hu59, Gu59⟩ := (id V9)
        obtain ⟨T60, h60, X60, e60, W60, st60⟩ := stD X58 hx hZ e58 Aru59 (j := (Int32.ofNat nd)) (inb_of Su59 ⟨a2', own_lt (by omega) (by omega)⟩) (g := (mkF m 105 #[.val (.ref a1), .val (.ref b5), .val (.int (Int32.ofNat nd))] [(.double (Jvm.Native.java_lang_Math.nans.pick64 true (fq (2 * nd)) (fq (2 * nd + 1)))), (.int (Int32.ofNat nd)), (.ref b19)])) rfl rfl (hb hby d6_105)
        have Va60 := Arv.set Aru59 qu59 Su59 Nu59 Hu59 Gu59 rfl W60 nd a1' (by rw [hq.1]; omega)
        have E9_61 := E9.wr W60
        have FlargestKey9_62 := FlargestKey9.other W60 (Or.inl ne_a1_b19)
        have Fcapacity9_63 := Fcapacity9.other W60 (Or.inl ne_a1_b19)
        have Fcount9_64 := Fcount9.other W60 (Or.inl ne_a1_b19)
        have K60 := K52.wr W60 (Or.inr sz_b19)
        have N60 := Fr.snoc X60 N52 g_b19
        have Z60 : n0 ≤ h60.size := by rw [W60.size]; exact Z52
        refine own_st (T' := T60) (g' := (mkF m 106 #[.val (.ref a1), .val (.ref b5), .val (.int (Int32.ofNat nd))] [])) (fun t9 k9 => st60 t9 k9) ?_
        refine own_st (T' := T60) (g' := (mkF m 109 #[.val (.ref a1), .val (.ref b5), .val (.int ((Int32.ofNat nd) + (-1 : Int32)))] [])) (fun t9 k9 => XS.iinc X60.here hx rfl (hb hby d6_106) rfl (l' := #[.val (.ref a1), .val (.ref b5), .val (.int ((Int32.ofNat nd) + (-1 : Int32)))]) rfl k9) ?_
        rw [show Int32.ofNat nd + (-1 : Int32) = Int32.ofNat (nd - 1) from (by have q := own_sub (i := nd) (j := 1) (by omega); rw [Int32.sub_eq_add_neg] at q; exact q)]
        refine own_st (T' := T60) (g' := (mkF m 75 #[.val (.ref a1), .val (.ref b5), .val (.int (Int32.ofNat (nd - 1)))] [])) (fun t9 k9 => XS.goto X60.here hx rfl (pc0 := 109) (pc' := 75) rfl (hb hby d6_109) (by decide) (by decide) k9) ?_
        exact ih _ _ _ (nd - 1) _ _ X60 e60 N60 Z60 K60 E9_61 FlargestKey9_62 Fcapacity9_63 Fcount9_64 Va60 (by omega) (by omega) (hq.set nd _ (by omega) (own_pick na nb)) (fun i hi => by
              show (if 2 * cp + i = nd then _ else fq (2 * cp + i)) = _
              rw [if_neg (by omega)]; exact hkp i hi)
  exact lp (2 * cp - 1) _ _ _ (2 * cp - 1) _ _ X51 e51 N44 Z44 K44 E1_45 Fw26_46 Fw12_47 F3_48 V44 (Nat.le_refl _) (by omega) hcp (fun i hi => by
        show (if 2 * cp ≤ 2 * cp + i ∧ 2 * cp + i < 2 * cp + cp then _ else _) = _
        rw [if_pos ⟨by omega, by omega⟩]
        show f (cp + (0 + (2 * cp + i - 2 * cp))) = _
        congr 1; omega)
theorem d3_0 : decode prog_77_method_2_code 0 = .ok (.aload_n 0, 1) := by decide +kernel
theorem d3_1 : decode prog_77_method_2_code 1 = .ok (.getfield 21, 3) := by decide +kernel
theorem d3_4 : decode prog_77_method_2_code 4 = .ok (.aload_n 0, 1) := by decide +kernel
theorem d3_5 : decode prog_77_method_2_code 5 = .ok (.getfield 17, 3) := by decide +kernel
theorem d3_8 : decode prog_77_method_2_code 8 = .ok (.if_icmp .ne 7, 3) := by decide +kernel
theorem d3_11 : decode prog_77_method_2_code 11 = .ok (.aload_n 0, 1) := by decide +kernel
theorem d3_12 : decode prog_77_method_2_code 12 = .ok (.invokevirtual 24, 3) := by decide +kernel
theorem d3_15 : decode prog_77_method_2_code 15 = .ok (.aload_n 0, 1) := by decide +kernel
theorem d3_16 : decode prog_77_method_2_code 16 = .ok (.dup, 1) := by decide +kernel
theorem d3_17 : decode prog_77_method_2_code 17 = .ok (.getfield 21, 3) := by decide +kernel
theorem d3_20 : decode prog_77_method_2_code 20 = .ok (.iconst 1, 1) := by decide +kernel
theorem d3_21 : decode prog_77_method_2_code 21 = .ok (.iadd, 1) := by decide +kernel
theorem d3_22 : decode prog_77_method_2_code 22 = .ok (.putfield 21, 3) := by decide +kernel
theorem d3_25 : decode prog_77_method_2_code 25 = .ok (.aload_n 0, 1) := by decide +kernel
theorem d3_26 : decode prog_77_method_2_code 26 = .ok (.aload_n 0, 1) := by decide +kernel
theorem d3_27 : decode prog_77_method_2_code 27 = .ok (.getfield 21, 3) := by decide +kernel
theorem d3_30 : decode prog_77_method_2_code 30 = .ok (.iconst 1, 1) := by decide +kernel
theorem d3_31 : decode prog_77_method_2_code 31 = .ok (.isub, 1) := by decide +kernel
theorem d3_32 : decode prog_77_method_2_code 32 = .ok (.dload_n 1, 1) := by decide +kernel
theorem d3_33 : decode prog_77_method_2_code 33 = .ok (.invokevirtual 27, 3) := by decide +kernel
theorem d3_36 : decode prog_77_method_2_code 36 = .ok (.aload_n 0, 1) := by decide +kernel
theorem d3_37 : decode prog_77_method_2_code 37 = .ok (.getfield 21, 3) := by decide +kernel
theorem d3_40 : decode prog_77_method_2_code 40 = .ok (.iconst 1, 1) := by decide +kernel
theorem d3_41 : decode prog_77_method_2_code 41 = .ok (.isub, 1) := by decide +kernel
theorem d3_42 : decode prog_77_method_2_code 42 = .ok (.ireturn, 1) := by decide +kernel
theorem pn_3 : plainFor (⟨"com/example/shelfwright/shelfwright/packers/FirstFit", "add", "(D)I"⟩ : MethodName) = true := plainFor_of_name (by first | (simp [plainName, overriddenIn]; done) | decide +kernel)
set_option maxRecDepth 65536 in
set_option maxHeartbeats 40000000 in
theorem rm3 (l : Launch) (Z : State) (a0 : Array Value) (hw : ∀ d ∈ tables_1, d.before a0 Z = true) (a1 d1 : Addr) (k1 : ClassId) (vs : List Value) (f : Nat → UInt64) (cp kt : Nat) (d2 : UInt64) (h0 : Heap) (n0 : Nat) (Z0 : n0 ≤ h0.size) (E1 : Exa Z h0 a1 "com/example/shelfwright/shelfwright/packers/FirstFit") (F1 : Fld Z h0 a1 "com/example/shelfwright/shelfwright/packers/FirstFit" "largestKey" "[D" (.ref d1)) (F2 : Fld Z h0 a1 "com/example/shelfwright/shelfwright/packers/FirstFit" "capacity" "I" (.int (Int32.ofNat cp))) (F3 : Fld Z h0 a1 "com/example/shelfwright/shelfwright/packers/FirstFit" "count" "I" (.int (Int32.ofNat kt))) (V1 : Arv Z h0 d1 k1 .double (Int32.ofNat (2 * cp)) vs (.double 0)) (hD : own_D vs (2 * cp) f) (hc0 : 1 ≤ cp) (hc : cp ≤ 4) (hkt : kt ≤ cp) (hfull : kt = cp → cp ≤ 2) (g_a1 : n0 ≤ a1) (g_d1 : n0 ≤ d1) (hne : d1 ≠ a1) (hd2 : own_NN d2) :
    own_Met l Z (⟨"com/example/shelfwright/shelfwright/packers/FirstFit", "add", "(D)I"⟩ : MethodName) prog_77_method_2_code 3 (some .int) ({ frames := 4, cells := 2, slots := 10, locals := 130 } : Room) #[(.ref a1), (.double d2)] h0 (fun v h L => ∃ (d : Addr) (kd : ClassId) (vq : List Value) (fq : Nat → UInt64) (cq : Nat) (z : Int32), v = some (.int z) ∧ Fr n0 L ∧ Keep h0 h [a1, d1] ∧ (d = d1 ∨ h0.size ≤ d) ∧ n0 ≤ d ∧ d ≠ a1 ∧ Exa Z h a1 "com/example/shelfwright/shelfwright/packers/FirstFit" ∧ Fld Z h a1 "com/example/shelfwright/shelfwright/packers/FirstFit" "largestKey" "[D" (.ref d) ∧ Fld Z h a1 "com/example/shelfwright/shelfwright/packers/FirstFit" "capacity" "I" (.int (Int32.ofNat cq)) ∧ Fld Z h a1 "com/example/shelfwright/shelfwright/packers/FirstFit" "count" "I" (.int (Int32.ofNat (kt + 1))) ∧ Arv Z h d kd .double (Int32.ofNat (2 * cq)) vq (.double 0) ∧ own_D vq (2 * cq) fq ∧ cq ≤ 4 ∧ kt + 1 ≤ cq ∧ (cq = cp ∨ (kt = cp ∧ cq = 2 * cp)) ∧ (∀ i, i < kt → fq (cq + i) = f (cp + i)) ∧ fq (cq + kt) = d2) := by
  refine own_body pn_3 ?_
  intro p e s m below meth c T0 hZ hx hby hml hown hnm hret hlk X0 e0 F hF
  have N0 := Fr.nil n0
  have K0 := Keep.refl h0 [a1, d1]
  refine own_cast (g' := (mkF m 0 #[.val (.ref a1), .val (.double d2), .second] [])) (by first | (simp [entryFrame, mkF, argsToLocals, Value.category]; done) | rfl) ?_
  refine own_st (T' := T0) (g' := (mkF m 1 #[.val (.ref a1), .val (.double d2), .second] [(.ref a1)])) (fun t9 k9 => XS.aloadN X0.here hx rfl (hb hby d3_0) rfl rfl k9) ?_
  obtain ⟨T1, X1, e1, st1⟩ := getF X0 hx hZ hown (host := "") (Or.inl (hw _ (List.mem_of_getElem? (i := 20) rfl))) Via.refl e0 F3 (g := (mkF m 1 #[.val (.ref a1), .val (.double d2), .second] [(.ref a1)])) rfl rfl (hb hby d3_1)
  refine own_st (T' := T1) (g' := (mkF m 4 #[.val (.ref a1), .val (.double d2), .second] [(.int (Int32.ofNat kt))])) (fun t9 k9 => st1 t9 k9) ?_
  refine own_st (T' := T1) (g' := (mkF m 5 #[.val (.ref a1), .val (.double d2), .second] [(.ref a1), (.int (Int32.ofNat kt))])) (fun t9 k9 => XS.aloadN X1.here hx rfl (hb hby d3_4) rfl rfl k9) ?_
  obtain ⟨T2, X2, e2, st2⟩ := getF X1 hx hZ hown (host := "") (Or.inl (hw _ (List.mem_of_getElem? (i := 13) rfl))) Via.refl e1 F2 (g := (mkF m 5 #[.val (.ref a1), .val (.double d2), .second] [(.ref a1), (.int (Int32.ofNat kt))])) rfl rfl (hb hby d3_5)
  refine own_st (T' := T2) (g' := (mkF m 8 #[.val (.ref a1), .val (.double d2), .second] [(.int (Int32.ofNat cp)), (.int (Int32.ofNat kt))])) (fun t9 k9 => st2 t9 k9) ?_
  have j15 : ∀ (T3 : State) (L3 : List Loc) (h3 : Heap) (dd : Addr) (kd : ClassId) (vq : List Value) (fq : Nat → UInt64) (cq : Nat), Stand p l e ({ frames := 4, cells := 2, slots := 10, locals := 130 } : Room) s m #[(.ref a1), (.double d2)] below meth c T3 L3 (2) (10) → T3.heap = h3 → Fr n0 L3 → (n0 ≤ h3.size) → (Keep h0 h3 [a1, d1]) → (Exa Z h3 a1 "com/example/shelfwright/shelfwright/packers/FirstFit") → (Fld Z h3 a1 "com/example/shelfwright/shelfwright/packers/FirstFit" "largestKey" "[D" (.ref dd)) → (Fld Z h3 a1 "com/example/shelfwright/shelfwright/packers/FirstFit" "capacity" "I" (.int (Int32.ofNat cq))) → (Fld Z h3 a1 "com/example/shelfwright/shelfwright/packers/FirstFit" "count" "I" (.int (Int32.ofNat kt))) → (Arv Z h3 dd kd .double (Int32.ofNat (2 * cq)) vq (.double 0)) → (own_D vq (2 * cq) fq) → (cq ≤ 4) → (kt < cq) → (cq = cp ∨ (kt = cp ∧ cq = 2 * cp)) → (dd = d1 ∨ h0.size ≤ dd) → (n0 ≤ dd) → (dd ≠ a1) → (∀ i, i < kt → fq (cq + i) = f (cp + i)) → own_Go p e below F T3 (mkF m 15 #[.val (.ref a1), .val (.double d2), .second] []) := by
    intro T3 L3 h3 dd kd vq fq cq X3 e3 N3 Z3 K3 E9 FlargestKey9 Fcapacity9 Fcount9 V9 hq hcq hkq hcc hdd g_dd hna hkp
    refine own_st (T' := T3) (g' := (mkF m 16 #[.val (.ref a1), .val (.double d2), .second] [(.ref a1)])) (fun t9 k9 => XS.aloadN X3.here hx rfl (hb hby d3_15) rfl rfl k9) ?_
    refine own_st (T' := T3) (g' := (mkF m 17 #[.val (.ref a1), .val (.double d2), .second] [(.ref a1), (.ref a1)])) (fun t9 k9 => XS.dup X3.here hx rfl (hb hby d3_16) rfl rfl k9) ?_
    obtain ⟨T4, X4, e4, st4⟩ := getF X3 hx hZ hown (host := "") (Or.inl (hw _ (List.mem_of_getElem? (i := 20) rfl))) Via.refl e3 Fcount9 (g := (mkF m 17 #[.val (.ref a1), .val (.double d2), .second] [(.ref a1), (.ref a1)])) rfl rfl (hb hby d3_17)
    refine own_st (T' := T4) (g' := (mkF m 20 #[.val (.ref a1), .val (.double d2), .second] [(.int (Int32.ofNat kt)), (.ref a1)])) (fun t9 k9 => st4 t9 k9) ?_
    refine own_st (T' := T4) (g' := (mkF m 21 #[.val (.ref a1), .val (.double d2), .second] [(.int (1 : Int32)), (.int (Int32.ofNat kt)), (.ref a1)])) (fun t9 k9 => XS.iconst X4.here hx rfl (hb hby d3_20) k9) ?_
    refine own_st (T' := T4) (g' := (mkF m 22 #[.val (.ref a1), .val (.double d2), .second] [(.int ((Int32.ofNat kt) + (1 : Int32))), (.ref a1)])) (fun t9 k9 => XS.iadd X4.here hx rfl (hb hby d3_21) rfl k9) ?_
    rw [own_one kt]
    obtain ⟨T5, h5, X5, e5, W5, st5⟩ := putF X4 hx hZ hown (host := "") (Or.inl (hw _ (List.mem_of_getElem? (i := 20) rfl))) Via.refl e4 Fcount9 E9 (Or.inl (hw _ (List.mem_of_getElem? (i := 21) rfl))) (hw _ (List.mem_of_getElem? (i := 2) rfl)) (ty := .int) (by decide) rfl rfl (g := (mkF m 22 #[.val (.ref a1), .val (.double d2), .second] [(.int (Int32.ofNat (kt + 1))), (.ref a1)])) rfl rfl (hb hby d3_22)
    have Fw5 := Fcount9.same W5
    have E9_6 := E9.wr W5
    have FlargestKey9_7 := FlargestKey9.other W5 (Or.inr (slot_ne (Or.inl (hw _ (List.mem_of_getElem? (i := 12) rfl))) (Or.inl (hw _ (List.mem_of_getElem? (i := 21) rfl))) (by decide) (t := (.array .double)) (t' := .int) (by decide) (by decide)))
    have Fcapacity9_8 := Fcapacity9.other W5 (Or.inr (slot_ne (Or.inl (hw _ (List.mem_of_getElem? (i := 14) rfl))) (Or.inl (hw _ (List.mem_of_getElem? (i := 21) rfl))) (by decide) (t := .int) (t' := .int) (by decide) (by decide)))
    have V9_9 := V9.other W5 hna
    have K5 := K3.wr W5 (Or.inl (by simp))
    have N5 := Fr.snoc X5 N3 g_a1
    have Z5 : n0 ≤ h5.size := by rw [W5.size]; exact Z3
    refine own_st (T' := T5) (g' := (mkF m 25 #[.val (.ref a1), .val (.double d2), .second] [])) (fun t9 k9 => st5 t9 k9) ?_
    refine own_st (T' := T5) (g' := (mkF m 26 #[.val (.ref a1), .val (.double d2), .second] [(.ref a1)])) (fun t9 k9 => XS.aloadN X5.here hx rfl (hb hby d3_25) rfl rfl k9) ?_
    refine own_st (T' := T5) (g' := (mkF m 27 #[.val (.ref a1), .val (.double d2), .second] [(.ref a1), (.ref a1)])) (fun t9 k9 => XS.aloadN X5.here hx rfl (hb hby d3_26) rfl rfl k9) ?_
    obtain ⟨T10, X10, e10, st10⟩ := getF X5 hx hZ hown (host := "") (Or.inl (hw _ (List.mem_of_getElem? (i := 20) rfl))) Via.refl e5 Fw5 (g := (mkF m 27 #[.val (.ref a1), .val (.double d2), .second] [(.ref a1), (.ref a1)])) rfl rfl (hb hby d3_27)
    refine own_st (T' := T10) (g' := (mkF m 30 #[.val (.ref a1), .val (.double d2), .second] [(.int (Int32.ofNat (kt + 1))), (.ref a1)])) (fun t9 k9 => st10 t9 k9) ?_
    refine own_st (T' := T10) (g' := (mkF m 31 #[.val (.ref a1), .val (.double d2), .second] [(.int (1 : Int32)), (.int (Int32.ofNat (kt + 1))), (.ref a1)])) (fun t9 k9 => XS.iconst X10.here hx rfl (hb hby d3_30) k9) ?_
    refine own_st (T' := T10) (g' := (mkF m 32 #[.val (.ref a1), .val (.double d2), .second] [(.int ((Int32.ofNat (kt + 1)) - (1 : Int32))), (.ref a1)])) (fun t9 k9 => XS.isub X10.here hx rfl (hb hby d3_31) rfl k9) ?_
    rw [show Int32.ofNat (kt + 1) - (1 : Int32) = Int32.ofNat kt from own_sub (j := 1) (by omega)]
    refine own_st (T' := T10) (g' := (mkF m 33 #[.val (.ref a1), .val (.double d2), .second] [(.double d2), (.int (Int32.ofNat kt)), (.ref a1)])) (fun t9 k9 => XS.dloadN X10.here hx rfl (hb hby d3_32) rfl k9) ?_
    obtain ⟨cq11, kq11, qa11, qb11, qc11⟩ := isOf hZ e10 E9_6
    obtain ⟨_, _, ⟨T11, L11, k11, n11⟩, -, X11, ⟨Lc11, hQ11, l11, y11, z11⟩, st11⟩ := X10.virtualBack hx (y := (⟨"com/example/shelfwright/shelfwright/packers/FirstFit", "set", "(ID)V"⟩ : MethodName)) (z := (⟨"com/example/shelfwright/shelfwright/packers/FirstFit", "set", "(ID)V"⟩ : MethodName)) hown (mvT hZ (hw _ (List.mem_of_getElem? (i := 22) rfl))) (mvT hZ (hw _ (List.mem_of_getElem? (i := 23) rfl))) (notFace_of_selects (args := #[]) (mvT hZ (hw _ (List.mem_of_getElem? (i := 25) rfl)))) (mvT hZ (hw _ (List.mem_of_getElem? (i := 25) rfl))) (mvT hZ (hw _ (List.mem_of_getElem? (i := 24) rfl))) (by decide) (own_back (W := 0) (rm4 l Z a0 hw a1 dd kd vq fq cq kt d2 h5 n0 Z5 FlargestKey9_7 Fcapacity9_8 V9_9 hq hcq hkq hd2 hna.symm g_dd) hZ (hw _ (List.mem_of_getElem? (i := 26) rfl)) (hw _ (List.mem_of_getElem? (i := 3) rfl)) (by decide) (by decide)) qa11 qc11 (g := (mkF m 33 #[.val (.ref a1), .val (.double d2), .second] [(.double d2), (.int (Int32.ofNat kt)), (.ref a1)])) rfl (by rw [hml]; rfl) (Steps.refl _) (argsL := [(.int (Int32.ofNat kt)), (.double d2)]) (rest := []) (lenOf pd_2 rfl) rfl (by show 2 * 0 + _ ≤ _; exact Nat.le_of_eq rfl) (hb hby d3_33) (fun _ _ => ⟨rfl, e10, (Nat.le_of_ble_eq_true rfl), (Nat.le_of_ble_eq_true rfl)⟩)
    dsimp only [Pt.U, Pt.locs, Pt.cells, Pt.slots] at X11 l11 y11 z11 st11 hQ11
    subst l11 y11 z11
    obtain ⟨vz11, fz11, rfl, Nq11, Kq11, Vq11, hz11, hkz11⟩ := hQ11
    have N11 := Fr.app N5 Nq11
    obtain ⟨h11, e11⟩ : ∃ z, T11.heap = z := ⟨_, rfl⟩
    rw [e11] at Kq11 Vq11
    have E9_12 := E9_6.keep Kq11
    have FlargestKey9_13 := FlargestKey9_7.keep Kq11 (ninS (Ne.symm hna) nin0)
    have Fcapacity9_14 := Fcapacity9_8.keep Kq11 (ninS (Ne.symm hna) nin0)
    have Fw5_15 := Fw5.keep Kq11 (ninS (Ne.symm hna) nin0)
    have K11 := K5.trans Kq11 (fun x hx9 => by
          obtain rfl := List.mem_singleton.mp hx9
          rcases hdd with q | q
          · exact Or.inl (by rw [q]; simp)
          · exact Or.inr q)
    have Z11 : n0 ≤ h11.size := Nat.le_trans Z5 Kq11.1
    refine own_st (T' := T11) (g' := (mkF m 36 #[.val (.ref a1), .val (.double d2), .second] [])) (fun t9 k9 => st11.trans k9) ?_
    refine own_st (T' := T11) (g' := (mkF m 37 #[.val (.ref a1), .val (.double d2), .second] [(.ref a1)])) (fun t9 k9 => XS.aloadN X11.here hx rfl (hb hby d3_36) rfl rfl k9) ?_
    obtain ⟨T16, X16, e16, st16⟩ := getF X11 hx hZ hown (host := "") (Or.inl (hw _ (List.mem_of_getElem? (i := 20) rfl))) Via.refl e11 Fw5_15 (g := (mkF m 37 #[.val (.ref a1), .val (.double d2), .second] [(.ref a1)])) rfl rfl (hb hby d3_37)
    refine own_st (T' := T16) (g' := (mkF m 40 #[.val (.ref a1), .val (.double d2), .second] [(.int (Int32.ofNat (kt + 1)))])) (fun t9 k9 => st16 t9 k9) ?_
    refine own_st (T' := T16) (g' := (mkF m 41 #[.val (.ref a1), .val (.double d2), .second] [(.int (1 : Int32)), (.int (Int32.ofNat (kt + 1)))])) (fun t9 k9 => XS.iconst X16.here hx rfl (hb hby d3_40) k9) ?_
    refine own_st (T' := T16) (g' := (mkF m 42 #[.val (.ref a1), .val (.double d2), .second] [(.int ((Int32.ofNat (kt + 1)) - (1 : Int32)))])) (fun t9 k9 => XS.isub X16.here hx rfl (hb hby d3_41) rfl k9) ?_
    refine own_ret (v := some (.int ((Int32.ofNat (kt + 1)) - (1 : Int32)))) hF X16 (own_some hret) hlk (fun fs hr => retI X16 hx hret (hb hby d3_42) hr) ?_ (by decide) (by decide)
    try rw [e16]
    exact ⟨dd, kd, _, fz11, cq, _, rfl, N11, K11, hdd, g_dd, hna, E9_12, FlargestKey9_13, Fcapacity9_14, Fw5_15, Vq11, hz11, hcq, hkq, hcc, fun i hi => by rw [hkz11 i (by omega), if_neg (by omega)]; exact hkp i hi, by rw [hkz11 kt hkq, if_pos rfl]⟩
  by_cases hfl : (Int32.ofNat kt) = (Int32.ofNat cp)
  · refine own_st (T' := T2) (g' := (mkF m 11 #[.val (.ref a1), .val (.double d2), .second] [])) (fun t9 k9 => XS.icmpNo X2.here hx rfl (hb hby d3_8) rfl (teq hfl).2 k9) ?_
    refine own_st (T' := T2) (g' := (mkF m 12 #[.val (.ref a1), .val (.double d2), .second] [(.ref a1)])) (fun t9 k9 => XS.aloadN X2.here hx rfl (hb hby d3_11) rfl rfl k9) ?_
    have hkc : kt = cp := own_eq' hfl (by omega) (by omega)
    subst hkc
    have hc2 := hfull rfl
    have lt_a1 := E1.lt
    obtain ⟨cq17, qa17, qb17⟩ := E1.cell
    obtain ⟨_, _, ⟨T17, L17, k17, n17⟩, -, X17, ⟨Lc17, hQ17, l17, y17, z17⟩, st17⟩ := X2.privateBack hx (y := (⟨"com/example/shelfwright/shelfwright/packers/FirstFit", "grow", "()V"⟩ : MethodName)) hown (mvT hZ (hw _ (List.mem_of_getElem? (i := 33) rfl))) (mvT hZ (hw _ (List.mem_of_getElem? (i := 34) rfl))) (own_selP hZ (hw _ (List.mem_of_getElem? (i := 2) rfl)) (Cond.privateMethod_at (mvP hZ (hw _ (List.mem_of_getElem? (i := 35) rfl)) (args := #[]))) (mvT hZ (hw _ (List.mem_of_getElem? (i := 34) rfl))) (by decide)) (Cond.privateMethod_at (mvP hZ (hw _ (List.mem_of_getElem? (i := 35) rfl)) (args := #[]))) (mvT hZ (hw _ (List.mem_of_getElem? (i := 36) rfl))) (by decide) (own_back (W := 0) (rm6 l Z a0 hw a1 d1 k1 vs f kt h0 n0 Z0 E1 F1 F2 F3 V1 hD hc0 hc2 g_a1 hne) hZ (hw _ (List.mem_of_getElem? (i := 36) rfl)) (hw _ (List.mem_of_getElem? (i := 3) rfl)) (by decide) (by decide)) (g := (mkF m 12 #[.val (.ref a1), .val (.double d2), .second] [(.ref a1)])) rfl (by rw [hml]; rfl) (Steps.refl _) (a := a1) (by rw [e2]; exact qa17) qb17 (argsL := []) (rest := []) (lenOf pd_0 rfl) rfl (by show 2 * 0 + _ ≤ _; exact Nat.le_of_eq rfl) (hb hby d3_12) (fun _ _ => ⟨rfl, e2, (Nat.le_of_ble_eq_true rfl), (Nat.le_of_ble_eq_true rfl)⟩)
    dsimp only [Pt.U, Pt.locs, Pt.cells, Pt.slots] at X17 l17 y17 z17 st17 hQ17
    subst l17 y17 z17
    obtain ⟨b17, kb17, vb17, fb17, rfl, Nq17, Kq17, sz17, g_b17, Eq17, Fl17, Fc17, Fn17, Vq17, hv17, hkb17⟩ := hQ17
    have N17 := Fr.app N0 Nq17
    obtain ⟨h17, e17⟩ : ∃ z, T17.heap = z := ⟨_, rfl⟩
    rw [e17] at Kq17 Eq17 Fl17 Fc17 Fn17 Vq17
    have E1_18 := E1.keep Kq17
    have V1_19 := V1.keep Kq17 (ninS hne nin0)
    have K17 := K0.trans Kq17 (allS (Or.inl (by simp)) all0)
    have Z17 : n0 ≤ h17.size := Nat.le_trans Z0 Kq17.1
    refine own_st (T' := T17) (g' := (mkF m 15 #[.val (.ref a1), .val (.double d2), .second] [])) (fun t9 k9 => st17.trans k9) ?_
    exact j15 _ _ _ _ _ _ _ _ X17 e17 N17 Z17 K17 Eq17 Fl17 Fc17 Fn17 Vq17 hv17 (by omega) (by omega) (Or.inr ⟨rfl, rfl⟩) (Or.inr sz17) g_b17 (Nat.ne_of_gt (Nat.lt_of_lt_of_le lt_a1 sz17)) hkb17
  · refine own_st (T' := T2) (g' := (mkF m 15 #[.val (.ref a1), .val (.double d2), .second] [])) (fun t9 k9 => XS.icmpYes X2.here hx rfl (pc0 := 8) (pc' := 15) rfl (hb hby d3_8) rfl (feq hfl).2 (by decide) (by decide) k9) ?_
    have hmore := X2.more (Nat.zero_le 2) (Nat.zero_le 10)
    exact j15 _ _ _ _ _ _ _ _ hmore e2 N0 Z0 K0 E1 F1 F2 F3 V1 hD hc (by
          have : kt ≠ cp := fun q => hfl (by rw [q])
          omega) (Or.inl rfl) (Or.inl rfl) g_d1 hne (fun i _ => rfl)
theorem pn_0 : plainFor (⟨"com/example/shelfwright/shelfwright/packers/FirstFitKeyPinLaw", "law", "(IIIIII)Z"⟩ : MethodName) = true := plainFor_of_name (by first | (simp [plainName, overriddenIn]; done) | decide +kernel)
set_option maxRecDepth 65536 in
set_option maxHeartbeats 40000000 in
theorem rm0 (l : Launch) (Z : State) (a0 : Array Value) (hw : ∀ d ∈ tables_1, d.before a0 Z = true) (p1 p2 p3 p4 p5 p6 : Int32) (h0 : Heap) (n0 : Nat) (Z0 : n0 ≤ h0.size)  :
    own_Met l Z x code maxLocals ret room_1 #[(.int p1), (.int p2), (.int p3), (.int p4), (.int p5), (.int p6)] h0 (fun v h L => v = some (.int (1 : Int32)) ∧ Fr n0 L) := by
  refine own_body pn_0 ?_
  intro p e s m below meth c T0 hZ hx hby hml hown hnm hret hlk X0 e0 F hF
  have N0 := Fr.nil n0
  have K0 := Keep.refl h0 []
  refine own_cast (g' := (mkF m 0 #[.val (.int p1), .val (.int p2), .val (.int p3), .val (.int p4), .val (.int p5), .val (.int p6), .unset, .unset, .unset, .unset, .unset, .unset, .unset, .unset, .unset] [])) (by first | (simp [entryFrame, mkF, argsToLocals, Value.category, maxLocals]; done) | rfl) ?_
  obtain ⟨n1, hn1, en1⟩ := own_small p1
  refine own_st (T' := T0) (g' := (mkF m 1 #[.val (.int p1), .val (.int p2), .val (.int p3), .val (.int p4), .val (.int p5), .val (.int p6), .unset, .unset, .unset, .unset, .unset, .unset, .unset, .unset, .unset] [(.int (1 : Int32))])) (fun t9 k9 => XS.iconst X0.here hx rfl (hb hby at_0) k9) ?_
  refine own_st (T' := T0) (g' := (mkF m 2 #[.val (.int p1), .val (.int p2), .val (.int p3), .val (.int p4), .val (.int p5), .val (.int p6), .unset, .unset, .unset, .unset, .unset, .unset, .unset, .unset, .unset] [(.int p1), (.int (1 : Int32))])) (fun t9 k9 => XS.iloadN X0.here hx rfl (hb hby at_1) rfl k9) ?_
  refine own_st (T' := T0) (g' := (mkF m 3 #[.val (.int p1), .val (.int p2), .val (.int p3), .val (.int p4), .val (.int p5), .val (.int p6), .unset, .unset, .unset, .unset, .unset, .unset, .unset, .unset, .unset] [(.int (3 : Int32)), (.int p1), (.int (1 : Int32))])) (fun t9 k9 => XS.iconst X0.here hx rfl (hb hby at_2) k9) ?_
  refine own_st (T' := T0) (g' := (mkF m 4 #[.val (.int p1), .val (.int p2), .val (.int p3), .val (.int p4), .val (.int p5), .val (.int p6), .unset, .unset, .unset, .unset, .unset, .unset, .unset, .unset, .unset] [(.int (p1 &&& (3 : Int32))), (.int (1 : Int32))])) (fun t9 k9 => XS.iand X0.here hx rfl (hb hby at_3) rfl k9) ?_
  refine own_st (T' := T0) (g' := (mkF m 5 #[.val (.int p1), .val (.int p2), .val (.int p3), .val (.int p4), .val (.int p5), .val (.int p6), .unset, .unset, .unset, .unset, .unset, .unset, .unset, .unset, .unset] [(.int ((1 : Int32) + (p1 &&& (3 : Int32))))])) (fun t9 k9 => XS.iadd X0.here hx rfl (hb hby at_4) rfl k9) ?_
  rw [en1, Int32.add_comm, own_one n1]
  refine own_st (T' := T0) (g' := (mkF m 7 #[.val (.int p1), .val (.int p2), .val (.int p3), .val (.int p4), .val (.int p5), .val (.int p6), .val (.int (Int32.ofNat (n1 + 1))), .unset, .unset, .unset, .unset, .unset, .unset, .unset, .unset] [])) (fun t9 k9 => XS.istore X0.here hx rfl (hb hby at_5) rfl (l' := #[.val (.int p1), .val (.int p2), .val (.int p3), .val (.int p4), .val (.int p5), .val (.int p6), .val (.int (Int32.ofNat (n1 + 1))), .unset, .unset, .unset, .unset, .unset, .unset, .unset, .unset]) rfl k9) ?_
  refine own_st (T' := T0) (g' := (mkF m 8 #[.val (.int p1), .val (.int p2), .val (.int p3), .val (.int p4), .val (.int p5), .val (.int p6), .val (.int (Int32.ofNat (n1 + 1))), .unset, .unset, .unset, .unset, .unset, .unset, .unset, .unset] [(.int p1)])) (fun t9 k9 => XS.iloadN X0.here hx rfl (hb hby at_7) rfl k9) ?_
  refine own_st (T' := T0) (g' := (mkF m 9 #[.val (.int p1), .val (.int p2), .val (.int p3), .val (.int p4), .val (.int p5), .val (.int p6), .val (.int (Int32.ofNat (n1 + 1))), .unset, .unset, .unset, .unset, .unset, .unset, .unset, .unset] [(.int (2 : Int32)), (.int p1)])) (fun t9 k9 => XS.iconst X0.here hx rfl (hb hby at_8) k9) ?_
  refine own_st (T' := T0) (g' := (mkF m 10 #[.val (.int p1), .val (.int p2), .val (.int p3), .val (.int p4), .val (.int p5), .val (.int p6), .val (.int (Int32.ofNat (n1 + 1))), .unset, .unset, .unset, .unset, .unset, .unset, .unset, .unset] [(.int ((p1.toUInt32 >>> ((2 : Int32) &&& 31).toUInt32).toInt32))])) (fun t9 k9 => XS.iushr X0.here hx rfl (hb hby at_9) rfl k9) ?_
  refine own_st (T' := T0) (g' := (mkF m 11 #[.val (.int p1), .val (.int p2), .val (.int p3), .val (.int p4), .val (.int p5), .val (.int p6), .val (.int (Int32.ofNat (n1 + 1))), .unset, .unset, .unset, .unset, .unset, .unset, .unset, .unset] [(.int (1 : Int32)), (.int ((p1.toUInt32 >>> ((2 : Int32) &&& 31).toUInt32).toInt32))])) (fun t9 k9 => XS.iconst X0.here hx rfl (hb hby at_10) k9) ?_
  refine own_st (T' := T0) (g' := (mkF m 12 #[.val (.int p1), .val (.int p2), .val (.int p3), .val (.int p4), .val (.int p5), .val (.int p6), .val (.int (Int32.ofNat (n1 + 1))), .unset, .unset, .unset, .unset, .unset, .unset, .unset, .unset] [(.int (((p1.toUInt32 >>> ((2 : Int32) &&& 31).toUInt32).toInt32) &&& (1 : Int32)))])) (fun t9 k9 => XS.iand X0.here hx rfl (hb hby at_11) rfl k9) ?_
  have j20 : ∀ (ds : Int32), (ds = 0 ∨ ds = 1) → own_Go p e below F T0 (mkF m 20 #[.val (.int p1), .val (.int p2), .val (.int p3), .val (.int p4), .val (.int p5), .val (.int p6), .val (.int (Int32.ofNat (n1 + 1))), .unset, .unset, .unset, .unset, .unset, .unset, .unset, .unset] [(.int ds)]) := by
    intro ds hds
    have hz1 : ¬ (Int32.ofNat (n1 + 1)) = 0 := fun q => by have := own_eq' (n := 0) q (by omega) (by omega); omega
    obtain ⟨ja, hja, eja⟩ := own_small (((p1.toUInt32 >>> ((5 : Int32) &&& 31).toUInt32).toInt32))
    obtain ⟨jj, hjj, ejj⟩ := own_modn ja (n1 + 1) (by omega) (by omega) (by omega)
    obtain ⟨pa, hpa, epa⟩ := own_small (((p1.toUInt32 >>> ((3 : Int32) &&& 31).toUInt32).toInt32))
    obtain ⟨pl, hpl, epl⟩ := own_modn pa (jj + 1) (by omega) (by omega) (by omega)
    refine own_st (T' := T0) (g' := (mkF m 22 #[.val (.int p1), .val (.int p2), .val (.int p3), .val (.int p4), .val (.int p5), .val (.int p6), .val (.int (Int32.ofNat (n1 + 1))), .val (.int ds), .unset, .unset, .unset, .unset, .unset, .unset, .unset] [])) (fun t9 k9 => XS.istore X0.here hx rfl (hb hby at_20) rfl (l' := #[.val (.int p1), .val (.int p2), .val (.int p3), .val (.int p4), .val (.int p5), .val (.int p6), .val (.int (Int32.ofNat (n1 + 1))), .val (.int ds), .unset, .unset, .unset, .unset, .unset, .unset, .unset]) rfl k9) ?_
    refine own_st (T' := T0) (g' := (mkF m 23 #[.val (.int p1), .val (.int p2), .val (.int p3), .val (.int p4), .val (.int p5), .val (.int p6), .val (.int (Int32.ofNat (n1 + 1))), .val (.int ds), .unset, .unset, .unset, .unset, .unset, .unset, .unset] [(.int p1)])) (fun t9 k9 => XS.iloadN X0.here hx rfl (hb hby at_22) rfl k9) ?_
    refine own_st (T' := T0) (g' := (mkF m 24 #[.val (.int p1), .val (.int p2), .val (.int p3), .val (.int p4), .val (.int p5), .val (.int p6), .val (.int (Int32.ofNat (n1 + 1))), .val (.int ds), .unset, .unset, .unset, .unset, .unset, .unset, .unset] [(.int (5 : Int32)), (.int p1)])) (fun t9 k9 => XS.iconst X0.here hx rfl (hb hby at_23) k9) ?_
    refine own_st (T' := T0) (g' := (mkF m 25 #[.val (.int p1), .val (.int p2), .val (.int p3), .val (.int p4), .val (.int p5), .val (.int p6), .val (.int (Int32.ofNat (n1 + 1))), .val (.int ds), .unset, .unset, .unset, .unset, .unset, .unset, .unset] [(.int ((p1.toUInt32 >>> ((5 : Int32) &&& 31).toUInt32).toInt32))])) (fun t9 k9 => XS.iushr X0.here hx rfl (hb hby at_24) rfl k9) ?_
    refine own_st (T' := T0) (g' := (mkF m 26 #[.val (.int p1), .val (.int p2), .val (.int p3), .val (.int p4), .val (.int p5), .val (.int p6), .val (.int (Int32.ofNat (n1 + 1))), .val (.int ds), .unset, .unset, .unset, .unset, .unset, .unset, .unset] [(.int (3 : Int32)), (.int ((p1.toUInt32 >>> ((5 : Int32) &&& 31).toUInt32).toInt32))])) (fun t9 k9 => XS.iconst X0.here hx rfl (hb hby at_25) k9) ?_
    refine own_st (T' := T0) (g' := (mkF m 27 #[.val (.int p1), .val (.int p2), .val (.int p3), .val (.int p4), .val (.int p5), .val (.int p6), .val (.int (Int32.ofNat (n1 + 1))), .val (.int ds), .unset, .unset, .unset, .unset, .unset, .unset, .unset] [(.int (((p1.toUInt32 >>> ((5 : Int32) &&& 31).toUInt32).toInt32) &&& (3 : Int32)))])) (fun t9 k9 => XS.iand X0.here hx rfl (hb hby at_26) rfl k9) ?_
    refine own_st (T' := T0) (g' := (mkF m 29 #[.val (.int p1), .val (.int p2), .val (.int p3), .val (.int p4), .val (.int p5), .val (.int p6), .val (.int (Int32.ofNat (n1 + 1))), .val (.int ds), .unset, .unset, .unset, .unset, .unset, .unset, .unset] [(.int (Int32.ofNat (n1 + 1))), (.int (((p1.toUInt32 >>> ((5 : Int32) &&& 31).toUInt32).toInt32) &&& (3 : Int32)))])) (fun t9 k9 => XS.iload X0.here hx rfl (hb hby at_27) rfl k9) ?_
    refine own_st (T' := T0) (g' := (mkF m 30 #[.val (.int p1), .val (.int p2), .val (.int p3), .val (.int p4), .val (.int p5), .val (.int p6), .val (.int (Int32.ofNat (n1 + 1))), .val (.int ds), .unset, .unset, .unset, .unset, .unset, .unset, .unset] [(.int ((((p1.toUInt32 >>> ((5 : Int32) &&& 31).toUInt32).toInt32) &&& (3 : Int32)) % (Int32.ofNat (n1 + 1))))])) (fun t9 k9 => iremM X0 hx (g := (mkF m 29 #[.val (.int p1), .val (.int p2), .val (.int p3), .val (.int p4), .val (.int p5), .val (.int p6), .val (.int (Int32.ofNat (n1 + 1))), .val (.int ds), .unset, .unset, .unset, .unset, .unset, .unset, .unset] [(.int (Int32.ofNat (n1 + 1))), (.int (((p1.toUInt32 >>> ((5 : Int32) &&& 31).toUInt32).toInt32) &&& (3 : Int32)))])) rfl (hb hby at_29) rfl hz1 k9) ?_
    rw [eja, ejj]
    have hz2 : ¬ (Int32.ofNat (jj + 1)) = 0 := fun q => by have := own_eq' (n := 0) q (by omega) (by omega); omega
    refine own_st (T' := T0) (g' := (mkF m 32 #[.val (.int p1), .val (.int p2), .val (.int p3), .val (.int p4), .val (.int p5), .val (.int p6), .val (.int (Int32.ofNat (n1 + 1))), .val (.int ds), .val (.int (Int32.ofNat jj)), .unset, .unset, .unset, .unset, .unset, .unset] [])) (fun t9 k9 => XS.istore X0.here hx rfl (hb hby at_30) rfl (l' := #[.val (.int p1), .val (.int p2), .val (.int p3), .val (.int p4), .val (.int p5), .val (.int p6), .val (.int (Int32.ofNat (n1 + 1))), .val (.int ds), .val (.int (Int32.ofNat jj)), .unset, .unset, .unset, .unset, .unset, .unset]) rfl k9) ?_
    refine own_st (T' := T0) (g' := (mkF m 33 #[.val (.int p1), .val (.int p2), .val (.int p3), .val (.int p4), .val (.int p5), .val (.int p6), .val (.int (Int32.ofNat (n1 + 1))), .val (.int ds), .val (.int (Int32.ofNat jj)), .unset, .unset, .unset, .unset, .unset, .unset] [(.int p1)])) (fun t9 k9 => XS.iloadN X0.here hx rfl (hb hby at_32) rfl k9) ?_
    refine own_st (T' := T0) (g' := (mkF m 34 #[.val (.int p1), .val (.int p2), .val (.int p3), .val (.int p4), .val (.int p5), .val (.int p6), .val (.int (Int32.ofNat (n1 + 1))), .val (.int ds), .val (.int (Int32.ofNat jj)), .unset, .unset, .unset, .unset, .unset, .unset] [(.int (3 : Int32)), (.int p1)])) (fun t9 k9 => XS.iconst X0.here hx rfl (hb hby at_33) k9) ?_
    refine own_st (T' := T0) (g' := (mkF m 35 #[.val (.int p1), .val (.int p2), .val (.int p3), .val (.int p4), .val (.int p5), .val (.int p6), .val (.int (Int32.ofNat (n1 + 1))), .val (.int ds), .val (.int (Int32.ofNat jj)), .unset, .unset, .unset, .unset, .unset, .unset] [(.int ((p1.toUInt32 >>> ((3 : Int32) &&& 31).toUInt32).toInt32))])) (fun t9 k9 => XS.iushr X0.here hx rfl (hb hby at_34) rfl k9) ?_
    refine own_st (T' := T0) (g' := (mkF m 36 #[.val (.int p1), .val (.int p2), .val (.int p3), .val (.int p4), .val (.int p5), .val (.int p6), .val (.int (Int32.ofNat (n1 + 1))), .val (.int ds), .val (.int (Int32.ofNat jj)), .unset, .unset, .unset, .unset, .unset, .unset] [(.int (3 : Int32)), (.int ((p1.toUInt32 >>> ((3 : Int32) &&& 31).toUInt32).toInt32))])) (fun t9 k9 => XS.iconst X0.here hx rfl (hb hby at_35) k9) ?_
    refine own_st (T' := T0) (g' := (mkF m 37 #[.val (.int p1), .val (.int p2), .val (.int p3), .val (.int p4), .val (.int p5), .val (.int p6), .val (.int (Int32.ofNat (n1 + 1))), .val (.int ds), .val (.int (Int32.ofNat jj)), .unset, .unset, .unset, .unset, .unset, .unset] [(.int (((p1.toUInt32 >>> ((3 : Int32) &&& 31).toUInt32).toInt32) &&& (3 : Int32)))])) (fun t9 k9 => XS.iand X0.here hx rfl (hb hby at_36) rfl k9) ?_
    refine own_st (T' := T0) (g' := (mkF m 39 #[.val (.int p1), .val (.int p2), .val (.int p3), .val (.int p4), .val (.int p5), .val (.int p6), .val (.int (Int32.ofNat (n1 + 1))), .val (.int ds), .val (.int (Int32.ofNat jj)), .unset, .unset, .unset, .unset, .unset, .unset] [(.int (Int32.ofNat jj)), (.int (((p1.toUInt32 >>> ((3 : Int32) &&& 31).toUInt32).toInt32) &&& (3 : Int32)))])) (fun t9 k9 => XS.iload X0.here hx rfl (hb hby at_37) rfl k9) ?_
    refine own_st (T' := T0) (g' := (mkF m 40 #[.val (.int p1), .val (.int p2), .val (.int p3), .val (.int p4), .val (.int p5), .val (.int p6), .val (.int (Int32.ofNat (n1 + 1))), .val (.int ds), .val (.int (Int32.ofNat jj)), .unset, .unset, .unset, .unset, .unset, .unset] [(.int (1 : Int32)), (.int (Int32.ofNat jj)), (.int (((p1.toUInt32 >>> ((3 : Int32) &&& 31).toUInt32).toInt32) &&& (3 : Int32)))])) (fun t9 k9 => XS.iconst X0.here hx rfl (hb hby at_39) k9) ?_
    refine own_st (T' := T0) (g' := (mkF m 41 #[.val (.int p1), .val (.int p2), .val (.int p3), .val (.int p4), .val (.int p5), .val (.int p6), .val (.int (Int32.ofNat (n1 + 1))), .val (.int ds), .val (.int (Int32.ofNat jj)), .unset, .unset, .unset, .unset, .unset, .unset] [(.int ((Int32.ofNat jj) + (1 : Int32))), (.int (((p1.toUInt32 >>> ((3 : Int32) &&& 31).toUInt32).toInt32) &&& (3 : Int32)))])) (fun t9 k9 => XS.iadd X0.here hx rfl (hb hby at_40) rfl k9) ?_
    rw [own_one jj]
    refine own_st (T' := T0) (g' := (mkF m 42 #[.val (.int p1), .val (.int p2), .val (.int p3), .val (.int p4), .val (.int p5), .val (.int p6), .val (.int (Int32.ofNat (n1 + 1))), .val (.int ds), .val (.int (Int32.ofNat jj)), .unset, .unset, .unset, .unset, .unset, .unset] [(.int ((((p1.toUInt32 >>> ((3 : Int32) &&& 31).toUInt32).toInt32) &&& (3 : Int32)) % (Int32.ofNat (jj + 1))))])) (fun t9 k9 => iremM X0 hx (g := (mkF m 41 #[.val (.int p1), .val (.int p2), .val (.int p3), .val (.int p4), .val (.int p5), .val (.int p6), .val (.int (Int32.ofNat (n1 + 1))), .val (.int ds), .val (.int (Int32.ofNat jj)), .unset, .unset, .unset, .unset, .unset, .unset] [(.int (Int32.ofNat (jj + 1))), (.int (((p1.toUInt32 >>> ((3 : Int32) &&& 31).toUInt32).toInt32) &&& (3 : Int32)))])) rfl (hb hby at_41) rfl hz2 k9) ?_
    rw [epa, epl]
    refine own_st (T' := T0) (g' := (mkF m 44 #[.val (.int p1), .val (.int p2), .val (.int p3), .val (.int p4), .val (.int p5), .val (.int p6), .val (.int (Int32.ofNat (n1 + 1))), .val (.int ds), .val (.int (Int32.ofNat jj)), .val (.int (Int32.ofNat pl)), .unset, .unset, .unset, .unset, .unset] [])) (fun t9 k9 => XS.istore X0.here hx rfl (hb hby at_42) rfl (l' := #[.val (.int p1), .val (.int p2), .val (.int p3), .val (.int p4), .val (.int p5), .val (.int p6), .val (.int (Int32.ofNat (n1 + 1))), .val (.int ds), .val (.int (Int32.ofNat jj)), .val (.int (Int32.ofNat pl)), .unset, .unset, .unset, .unset, .unset]) rfl k9) ?_
    refine own_st (T' := T0) (g' := (mkF m 45 #[.val (.int p1), .val (.int p2), .val (.int p3), .val (.int p4), .val (.int p5), .val (.int p6), .val (.int (Int32.ofNat (n1 + 1))), .val (.int ds), .val (.int (Int32.ofNat jj)), .val (.int (Int32.ofNat pl)), .unset, .unset, .unset, .unset, .unset] [(.int (4 : Int32))])) (fun t9 k9 => XS.iconst X0.here hx rfl (hb hby at_44) k9) ?_
    obtain ⟨T1, h1, k1, X1, e1, Ex1, A1, st1⟩ := newP X0 hx hZ (hw _ (List.mem_of_getElem? (i := 0) rfl)) e0 (g := (mkF m 45 #[.val (.int p1), .val (.int p2), .val (.int p3), .val (.int p4), .val (.int p5), .val (.int p6), .val (.int (Int32.ofNat (n1 + 1))), .val (.int ds), .val (.int (Int32.ofNat jj)), .val (.int (Int32.ofNat pl)), .unset, .unset, .unset, .unset, .unset] [(.int (4 : Int32))])) rfl (hb hby at_45) rfl (by decide) (cap := 4) (by decide) (by decide) (by decide) (by decide)
    obtain ⟨b1, gb1⟩ : ∃ z, z = h0.size := ⟨_, rfl⟩
    have g_b1 : n0 ≤ b1 := gb1 ▸ Z0
    have sz_b1 : h0.size ≤ b1 := gb1 ▸ K0.1
    rw [← gb1] at A1 st1
    have K1 := K0.ext Ex1
    have Z1 : n0 ≤ h1.size := Nat.le_trans Z0 Ex1.1
    have V_b1 : Arv Z h1 b1 k1 .double (4 : Int32) [(.double 0), (.double 0), (.double 0), (.double 0)] (.double 0) := (Arv.new A1 (by decide)).pad (pad_rep [] (.double 0) 4)
    refine own_st (T' := T1) (g' := (mkF m 47 #[.val (.int p1), .val (.int p2), .val (.int p3), .val (.int p4), .val (.int p5), .val (.int p6), .val (.int (Int32.ofNat (n1 + 1))), .val (.int ds), .val (.int (Int32.ofNat jj)), .val (.int (Int32.ofNat pl)), .unset, .unset, .unset, .unset, .unset] [(.ref b1)])) (fun t9 k9 => st1 t9 k9) ?_
    refine own_st (T' := T1) (g' := (mkF m 49 #[.val (.int p1), .val (.int p2), .val (.int p3), .val (.int p4), .val (.int p5), .val (.int p6), .val (.int (Int32.ofNat (n1 + 1))), .val (.int ds), .val (.int (Int32.ofNat jj)), .val (.int (Int32.ofNat pl)), .val (.ref b1), .unset, .unset, .unset, .unset] [])) (fun t9 k9 => XS.astore X1.here hx rfl (hb hby at_47) rfl rfl (l' := #[.val (.int p1), .val (.int p2), .val (.int p3), .val (.int p4), .val (.int p5), .val (.int p6), .val (.int (Int32.ofNat (n1 + 1))), .val (.int ds), .val (.int (Int32.ofNat jj)), .val (.int (Int32.ofNat pl)), .val (.ref b1), .unset, .unset, .unset, .unset]) rfl k9) ?_
    refine own_st (T' := T1) (g' := (mkF m 51 #[.val (.int p1), .val (.int p2), .val (.int p3), .val (.int p4), .val (.int p5), .val (.int p6), .val (.int (Int32.ofNat (n1 + 1))), .val (.int ds), .val (.int (Int32.ofNat jj)), .val (.int (Int32.ofNat pl)), .val (.ref b1), .unset, .unset, .unset, .unset] [(.ref b1)])) (fun t9 k9 => XS.aload X1.here hx rfl (hb hby at_49) rfl rfl k9) ?_
    refine own_st (T' := T1) (g' := (mkF m 52 #[.val (.int p1), .val (.int p2), .val (.int p3), .val (.int p4), .val (.int p5), .val (.int p6), .val (.int (Int32.ofNat (n1 + 1))), .val (.int ds), .val (.int (Int32.ofNat jj)), .val (.int (Int32.ofNat pl)), .val (.ref b1), .unset, .unset, .unset, .unset] [(.int (0 : Int32)), (.ref b1)])) (fun t9 k9 => XS.iconst X1.here hx rfl (hb hby at_51) k9) ?_
    refine own_st (T' := T1) (g' := (mkF m 53 #[.val (.int p1), .val (.int p2), .val (.int p3), .val (.int p4), .val (.int p5), .val (.int p6), .val (.int (Int32.ofNat (n1 + 1))), .val (.int ds), .val (.int (Int32.ofNat jj)), .val (.int (Int32.ofNat pl)), .val (.ref b1), .unset, .unset, .unset, .unset] [(.int p2), (.int (0 : Int32)), (.ref b1)])) (fun t9 k9 => XS.iloadN X1.here hx rfl (hb hby at_52) rfl k9) ?_
    refine own_st (T' := T1) (g' := (mkF m 54 #[.val (.int p1), .val (.int p2), .val (.int p3), .val (.int p4), .val (.int p5), .val (.int p6), .val (.int (Int32.ofNat (n1 + 1))), .val (.int ds), .val (.int (Int32.ofNat jj)), .val (.int (Int32.ofNat pl)), .val (.ref b1), .unset, .unset, .unset, .unset] [(.double (FP.i2d p2)), (.int (0 : Int32)), (.ref b1)])) (fun t9 k9 => XS.i2dS X1.here hx rfl (hb hby at_53) rfl rfl k9) ?_
    obtain ⟨clu2, Aru2, qu2, Su2, Nu2, Hu2, Gu2⟩ := (id V_b1)
    obtain ⟨T3, h3, X3, e3, W3, st3⟩ := stD X1 hx hZ e1 Aru2 (j := (0 : Int32)) (inb_of Su2 ⟨by decide, by decide⟩) (g := (mkF m 54 #[.val (.int p1), .val (.int p2), .val (.int p3), .val (.int p4), .val (.int p5), .val (.int p6), .val (.int (Int32.ofNat (n1 + 1))), .val (.int ds), .val (.int (Int32.ofNat jj)), .val (.int (Int32.ofNat pl)), .val (.ref b1), .unset, .unset, .unset, .unset] [(.double (FP.i2d p2)), (.int (0 : Int32)), (.ref b1)])) rfl rfl (hb hby at_54)
    have Va3 := Arv.set Aru2 qu2 Su2 Nu2 Hu2 Gu2 rfl W3 0 rfl (by first | (simp; done) | exact Nat.le_of_ble_eq_true rfl)
    have K3 := K1.wr W3 (Or.inr sz_b1)
    have N3 := Fr.snoc X3 N0 g_b1
    have Z3 : n0 ≤ h3.size := by rw [W3.size]; exact Z1
    refine own_st (T' := T3) (g' := (mkF m 55 #[.val (.int p1), .val (.int p2), .val (.int p3), .val (.int p4), .val (.int p5), .val (.int p6), .val (.int (Int32.ofNat (n1 + 1))), .val (.int ds), .val (.int (Int32.ofNat jj)), .val (.int (Int32.ofNat pl)), .val (.ref b1), .unset, .unset, .unset, .unset] [])) (fun t9 k9 => st3 t9 k9) ?_
    refine own_st (T' := T3) (g' := (mkF m 57 #[.val (.int p1), .val (.int p2), .val (.int p3), .val (.int p4), .val (.int p5), .val (.int p6), .val (.int (Int32.ofNat (n1 + 1))), .val (.int ds), .val (.int (Int32.ofNat jj)), .val (.int (Int32.ofNat pl)), .val (.ref b1), .unset, .unset, .unset, .unset] [(.ref b1)])) (fun t9 k9 => XS.aload X3.here hx rfl (hb hby at_55) rfl rfl k9) ?_
    refine own_st (T' := T3) (g' := (mkF m 58 #[.val (.int p1), .val (.int p2), .val (.int p3), .val (.int p4), .val (.int p5), .val (.int p6), .val (.int (Int32.ofNat (n1 + 1))), .val (.int ds), .val (.int (Int32.ofNat jj)), .val (.int (Int32.ofNat pl)), .val (.ref b1), .unset, .unset, .unset, .unset] [(.int (1 : Int32)), (.ref b1)])) (fun t9 k9 => XS.iconst X3.here hx rfl (hb hby at_57) k9) ?_
    refine own_st (T' := T3) (g' := (mkF m 59 #[.val (.int p1), .val (.int p2), .val (.int p3), .val (.int p4), .val (.int p5), .val (.int p6), .val (.int (Int32.ofNat (n1 + 1))), .val (.int ds), .val (.int (Int32.ofNat jj)), .val (.int (Int32.ofNat pl)), .val (.ref b1), .unset, .unset, .unset, .unset] [(.int p3), (.int (1 : Int32)), (.ref b1)])) (fun t9 k9 => XS.iloadN X3.here hx rfl (hb hby at_58) rfl k9) ?_
    refine own_st (T' := T3) (g' := (mkF m 60 #[.val (.int p1), .val (.int p2), .val (.int p3), .val (.int p4), .val (.int p5), .val (.int p6), .val (.int (Int32.ofNat (n1 + 1))), .val (.int ds), .val (.int (Int32.ofNat jj)), .val (.int (Int32.ofNat pl)), .val (.ref b1), .unset, .unset, .unset, .unset] [(.double (FP.i2d p3)), (.int (1 : Int32)), (.ref b1)])) (fun t9 k9 => XS.i2dS X3.here hx rfl (hb hby at_59) rfl rfl k9) ?_
    obtain ⟨clu4, Aru4, qu4, Su4, Nu4, Hu4, Gu4⟩ := (id Va3)
    obtain ⟨T5, h5, X5, e5, W5, st5⟩ := stD X3 hx hZ e3 Aru4 (j := (1 : Int32)) (inb_of Su4 ⟨by decide, by decide⟩) (g := (mkF m 60 #[.val (.int p1), .val (.int p2), .val (.int p3), .val (.int p4), .val (.int p5), .val (.int p6), .val (.int (Int32.ofNat (n1 + 1))), .val (.int ds), .val (.int (Int32.ofNat jj)), .val (.int (Int32.ofNat pl)), .val (.ref b1), .unset, .unset, .unset, .unset] [(.double (FP.i2d p3)), (.int (1 : Int32)), (.ref b1)])) rfl rfl (hb hby at_60)
    have Va5 := Arv.set Aru4 qu4 Su4 Nu4 Hu4 Gu4 rfl W5 1 rfl (by first | (simp; done) | exact Nat.le_of_ble_eq_true rfl)
    have K5 := K3.wr W5 (Or.inr sz_b1)
    have N5 := Fr.snoc X5 N3 g_b1
    have Z5 : n0 ≤ h5.size := by rw [W5.size]; exact Z3
    refine own_st (T' := T5) (g' := (mkF m 61 #[.val (.int p1), .val (.int p2), .val (.int p3), .val (.int p4), .val (.int p5), .val (.int p6), .val (.int (Int32.ofNat (n1 + 1))), .val (.int ds), .val (.int (Int32.ofNat jj)), .val (.int (Int32.ofNat pl)), .val (.ref b1), .unset, .unset, .unset, .unset] [])) (fun t9 k9 => st5 t9 k9) ?_
    refine own_st (T' := T5) (g' := (mkF m 63 #[.val (.int p1), .val (.int p2), .val (.int p3), .val (.int p4), .val (.int p5), .val (.int p6), .val (.int (Int32.ofNat (n1 + 1))), .val (.int ds), .val (.int (Int32.ofNat jj)), .val (.int (Int32.ofNat pl)), .val (.ref b1), .unset, .unset, .unset, .unset] [(.ref b1)])) (fun t9 k9 => XS.aload X5.here hx rfl (hb hby at_61) rfl rfl k9) ?_
    refine own_st (T' := T5) (g' := (mkF m 64 #[.val (.int p1), .val (.int p2), .val (.int p3), .val (.int p4), .val (.int p5), .val (.int p6), .val (.int (Int32.ofNat (n1 + 1))), .val (.int ds), .val (.int (Int32.ofNat jj)), .val (.int (Int32.ofNat pl)), .val (.ref b1), .unset, .unset, .unset, .unset] [(.int (2 : Int32)), (.ref b1)])) (fun t9 k9 => XS.iconst X5.here hx rfl (hb hby at_63) k9) ?_
    refine own_st (T' := T5) (g' := (mkF m 65 #[.val (.int p1), .val (.int p2), .val (.int p3), .val (.int p4), .val (.int p5), .val (.int p6), .val (.int (Int32.ofNat (n1 + 1))), .val (.int ds), .val (.int (Int32.ofNat jj)), .val (.int (Int32.ofNat pl)), .val (.ref b1), .unset, .unset, .unset, .unset] [(.int p4), (.int (2 : Int32)), (.ref b1)])) (fun t9 k9 => XS.iloadN X5.here hx rfl (hb hby at_64) rfl k9) ?_
    refine own_st (T' := T5) (g' := (mkF m 66 #[.val (.int p1), .val (.int p2), .val (.int p3), .val (.int p4), .val (.int p5), .val (.int p6), .val (.int (Int32.ofNat (n1 + 1))), .val (.int ds), .val (.int (Int32.ofNat jj)), .val (.int (Int32.ofNat pl)), .val (.ref b1), .unset, .unset, .unset, .unset] [(.double (FP.i2d p4)), (.int (2 : Int32)), (.ref b1)])) (fun t9 k9 => XS.i2dS X5.here hx rfl (hb hby at_65) rfl rfl k9) ?_
    obtain ⟨clu6, Aru6, qu6, Su6, Nu6, Hu6, Gu6⟩ := (id Va5)
    obtain ⟨T7, h7, X7, e7, W7, st7⟩ := stD X5 hx hZ e5 Aru6 (j := (2 : Int32)) (inb_of Su6 ⟨by decide, by decide⟩) (g := (mkF m 66 #[.val (.int p1), .val (.int p2), .val (.int p3), .val (.int p4), .val (.int p5), .val (.int p6), .val (.int (Int32.ofNat (n1 + 1))), .val (.int ds), .val (.int (Int32.ofNat jj)), .val (.int (Int32.ofNat pl)), .val (.ref b1), .unset, .unset, .unset, .unset] [(.double (FP.i2d p4)), (.int (2 : Int32)), (.ref b1)])) rfl rfl (hb hby at_66)
    have Va7 := Arv.set Aru6 qu6 Su6 Nu6 Hu6 Gu6 rfl W7 2 rfl (by first | (simp; done) | exact Nat.le_of_ble_eq_true rfl)
    have K7 := K5.wr W7 (Or.inr sz_b1)
    have N7 := Fr.snoc X7 N5 g_b1
    have Z7 : n0 ≤ h7.size := by rw [W7.size]; exact Z5
    refine own_st (T' := T7) (g' := (mkF m 67 #[.val (.int p1), .val (.int p2), .val (.int p3), .val (.int p4), .val (.int p5), .val (.int p6), .val (.int (Int32.ofNat (n1 + 1))), .val (.int ds), .val (.int (Int32.ofNat jj)), .val (.int (Int32.ofNat pl)), .val (.ref b1), .unset, .unset, .unset, .unset] [])) (fun t9 k9 => st7 t9 k9) ?_
    refine own_st (T' := T7) (g' := (mkF m 69 #[.val (.int p1), .val (.int p2), .val (.int p3), .val (.int p4), .val (.int p5), .val (.int p6), .val (.int (Int32.ofNat (n1 + 1))), .val (.int ds), .val (.int (Int32.ofNat jj)), .val (.int (Int32.ofNat pl)), .val (.ref b1), .unset, .unset, .unset, .unset] [(.ref b1)])) (fun t9 k9 => XS.aload X7.here hx rfl (hb hby at_67) rfl rfl k9) ?_
    refine own_st (T' := T7) (g' := (mkF m 70 #[.val (.int p1), .val (.int p2), .val (.int p3), .val (.int p4), .val (.int p5), .val (.int p6), .val (.int (Int32.ofNat (n1 + 1))), .val (.int ds), .val (.int (Int32.ofNat jj)), .val (.int (Int32.ofNat pl)), .val (.ref b1), .unset, .unset, .unset, .unset] [(.int (3 : Int32)), (.ref b1)])) (fun t9 k9 => XS.iconst X7.here hx rfl (hb hby at_69) k9) ?_
    refine own_st (T' := T7) (g' := (mkF m 72 #[.val (.int p1), .val (.int p2), .val (.int p3), .val (.int p4), .val (.int p5), .val (.int p6), .val (.int (Int32.ofNat (n1 + 1))), .val (.int ds), .val (.int (Int32.ofNat jj)), .val (.int (Int32.ofNat pl)), .val (.ref b1), .unset, .unset, .unset, .unset] [(.int p5), (.int (3 : Int32)), (.ref b1)])) (fun t9 k9 => XS.iload X7.here hx rfl (hb hby at_70) rfl k9) ?_
    refine own_st (T' := T7) (g' := (mkF m 73 #[.val (.int p1), .val (.int p2), .val (.int p3), .val (.int p4), .val (.int p5), .val (.int p6), .val (.int (Int32.ofNat (n1 + 1))), .val (.int ds), .val (.int (Int32.ofNat jj)), .val (.int (Int32.ofNat pl)), .val (.ref b1), .unset, .unset, .unset, .unset] [(.double (FP.i2d p5)), (.int (3 : Int32)), (.ref b1)])) (fun t9 k9 => XS.i2dS X7.here hx rfl (hb hby at_72) rfl rfl k9) ?_
    obtain ⟨clu8, Aru8, qu8, Su8, Nu8, Hu8, Gu8⟩ := (id Va7)
    obtain ⟨T9, h9, X9, e9, W9, st9⟩ := stD X7 hx hZ e7 Aru8 (j := (3 : Int32)) (inb_of Su8 ⟨by decide, by decide⟩) (g := (mkF m 73 #[.val (.int p1), .val (.int p2), .val (.int p3), .val (.int p4), .val (.int p5), .val (.int p6), .val (.int (Int32.ofNat (n1 + 1))), .val (.int ds), .val (.int (Int32.ofNat jj)), .val (.int (Int32.ofNat pl)), .val (.ref b1), .unset, .unset, .unset, .unset] [(.double (FP.i2d p5)), (.int (3 : Int32)), (.ref b1)])) rfl rfl (hb hby at_73)
    have Va9 := Arv.set Aru8 qu8 Su8 Nu8 Hu8 Gu8 rfl W9 3 rfl (by first | (simp; done) | exact Nat.le_of_ble_eq_true rfl)
    have K9 := K7.wr W9 (Or.inr sz_b1)
    have N9 := Fr.snoc X9 N7 g_b1
    have Z9 : n0 ≤ h9.size := by rw [W9.size]; exact Z7
    refine own_st (T' := T9) (g' := (mkF m 74 #[.val (.int p1), .val (.int p2), .val (.int p3), .val (.int p4), .val (.int p5), .val (.int p6), .val (.int (Int32.ofNat (n1 + 1))), .val (.int ds), .val (.int (Int32.ofNat jj)), .val (.int (Int32.ofNat pl)), .val (.ref b1), .unset, .unset, .unset, .unset] [])) (fun t9 k9 => st9 t9 k9) ?_
    have hX : own_D ((((([Value.double 0, .double 0, .double 0, .double 0].set 0 (.double (FP.i2d p2))).set 1 (.double (FP.i2d p3))).set 2 (.double (FP.i2d p4))).set 3 (.double (FP.i2d p5)))) 4 (own_dk (FP.i2d p2) (FP.i2d p3) (FP.i2d p4) (FP.i2d p5)) := ⟨rfl, fun j hj => by
        match j, hj with
        | 0, _ => exact ⟨rfl, own_i2d _⟩
        | 1, _ => exact ⟨rfl, own_i2d _⟩
        | 2, _ => exact ⟨rfl, own_i2d _⟩
        | 3, _ => exact ⟨rfl, own_i2d _⟩⟩
    refine own_st (T' := T9) (g' := (mkF m 76 #[.val (.int p1), .val (.int p2), .val (.int p3), .val (.int p4), .val (.int p5), .val (.int p6), .val (.int (Int32.ofNat (n1 + 1))), .val (.int ds), .val (.int (Int32.ofNat jj)), .val (.int (Int32.ofNat pl)), .val (.ref b1), .unset, .unset, .unset, .unset] [(.int p6)])) (fun t9 k9 => XS.iload X9.here hx rfl (hb hby at_74) rfl k9) ?_
    refine own_st (T' := T9) (g' := (mkF m 77 #[.val (.int p1), .val (.int p2), .val (.int p3), .val (.int p4), .val (.int p5), .val (.int p6), .val (.int (Int32.ofNat (n1 + 1))), .val (.int ds), .val (.int (Int32.ofNat jj)), .val (.int (Int32.ofNat pl)), .val (.ref b1), .unset, .unset, .unset, .unset] [(.double (FP.i2d p6))])) (fun t9 k9 => XS.i2dS X9.here hx rfl (hb hby at_76) rfl rfl k9) ?_
    refine own_st (T' := T9) (g' := (mkF m 79 #[.val (.int p1), .val (.int p2), .val (.int p3), .val (.int p4), .val (.int p5), .val (.int p6), .val (.int (Int32.ofNat (n1 + 1))), .val (.int ds), .val (.int (Int32.ofNat jj)), .val (.int (Int32.ofNat pl)), .val (.ref b1), .val (.double (FP.i2d p6)), .second, .unset, .unset] [])) (fun t9 k9 => XS.dstore X9.here hx rfl (hb hby at_77) rfl (l' := #[.val (.int p1), .val (.int p2), .val (.int p3), .val (.int p4), .val (.int p5), .val (.int p6), .val (.int (Int32.ofNat (n1 + 1))), .val (.int ds), .val (.int (Int32.ofNat jj)), .val (.int (Int32.ofNat pl)), .val (.ref b1), .val (.double (FP.i2d p6)), .second, .unset, .unset]) rfl k9) ?_
    obtain ⟨T10, h10, X10, e10, Ex10, A10, D10, -, st10⟩ := newO X9 hx hZ hown (hw _ (List.mem_of_getElem? (i := 1) rfl)) (hw _ (List.mem_of_getElem? (i := 2) rfl)) (hw _ (List.mem_of_getElem? (i := 3) rfl)) e9 (g := (mkF m 79 #[.val (.int p1), .val (.int p2), .val (.int p3), .val (.int p4), .val (.int p5), .val (.int p6), .val (.int (Int32.ofNat (n1 + 1))), .val (.int ds), .val (.int (Int32.ofNat jj)), .val (.int (Int32.ofNat pl)), .val (.ref b1), .val (.double (FP.i2d p6)), .second, .unset, .unset] [])) rfl (hb hby at_79) (by decide) (by decide)
    obtain ⟨b10, gb10⟩ : ∃ z, z = h9.size := ⟨_, rfl⟩
    have ne_b1_b10 : b1 ≠ b10 := own_ne gb10 Va9.lt
    have g_b10 : n0 ≤ b10 := gb10 ▸ Z9
    have sz_b10 : h0.size ≤ b10 := gb10 ▸ K9.1
    rw [← gb10] at A10 D10 st10
    have Va9_11 := Va9.ext Ex10
    have K10 := K9.ext Ex10
    have Z10 : n0 ≤ h10.size := Nat.le_trans Z9 Ex10.1
    have F_largestKey_b10 : Fld Z h10 b10 "com/example/shelfwright/shelfwright/packers/FirstFit" "largestKey" "[D" .null := D10 (Or.inl (hw _ (List.mem_of_getElem? (i := 12) rfl))) (ty := (.array .double)) (by decide)
    have F_capacity_b10 : Fld Z h10 b10 "com/example/shelfwright/shelfwright/packers/FirstFit" "capacity" "I" (.int (0 : Int32)) := D10 (Or.inl (hw _ (List.mem_of_getElem? (i := 14) rfl))) (ty := .int) (by decide)
    have F_count_b10 : Fld Z h10 b10 "com/example/shelfwright/shelfwright/packers/FirstFit" "count" "I" (.int (0 : Int32)) := D10 (Or.inl (hw _ (List.mem_of_getElem? (i := 21) rfl))) (ty := .int) (by decide)
    refine own_st (T' := T10) (g' := (mkF m 82 #[.val (.int p1), .val (.int p2), .val (.int p3), .val (.int p4), .val (.int p5), .val (.int p6), .val (.int (Int32.ofNat (n1 + 1))), .val (.int ds), .val (.int (Int32.ofNat jj)), .val (.int (Int32.ofNat pl)), .val (.ref b1), .val (.double (FP.i2d p6)), .second, .unset, .unset] [(.ref b10)])) (fun t9 k9 => st10 t9 k9) ?_
    refine own_st (T' := T10) (g' := (mkF m 83 #[.val (.int p1), .val (.int p2), .val (.int p3), .val (.int p4), .val (.int p5), .val (.int p6), .val (.int (Int32.ofNat (n1 + 1))), .val (.int ds), .val (.int (Int32.ofNat jj)), .val (.int (Int32.ofNat pl)), .val (.ref b1), .val (.double (FP.i2d p6)), .second, .unset, .unset] [(.ref b10), (.ref b10)])) (fun t9 k9 => XS.dup X10.here hx rfl (hb hby at_82) rfl rfl k9) ?_
    have lt_b1_0 := Va9_11.lt
    have lt_b10_0 := A10.lt
    have Kp0 := K10
    obtain ⟨_, _, ⟨T12, L12, k12, n12⟩, -, X12, ⟨Lc12, hQ12, l12, y12, z12⟩, st12⟩ := X10.specialBack hx (y := (⟨"com/example/shelfwright/shelfwright/packers/FirstFit", "<init>", "()V"⟩ : MethodName)) rfl hown (mvT hZ (hw _ (List.mem_of_getElem? (i := 4) rfl))) (mvT hZ (hw _ (List.mem_of_getElem? (i := 5) rfl))) (mvT hZ (hw _ (List.mem_of_getElem? (i := 6) rfl))) (by decide) (own_back (W := 1) (rm1 l Z a0 hw b10 .null (.int 0) h10 n0 Z10 A10 F_largestKey_b10 F_capacity_b10 F_count_b10 g_b10) hZ (hw _ (List.mem_of_getElem? (i := 6) rfl)) (hw _ (List.mem_of_getElem? (i := 3) rfl)) (by decide) (by decide)) (g := (mkF m 83 #[.val (.int p1), .val (.int p2), .val (.int p3), .val (.int p4), .val (.int p5), .val (.int p6), .val (.int (Int32.ofNat (n1 + 1))), .val (.int ds), .val (.int (Int32.ofNat jj)), .val (.int (Int32.ofNat pl)), .val (.ref b1), .val (.double (FP.i2d p6)), .second, .unset, .unset] [(.ref b10), (.ref b10)])) rfl (by rw [hml]; rfl) (Steps.refl _) (a := b10) (argsL := []) (rest := [(.ref b10)]) (lenOf pd_0 rfl) rfl (by show 2 * 0 + _ ≤ _; exact Nat.le_of_eq rfl) (hb hby at_83) (fun _ _ => ⟨rfl, e10, (Nat.le_of_ble_eq_true rfl), (Nat.le_of_ble_eq_true rfl)⟩)
    dsimp only [Pt.U, Pt.locs, Pt.cells, Pt.slots] at X12 l12 y12 z12 st12 hQ12
    subst l12 y12 z12
    obtain ⟨d12, kd12, vd12, rfl, Nq12, Kq12, sz12, g_d12, Eq12, Fl12, Fc12, Fn12, Vq12, hv12⟩ := hQ12
    have N12 := Fr.app N9 Nq12
    obtain ⟨h12, e12⟩ : ∃ z, T12.heap = z := ⟨_, rfl⟩
    rw [e12] at Kq12 Eq12 Fl12 Fc12 Fn12 Vq12
    have Va9_13 := Va9_11.keep Kq12 (ninS ne_b1_b10 nin0)
    have A10_14 := A10.keep Kq12
    have K12 := K10.trans Kq12 (allS (Or.inr sz_b10) all0)
    have Z12 : n0 ≤ h12.size := Nat.le_trans Z10 Kq12.1
    refine own_st (T' := T12) (g' := (mkF m 86 #[.val (.int p1), .val (.int p2), .val (.int p3), .val (.int p4), .val (.int p5), .val (.int p6), .val (.int (Int32.ofNat (n1 + 1))), .val (.int ds), .val (.int (Int32.ofNat jj)), .val (.int (Int32.ofNat pl)), .val (.ref b1), .val (.double (FP.i2d p6)), .second, .unset, .unset] [(.ref b10)])) (fun t9 k9 => st12.trans k9) ?_
    have hne0 : d12 ≠ b10 := Nat.ne_of_gt (Nat.lt_of_lt_of_le lt_b10_0 sz12)
    have hnx0 : b1 ≠ d12 := Nat.ne_of_lt (Nat.lt_of_lt_of_le lt_b1_0 sz12)
    rcases (show n1 = 0 ∨ n1 = 1 ∨ n1 = 2 ∨ n1 = 3 by omega) with rfl | rfl | rfl | rfl
    · show own_Go p e below F T12 (mkF m 86 #[.val (.int p1), .val (.int p2), .val (.int p3), .val (.int p4), .val (.int p5), .val (.int p6), .val (.int (Int32.ofNat (0 + 1))), .val (.int ds), .val (.int (Int32.ofNat jj)), .val (.int (Int32.ofNat pl)), .val (.ref b1), .val (.double (FP.i2d p6)), .second, .unset, .unset] [(.ref b10)])
      refine own_st (T' := T12) (g' := (mkF m 88 #[.val (.int p1), .val (.int p2), .val (.int p3), .val (.int p4), .val (.int p5), .val (.int p6), .val (.int (Int32.ofNat (0 + 1))), .val (.int ds), .val (.int (Int32.ofNat jj)), .val (.int (Int32.ofNat pl)), .val (.ref b1), .val (.double (FP.i2d p6)), .second, .val (.ref b10), .unset] [])) (fun t9 k9 => XS.astore X12.here hx rfl (hb hby at_86) rfl rfl (l' := #[.val (.int p1), .val (.int p2), .val (.int p3), .val (.int p4), .val (.int p5), .val (.int p6), .val (.int (Int32.ofNat (0 + 1))), .val (.int ds), .val (.int (Int32.ofNat jj)), .val (.int (Int32.ofNat pl)), .val (.ref b1), .val (.double (FP.i2d p6)), .second, .val (.ref b10), .unset]) rfl k9) ?_
      have js1 : ∀ (T15 : State) (L15 : List Loc) (h15 : Heap) (dd : Addr) (kd : ClassId) (vq : List Value) (fq : Nat → UInt64) (cq : Nat), Stand p l e room_1 s m #[(.int p1), (.int p2), (.int p3), (.int p4), (.int p5), (.int p6)] below meth c T15 L15 (((0 + 1 + 1 + 1) + 2)) (((0 + 4 + 3 + 2) + 10)) → T15.heap = h15 → Fr n0 L15 → (n0 ≤ h15.size) → (Keep h0 h15 []) → (Exa Z h15 b10 "com/example/shelfwright/shelfwright/packers/FirstFit") → (Fld Z h15 b10 "com/example/shelfwright/shelfwright/packers/FirstFit" "largestKey" "[D" (.ref dd)) → (Fld Z h15 b10 "com/example/shelfwright/shelfwright/packers/FirstFit" "capacity" "I" (.int (Int32.ofNat cq))) → (Fld Z h15 b10 "com/example/shelfwright/shelfwright/packers/FirstFit" "count" "I" (.int (Int32.ofNat 1))) → (Arv Z h15 dd kd .double (Int32.ofNat (2 * cq)) vq (.double 0)) → (Arv Z h15 b1 k1 .double (4 : Int32) ((((([Value.double 0, .double 0, .double 0, .double 0].set 0 (.double (FP.i2d p2))).set 1 (.double (FP.i2d p3))).set 2 (.double (FP.i2d p4))).set 3 (.double (FP.i2d p5)))) (.double 0)) → (own_D vq (2 * cq) fq) → (cq ≤ 4) → (1 ≤ cq) → (cq = 1) → (n0 ≤ dd) → (dd ≠ b10) → (b1 ≠ dd) → (h0.size ≤ dd) → (∀ i, i < 1 → fq (cq + i) = (if (¬ ds = 0 ∧ jj < 1 ∧ i = pl) then (FP.i2d p6) else (own_dk (FP.i2d p2) (FP.i2d p3) (FP.i2d p4) (FP.i2d p5)) i)) → own_Go p e below F T15 (mkF m 117 #[.val (.int p1), .val (.int p2), .val (.int p3), .val (.int p4), .val (.int p5), .val (.int p6), .val (.int (Int32.ofNat (0 + 1))), .val (.int ds), .val (.int (Int32.ofNat jj)), .val (.int (Int32.ofNat pl)), .val (.ref b1), .val (.double (FP.i2d p6)), .second, .val (.ref b10), .unset] []) := by
        intro T15 L15 h15 dd kd vq fq cq X15 e15 N15 Z15 K15 Ee FlargestKey9 Fcapacity9 Fcount9 Vd9 Vx9 hq hcq hkq hpow g_dd hna hnx hsz hkp
        refine own_st (T' := T15) (g' := (mkF m 119 #[.val (.int p1), .val (.int p2), .val (.int p3), .val (.int p4), .val (.int p5), .val (.int p6), .val (.int (Int32.ofNat (0 + 1))), .val (.int ds), .val (.int (Int32.ofNat jj)), .val (.int (Int32.ofNat pl)), .val (.ref b1), .val (.double (FP.i2d p6)), .second, .val (.ref b10), .unset] [(.int (Int32.ofNat (0 + 1)))])) (fun t9 k9 => XS.iload X15.here hx rfl (hb hby at_117) rfl k9) ?_
        refine own_st (T' := T15) (g' := (mkF m 120 #[.val (.int p1), .val (.int p2), .val (.int p3), .val (.int p4), .val (.int p5), .val (.int p6), .val (.int (Int32.ofNat (0 + 1))), .val (.int ds), .val (.int (Int32.ofNat jj)), .val (.int (Int32.ofNat pl)), .val (.ref b1), .val (.double (FP.i2d p6)), .second, .val (.ref b10), .unset] [(.int (1 : Int32)), (.int (Int32.ofNat (0 + 1)))])) (fun t9 k9 => XS.iconst X15.here hx rfl (hb hby at_119) k9) ?_
        refine own_st (T' := T15) (g' := (mkF m 153 #[.val (.int p1), .val (.int p2), .val (.int p3), .val (.int p4), .val (.int p5), .val (.int p6), .val (.int (Int32.ofNat (0 + 1))), .val (.int ds), .val (.int (Int32.ofNat jj)), .val (.int (Int32.ofNat pl)), .val (.ref b1), .val (.double (FP.i2d p6)), .second, .val (.ref b10), .unset] [])) (fun t9 k9 => XS.icmpYes X15.here hx rfl (pc0 := 120) (pc' := 153) rfl (hb hby at_120) rfl (flt (own_nlt (i := 1) (n := 1) (by omega) (by omega))).2.2.2 (by decide) (by decide) k9) ?_
        refine own_st (T' := T15) (g' := (mkF m 155 #[.val (.int p1), .val (.int p2), .val (.int p3), .val (.int p4), .val (.int p5), .val (.int p6), .val (.int (Int32.ofNat (0 + 1))), .val (.int ds), .val (.int (Int32.ofNat jj)), .val (.int (Int32.ofNat pl)), .val (.ref b1), .val (.double (FP.i2d p6)), .second, .val (.ref b10), .unset] [(.int (Int32.ofNat (0 + 1)))])) (fun t9 k9 => XS.iload X15.here hx rfl (hb hby at_153) rfl k9) ?_
        refine own_st (T' := T15) (g' := (mkF m 156 #[.val (.int p1), .val (.int p2), .val (.int p3), .val (.int p4), .val (.int p5), .val (.int p6), .val (.int (Int32.ofNat (0 + 1))), .val (.int ds), .val (.int (Int32.ofNat jj)), .val (.int (Int32.ofNat pl)), .val (.ref b1), .val (.double (FP.i2d p6)), .second, .val (.ref b10), .unset] [(.int (2 : Int32)), (.int (Int32.ofNat (0 + 1)))])) (fun t9 k9 => XS.iconst X15.here hx rfl (hb hby at_155) k9) ?_
        refine own_st (T' := T15) (g' := (mkF m 189 #[.val (.int p1), .val (.int p2), .val (.int p3), .val (.int p4), .val (.int p5), .val (.int p6), .val (.int (Int32.ofNat (0 + 1))), .val (.int ds), .val (.int (Int32.ofNat jj)), .val (.int (Int32.ofNat pl)), .val (.ref b1), .val (.double (FP.i2d p6)), .second, .val (.ref b10), .unset] [])) (fun t9 k9 => XS.icmpYes X15.here hx rfl (pc0 := 156) (pc' := 189) rfl (hb hby at_156) rfl (flt (own_nlt (i := 2) (n := 1) (by omega) (by omega))).2.2.2 (by decide) (by decide) k9) ?_
        refine own_st (T' := T15) (g' := (mkF m 191 #[.val (.int p1), .val (.int p2), .val (.int p3), .val (.int p4), .val (.int p5), .val (.int p6), .val (.int (Int32.ofNat (0 + 1))), .val (.int ds), .val (.int (Int32.ofNat jj)), .val (.int (Int32.ofNat pl)), .val (.ref b1), .val (.double (FP.i2d p6)), .second, .val (.ref b10), .unset] [(.int (Int32.ofNat (0 + 1)))])) (fun t9 k9 => XS.iload X15.here hx rfl (hb hby at_189) rfl k9) ?_
        refine own_st (T' := T15) (g' := (mkF m 192 #[.val (.int p1), .val (.int p2), .val (.int p3), .val (.int p4), .val (.int p5), .val (.int p6), .val (.int (Int32.ofNat (0 + 1))), .val (.int ds), .val (.int (Int32.ofNat jj)), .val (.int (Int32.ofNat pl)), .val (.ref b1), .val (.double (FP.i2d p6)), .second, .val (.ref b10), .unset] [(.int (3 : Int32)), (.int (Int32.ofNat (0 + 1)))])) (fun t9 k9 => XS.iconst X15.here hx rfl (hb hby at_191) k9) ?_
        refine own_st (T' := T15) (g' := (mkF m 225 #[.val (.int p1), .val (.int p2), .val (.int p3), .val (.int p4), .val (.int p5), .val (.int p6), .val (.int (Int32.ofNat (0 + 1))), .val (.int ds), .val (.int (Int32.ofNat jj)), .val (.int (Int32.ofNat pl)), .val (.ref b1), .val (.double (FP.i2d p6)), .second, .val (.ref b10), .unset] [])) (fun t9 k9 => XS.icmpYes X15.here hx rfl (pc0 := 192) (pc' := 225) rfl (hb hby at_192) rfl (flt (own_nlt (i := 3) (n := 1) (by omega) (by omega))).2.2.2 (by decide) (by decide) k9) ?_
        refine own_st (T' := T15) (g' := (mkF m 227 #[.val (.int p1), .val (.int p2), .val (.int p3), .val (.int p4), .val (.int p5), .val (.int p6), .val (.int (Int32.ofNat (0 + 1))), .val (.int ds), .val (.int (Int32.ofNat jj)), .val (.int (Int32.ofNat pl)), .val (.ref b1), .val (.double (FP.i2d p6)), .second, .val (.ref b10), .unset] [(.int ds)])) (fun t9 k9 => XS.iload X15.here hx rfl (hb hby at_225) rfl k9) ?_
        have jk : ∀ (T16 : State) (L16 : List Loc) (h16 : Heap) (vx : List Value), Stand p l e room_1 s m #[(.int p1), (.int p2), (.int p3), (.int p4), (.int p5), (.int p6)] below meth c T16 L16 (((0 + 1 + 1 + 1) + 2)) (((0 + 4 + 3 + 2) + 10)) → T16.heap = h16 → Fr n0 L16 → (n0 ≤ h16.size) → (Keep h0 h16 []) → (Exa Z h16 b10 "com/example/shelfwright/shelfwright/packers/FirstFit") → (Fld Z h16 b10 "com/example/shelfwright/shelfwright/packers/FirstFit" "largestKey" "[D" (.ref dd)) → (Fld Z h16 b10 "com/example/shelfwright/shelfwright/packers/FirstFit" "capacity" "I" (.int (Int32.ofNat cq))) → (Fld Z h16 b10 "com/example/shelfwright/shelfwright/packers/FirstFit" "count" "I" (.int (Int32.ofNat 1))) → (Arv Z h16 dd kd .double (Int32.ofNat (2 * cq)) vq (.double 0)) → (Arv Z h16 b1 k1 .double (4 : Int32) vx (.double 0)) → (own_D vx 4 (fun i => if (¬ ds = 0 ∧ jj < 1 ∧ i = pl) then (FP.i2d p6) else (own_dk (FP.i2d p2) (FP.i2d p3) (FP.i2d p4) (FP.i2d p5)) i)) → own_Go p e below F T16 (mkF m 237 #[.val (.int p1), .val (.int p2), .val (.int p3), .val (.int p4), .val (.int p5), .val (.int p6), .val (.int (Int32.ofNat (0 + 1))), .val (.int ds), .val (.int (Int32.ofNat jj)), .val (.int (Int32.ofNat pl)), .val (.ref b1), .val (.double (FP.i2d p6)), .second, .val (.ref b10), .unset] []) := by
          intro T16 L16 h16 vx X16 e16 N16 Z16 K16 Eex FlargestKey9x Fcapacity9x Fcount9x Vd9x Vx9x hx4
          refine own_st (T' := T16) (g' := (mkF m 239 #[.val (.int p1), .val (.int p2), .val (.int p3), .val (.int p4), .val (.int p5), .val (.int p6), .val (.int (Int32.ofNat (0 + 1))), .val (.int ds), .val (.int (Int32.ofNat jj)), .val (.int (Int32.ofNat pl)), .val (.ref b1), .val (.double (FP.i2d p6)), .second, .val (.ref b10), .unset] [(.ref b10)])) (fun t9 k9 => XS.aload X16.here hx rfl (hb hby at_237) rfl rfl k9) ?_
          refine own_st (T' := T16) (g' := (mkF m 240 #[.val (.int p1), .val (.int p2), .val (.int p3), .val (.int p4), .val (.int p5), .val (.int p6), .val (.int (Int32.ofNat (0 + 1))), .val (.int ds), .val (.int (Int32.ofNat jj)), .val (.int (Int32.ofNat pl)), .val (.ref b1), .val (.double (FP.i2d p6)), .second, .val (.ref b10), .unset] [(.int (0 : Int32)), (.ref b10)])) (fun t9 k9 => XS.iconst X16.here hx rfl (hb hby at_239) k9) ?_
          obtain ⟨cq17, kq17, qa17, qb17, qc17⟩ := isOf hZ e16 Eex
          obtain ⟨_, _, ⟨T17, L17, k17, n17⟩, -, X17, ⟨Lc17, hQ17, l17, y17, z17⟩, st17⟩ := X16.virtualBack hx (y := (⟨"com/example/shelfwright/shelfwright/packers/FirstFit", "key", "(I)D"⟩ : MethodName)) (z := (⟨"com/example/shelfwright/shelfwright/packers/FirstFit", "key", "(I)D"⟩ : MethodName)) hown (mvT hZ (hw _ (List.mem_of_getElem? (i := 27) rfl))) (mvT hZ (hw _ (List.mem_of_getElem? (i := 28) rfl))) (notFace_of_selects (args := #[]) (mvT hZ (hw _ (List.mem_of_getElem? (i := 30) rfl)))) (mvT hZ (hw _ (List.mem_of_getElem? (i := 30) rfl))) (mvT hZ (hw _ (List.mem_of_getElem? (i := 29) rfl))) (by decide) (own_back (W := 0) (rm5 l Z a0 hw b10 dd kd vq fq cq 0 h16 n0 Z16 FlargestKey9x Fcapacity9x Vd9x hq hcq (by omega)) hZ (hw _ (List.mem_of_getElem? (i := 31) rfl)) (hw _ (List.mem_of_getElem? (i := 3) rfl)) (by decide) (by decide)) qa17 qc17 (g := (mkF m 240 #[.val (.int p1), .val (.int p2), .val (.int p3), .val (.int p4), .val (.int p5), .val (.int p6), .val (.int (Int32.ofNat (0 + 1))), .val (.int ds), .val (.int (Int32.ofNat jj)), .val (.int (Int32.ofNat pl)), .val (.ref b1), .val (.double (FP.i2d p6)), .second, .val (.ref b10), .unset] [(.int (0 : Int32)), (.ref b10)])) rfl (by rw [hml]; rfl) (Steps.refl _) (argsL := [(.int (0 : Int32))]) (rest := []) (lenOf pd_3 rfl) rfl (by show 2 * 0 + _ ≤ _; exact Nat.le_of_eq rfl) (hb hby at_240) (fun _ _ => ⟨rfl, e16, (Nat.le_of_ble_eq_true rfl), (Nat.le_of_ble_eq_true rfl)⟩)
          dsimp only [Pt.U, Pt.locs, Pt.cells, Pt.slots] at X17 l17 y17 z17 st17 hQ17
          subst l17 y17 z17
          obtain ⟨rfl, Nq17, he17⟩ := hQ17
          have N17 := Fr.app N16 Nq17
          have e17 : T17.heap = h16 := he17
          refine own_st (T' := T17) (g' := (mkF m 243 #[.val (.int p1), .val (.int p2), .val (.int p3), .val (.int p4), .val (.int p5), .val (.int p6), .val (.int (Int32.ofNat (0 + 1))), .val (.int ds), .val (.int (Int32.ofNat jj)), .val (.int (Int32.ofNat pl)), .val (.ref b1), .val (.double (FP.i2d p6)), .second, .val (.ref b10), .unset] [(.double (fq (cq + 0)))])) (fun t9 k9 => st17.trans k9) ?_
          refine own_st (T' := T17) (g' := (mkF m 245 #[.val (.int p1), .val (.int p2), .val (.int p3), .val (.int p4), .val (.int p5), .val (.int p6), .val (.int (Int32.ofNat (0 + 1))), .val (.int ds), .val (.int (Int32.ofNat jj)), .val (.int (Int32.ofNat pl)), .val (.ref b1), .val (.double (FP.i2d p6)), .second, .val (.ref b10), .unset] [(.ref b1), (.double (fq (cq + 0)))])) (fun t9 k9 => XS.aload X17.here hx rfl (hb hby at_243) rfl rfl k9) ?_
          refine own_st (T' := T17) (g' := (mkF m 246 #[.val (.int p1), .val (.int p2), .val (.int p3), .val (.int p4), .val (.int p5), .val (.int p6), .val (.int (Int32.ofNat (0 + 1))), .val (.int ds), .val (.int (Int32.ofNat jj)), .val (.int (Int32.ofNat pl)), .val (.ref b1), .val (.double (FP.i2d p6)), .second, .val (.ref b10), .unset] [(.int (0 : Int32)), (.ref b1), (.double (fq (cq + 0)))])) (fun t9 k9 => XS.iconst X17.here hx rfl (hb hby at_245) k9) ?_
          obtain ⟨clu18, Aru18, qu18, Su18, Nu18, Hu18, Gu18⟩ := (id Vx9x)
          have hinu18 := inb_of Su18 (j := (0 : Int32)) ⟨by decide, by decide⟩
          refine own_st (T' := T17) (g' := (mkF m 247 #[.val (.int p1), .val (.int p2), .val (.int p3), .val (.int p4), .val (.int p5), .val (.int p6), .val (.int (Int32.ofNat (0 + 1))), .val (.int ds), .val (.int (Int32.ofNat jj)), .val (.int (Int32.ofNat pl)), .val (.ref b1), .val (.double (FP.i2d p6)), .second, .val (.ref b10), .unset] [(.double ((fun i => if (¬ ds = 0 ∧ jj < 1 ∧ i = pl) then (FP.i2d p6) else (own_dk (FP.i2d p2) (FP.i2d p3) (FP.i2d p4) (FP.i2d p5)) i) 0)), (.double (fq (cq + 0)))])) (fun t9 k9 => X17.daload hx (j := (0 : Int32)) (v := (.double ((fun i => if (¬ ds = 0 ∧ jj < 1 ∧ i = pl) then (FP.i2d p6) else (own_dk (FP.i2d p2) (FP.i2d p3) (FP.i2d p4) (FP.i2d p5)) i) 0))) (by rw [e17]; exact Aru18.1) (State.isArrayOf_alike hZ.alike Aru18.2.1) Aru18.2.2 hinu18 (Hu18.at hinu18 (hx4.2 0 (by decide)).1) (g := (mkF m 246 #[.val (.int p1), .val (.int p2), .val (.int p3), .val (.int p4), .val (.int p5), .val (.int p6), .val (.int (Int32.ofNat (0 + 1))), .val (.int ds), .val (.int (Int32.ofNat jj)), .val (.int (Int32.ofNat pl)), .val (.ref b1), .val (.double (FP.i2d p6)), .second, .val (.ref b10), .unset] [(.int (0 : Int32)), (.ref b1), (.double (fq (cq + 0)))])) rfl rfl (hb hby at_246) t9 k9) ?_
          refine own_st (T' := T17) (g' := (mkF m 248 #[.val (.int p1), .val (.int p2), .val (.int p3), .val (.int p4), .val (.int p5), .val (.int p6), .val (.int (Int32.ofNat (0 + 1))), .val (.int ds), .val (.int (Int32.ofNat jj)), .val (.int (Int32.ofNat pl)), .val (.ref b1), .val (.double (FP.i2d p6)), .second, .val (.ref b10), .unset] [(.int (cmpValue (FP.dcmp (fq (cq + 0)) ((fun i => if (¬ ds = 0 ∧ jj < 1 ∧ i = pl) then (FP.i2d p6) else (own_dk (FP.i2d p2) (FP.i2d p3) (FP.i2d p4) (FP.i2d p5)) i) 0)) .l))])) (fun t9 k9 => XS.dcmpS X17.here hx rfl (hb hby at_247) rfl rfl k9) ?_
          refine own_st (T' := T17) (g' := (mkF m 251 #[.val (.int p1), .val (.int p2), .val (.int p3), .val (.int p4), .val (.int p5), .val (.int p6), .val (.int (Int32.ofNat (0 + 1))), .val (.int ds), .val (.int (Int32.ofNat jj)), .val (.int (Int32.ofNat pl)), .val (.ref b1), .val (.double (FP.i2d p6)), .second, .val (.ref b10), .unset] [])) (fun t9 k9 => XS.ifNo X17.here hx rfl (hb hby at_248) rfl ((if0 _ _).trans (teq (dcmpV_eq (hkp 0 (by decide)) (hkp 0 (by decide) ▸ (hx4.2 0 (by decide)).2) _)).2) k9) ?_
          refine own_st (T' := T17) (g' := (mkF m 252 #[.val (.int p1), .val (.int p2), .val (.int p3), .val (.int p4), .val (.int p5), .val (.int p6), .val (.int (Int32.ofNat (0 + 1))), .val (.int ds), .val (.int (Int32.ofNat jj)), .val (.int (Int32.ofNat pl)), .val (.ref b1), .val (.double (FP.i2d p6)), .second, .val (.ref b10), .unset] [(.int (1 : Int32))])) (fun t9 k9 => XS.iconst X17.here hx rfl (hb hby at_251) k9) ?_
          refine own_st (T' := T17) (g' := (mkF m 256 #[.val (.int p1), .val (.int p2), .val (.int p3), .val (.int p4), .val (.int p5), .val (.int p6), .val (.int (Int32.ofNat (0 + 1))), .val (.int ds), .val (.int (Int32.ofNat jj)), .val (.int (Int32.ofNat pl)), .val (.ref b1), .val (.double (FP.i2d p6)), .second, .val (.ref b10), .unset] [(.int (1 : Int32))])) (fun t9 k9 => XS.goto X17.here hx rfl (pc0 := 252) (pc' := 256) rfl (hb hby at_252) (by decide) (by decide) k9) ?_
          refine own_st (T' := T17) (g' := (mkF m 258 #[.val (.int p1), .val (.int p2), .val (.int p3), .val (.int p4), .val (.int p5), .val (.int p6), .val (.int (Int32.ofNat (0 + 1))), .val (.int ds), .val (.int (Int32.ofNat jj)), .val (.int (Int32.ofNat pl)), .val (.ref b1), .val (.double (FP.i2d p6)), .second, .val (.ref b10), .val (.int (1 : Int32))] [])) (fun t9 k9 => XS.istore X17.here hx rfl (hb hby at_256) rfl (l' := #[.val (.int p1), .val (.int p2), .val (.int p3), .val (.int p4), .val (.int p5), .val (.int p6), .val (.int (Int32.ofNat (0 + 1))), .val (.int ds), .val (.int (Int32.ofNat jj)), .val (.int (Int32.ofNat pl)), .val (.ref b1), .val (.double (FP.i2d p6)), .second, .val (.ref b10), .val (.int (1 : Int32))]) rfl k9) ?_
          refine own_st (T' := T17) (g' := (mkF m 260 #[.val (.int p1), .val (.int p2), .val (.int p3), .val (.int p4), .val (.int p5), .val (.int p6), .val (.int (Int32.ofNat (0 + 1))), .val (.int ds), .val (.int (Int32.ofNat jj)), .val (.int (Int32.ofNat pl)), .val (.ref b1), .val (.double (FP.i2d p6)), .second, .val (.ref b10), .val (.int (1 : Int32))] [(.int (Int32.ofNat (0 + 1)))])) (fun t9 k9 => XS.iload X17.here hx rfl (hb hby at_258) rfl k9) ?_
          refine own_st (T' := T17) (g' := (mkF m 261 #[.val (.int p1), .val (.int p2), .val (.int p3), .val (.int p4), .val (.int p5), .val (.int p6), .val (.int (Int32.ofNat (0 + 1))), .val (.int ds), .val (.int (Int32.ofNat jj)), .val (.int (Int32.ofNat pl)), .val (.ref b1), .val (.double (FP.i2d p6)), .second, .val (.ref b10), .val (.int (1 : Int32))] [(.int (1 : Int32)), (.int (Int32.ofNat (0 + 1)))])) (fun t9 k9 => XS.iconst X17.here hx rfl (hb hby at_260) k9) ?_
          refine own_st (T' := T17) (g' := (mkF m 290 #[.val (.int p1), .val (.int p2), .val (.int p3), .val (.int p4), .val (.int p5), .val (.int p6), .val (.int (Int32.ofNat (0 + 1))), .val (.int ds), .val (.int (Int32.ofNat jj)), .val (.int (Int32.ofNat pl)), .val (.ref b1), .val (.double (FP.i2d p6)), .second, .val (.ref b10), .val (.int (1 : Int32))] [])) (fun t9 k9 => XS.icmpYes X17.here hx rfl (pc0 := 261) (pc' := 290) rfl (hb hby at_261) rfl (flt (own_nlt (i := 1) (n := 1) (by omega) (by omega))).2.2.2 (by decide) (by decide) k9) ?_
          refine own_st (T' := T17) (g' := (mkF m 292 #[.val (.int p1), .val (.int p2), .val (.int p3), .val (.int p4), .val (.int p5), .val (.int p6), .val (.int (Int32.ofNat (0 + 1))), .val (.int ds), .val (.int (Int32.ofNat jj)), .val (.int (Int32.ofNat pl)), .val (.ref b1), .val (.double (FP.i2d p6)), .second, .val (.ref b10), .val (.int (1 : Int32))] [(.int (Int32.ofNat (0 + 1)))])) (fun t9 k9 => XS.iload X17.here hx rfl (hb hby at_290) rfl k9) ?_
          refine own_st (T' := T17) (g' := (mkF m 293 #[.val (.int p1), .val (.int p2), .val (.int p3), .val (.int p4), .val (.int p5), .val (.int p6), .val (.int (Int32.ofNat (0 + 1))), .val (.int ds), .val (.int (Int32.ofNat jj)), .val (.int (Int32.ofNat pl)), .val (.ref b1), .val (.double (FP.i2d p6)), .second, .val (.ref b10), .val (.int (1 : Int32))] [(.int (2 : Int32)), (.int (Int32.ofNat (0 + 1)))])) (fun t9 k9 => XS.iconst X17.here hx rfl (hb hby at_292) k9) ?_
          refine own_st (T' := T17) (g' := (mkF m 322 #[.val (.int p1), .val (.int p2), .val (.int p3), .val (.int p4), .val (.int p5), .val (.int p6), .val (.int (Int32.ofNat (0 + 1))), .val (.int ds), .val (.int (Int32.ofNat jj)), .val (.int (Int32.ofNat pl)), .val (.ref b1), .val (.double (FP.i2d p6)), .second, .val (.ref b10), .val (.int (1 : Int32))] [])) (fun t9 k9 => XS.icmpYes X17.here hx rfl (pc0 := 293) (pc' := 322) rfl (hb hby at_293) rfl (flt (own_nlt (i := 2) (n := 1) (by omega) (by omega))).2.2.2 (by decide) (by decide) k9) ?_
          refine own_st (T' := T17) (g' := (mkF m 324 #[.val (.int p1), .val (.int p2), .val (.int p3), .val (.int p4), .val (.int p5), .val (.int p6), .val (.int (Int32.ofNat (0 + 1))), .val (.int ds), .val (.int (Int32.ofNat jj)), .val (.int (Int32.ofNat pl)), .val (.ref b1), .val (.double (FP.i2d p6)), .second, .val (.ref b10), .val (.int (1 : Int32))] [(.int (Int32.ofNat (0 + 1)))])) (fun t9 k9 => XS.iload X17.here hx rfl (hb hby at_322) rfl k9) ?_
          refine own_st (T' := T17) (g' := (mkF m 325 #[.val (.int p1), .val (.int p2), .val (.int p3), .val (.int p4), .val (.int p5), .val (.int p6), .val (.int (Int32.ofNat (0 + 1))), .val (.int ds), .val (.int (Int32.ofNat jj)), .val (.int (Int32.ofNat pl)), .val (.ref b1), .val (.double (FP.i2d p6)), .second, .val (.ref b10), .val (.int (1 : Int32))] [(.int (3 : Int32)), (.int (Int32.ofNat (0 + 1)))])) (fun t9 k9 => XS.iconst X17.here hx rfl (hb hby at_324) k9) ?_
          refine own_st (T' := T17) (g' := (mkF m 354 #[.val (.int p1), .val (.int p2), .val (.int p3), .val (.int p4), .val (.int p5), .val (.int p6), .val (.int (Int32.ofNat (0 + 1))), .val (.int ds), .val (.int (Int32.ofNat jj)), .val (.int (Int32.ofNat pl)), .val (.ref b1), .val (.double (FP.i2d p6)), .second, .val (.ref b10), .val (.int (1 : Int32))] [])) (fun t9 k9 => XS.icmpYes X17.here hx rfl (pc0 := 325) (pc' := 354) rfl (hb hby at_325) rfl (flt (own_nlt (i := 3) (n := 1) (by omega) (by omega))).2.2.2 (by decide) (by decide) k9) ?_
          refine own_st (T' := T17) (g' := (mkF m 356 #[.val (.int p1), .val (.int p2), .val (.int p3), .val (.int p4), .val (.int p5), .val (.int p6), .val (.int (Int32.ofNat (0 + 1))), .val (.int ds), .val (.int (Int32.ofNat jj)), .val (.int (Int32.ofNat pl)), .val (.ref b1), .val (.double (FP.i2d p6)), .second, .val (.ref b10), .val (.int (1 : Int32))] [(.int (1 : Int32))])) (fun t9 k9 => XS.iload X17.here hx rfl (hb hby at_354) rfl k9) ?_
          refine own_ret (v := some (.int (1 : Int32))) hF X17 (own_some hret) hlk (fun fs hr => retN X17 hx (t := .boolean) hret (by simp) (hb hby at_356) hr) ?_ (by decide) (by decide)
          try rw [e17]
          exact ⟨rfl, N17⟩
        by_cases hd0 : ds = (0 : Int32)
        · refine own_st (T' := T15) (g' := (mkF m 237 #[.val (.int p1), .val (.int p2), .val (.int p3), .val (.int p4), .val (.int p5), .val (.int p6), .val (.int (Int32.ofNat (0 + 1))), .val (.int ds), .val (.int (Int32.ofNat jj)), .val (.int (Int32.ofNat pl)), .val (.ref b1), .val (.double (FP.i2d p6)), .second, .val (.ref b10), .unset] [])) (fun t9 k9 => XS.ifYes X15.here hx rfl (pc0 := 227) (pc' := 237) rfl (hb hby at_227) rfl ((if0 _ _).trans (teq hd0).1) (by decide) (by decide) k9) ?_
          exact jk _ _ _ _ X15 e15 N15 Z15 K15 Ee FlargestKey9 Fcapacity9 Fcount9 Vd9 Vx9 (hX.congr fun i hi => by
                show _ = if _ then _ else _
                rw [if_neg (fun r => r.1 hd0)])
        · refine own_st (T' := T15) (g' := (mkF m 230 #[.val (.int p1), .val (.int p2), .val (.int p3), .val (.int p4), .val (.int p5), .val (.int p6), .val (.int (Int32.ofNat (0 + 1))), .val (.int ds), .val (.int (Int32.ofNat jj)), .val (.int (Int32.ofNat pl)), .val (.ref b1), .val (.double (FP.i2d p6)), .second, .val (.ref b10), .unset] [])) (fun t9 k9 => XS.ifNo X15.here hx rfl (hb hby at_227) rfl ((if0 _ _).trans (feq hd0).1) k9) ?_
          obtain ⟨pq1, pq2⟩ := own_nat (i := pl) (by omega)
          refine own_st (T' := T15) (g' := (mkF m 232 #[.val (.int p1), .val (.int p2), .val (.int p3), .val (.int p4), .val (.int p5), .val (.int p6), .val (.int (Int32.ofNat (0 + 1))), .val (.int ds), .val (.int (Int32.ofNat jj)), .val (.int (Int32.ofNat pl)), .val (.ref b1), .val (.double (FP.i2d p6)), .second, .val (.ref b10), .unset] [(.ref b1)])) (fun t9 k9 => XS.aload X15.here hx rfl (hb hby at_230) rfl rfl k9) ?_
          refine own_st (T' := T15) (g' := (mkF m 234 #[.val (.int p1), .val (.int p2), .val (.int p3), .val (.int p4), .val (.int p5), .val (.int p6), .val (.int (Int32.ofNat (0 + 1))), .val (.int ds), .val (.int (Int32.ofNat jj)), .val (.int (Int32.ofNat pl)), .val (.ref b1), .val (.double (FP.i2d p6)), .second, .val (.ref b10), .unset] [(.int (Int32.ofNat pl)), (.ref b1)])) (fun t9 k9 => XS.iload X15.here hx rfl (hb hby at_232) rfl k9) ?_
          refine own_st (T' := T15) (g' := (mkF m 236 #[.val (.int p1), .val (.int p2), .val (.int p3), .val (.int p4), .val (.int p5), .val (.int p6), .val (.int (Int32.ofNat (0 + 1))), .val (.int ds), .val (.int (Int32.ofNat jj)), .val (.int (Int32.ofNat pl)), .val (.ref b1), .val (.double (FP.i2d p6)), .second, .val (.ref b10), .unset] [(.double (FP.i2d p6)), (.int (Int32.ofNat pl)), (.ref b1)])) (fun t9 k9 => XS.dload X15.here hx rfl (hb hby at_234) rfl k9) ?_
          obtain ⟨clu19, Aru19, qu19, Su19, Nu19, Hu19, Gu19⟩ := (id Vx9)
          obtain ⟨T20, h20, X20, e20, W20, st20⟩ := stD X15 hx hZ e15 Aru19 (j := (Int32.ofNat pl)) (inb_of Su19 ⟨pq2, own_lt (n := 4) (by omega) (by omega)⟩) (g := (mkF m 236 #[.val (.int p1), .val (.int p2), .val (.int p3), .val (.int p4), .val (.int p5), .val (.int p6), .val (.int (Int32.ofNat (0 + 1))), .val (.int ds), .val (.int (Int32.ofNat jj)), .val (.int (Int32.ofNat pl)), .val (.ref b1), .val (.double (FP.i2d p6)), .second, .val (.ref b10), .unset] [(.double (FP.i2d p6)), (.int (Int32.ofNat pl)), (.ref b1)])) rfl rfl (hb hby at_236)
          have Va20 := Arv.set Aru19 qu19 Su19 Nu19 Hu19 Gu19 rfl W20 pl pq1 (by show pl < 4; omega)
          have Ee_21 := Ee.wr W20
          have FlargestKey9_22 := FlargestKey9.other W20 (Or.inl (Ne.symm ne_b1_b10))
          have Fcapacity9_23 := Fcapacity9.other W20 (Or.inl (Ne.symm ne_b1_b10))
          have Fcount9_24 := Fcount9.other W20 (Or.inl (Ne.symm ne_b1_b10))
          have Vd9_25 := Vd9.other W20 (Ne.symm hnx)
          have K20 := K15.wr W20 (Or.inr sz_b1)
          have N20 := Fr.snoc X20 N15 g_b1
          have Z20 : n0 ≤ h20.size := by rw [W20.size]; exact Z15
          refine own_st (T' := T20) (g' := (mkF m 237 #[.val (.int p1), .val (.int p2), .val (.int p3), .val (.int p4), .val (.int p5), .val (.int p6), .val (.int (Int32.ofNat (0 + 1))), .val (.int ds), .val (.int (Int32.ofNat jj)), .val (.int (Int32.ofNat pl)), .val (.ref b1), .val (.double (FP.i2d p6)), .second, .val (.ref b10), .unset] [])) (fun t9 k9 => st20 t9 k9) ?_
          exact jk _ _ _ _ X20 e20 N20 Z20 K20 Ee_21 FlargestKey9_22 Fcapacity9_23 Fcount9_24 Vd9_25 Va20 ((hX.set pl (FP.i2d p6) (by omega) (own_i2d _)).congr fun i hi => by
                show (if i = pl then _ else _) = if _ then _ else _
                by_cases q : i = pl
                · rw [if_pos q, if_pos ⟨hd0, by omega, q⟩]
                · rw [if_neg q, if_neg (fun r => q r.2.2)])
      refine own_st (T' := T12) (g' := (mkF m 90 #[.val (.int p1), .val (.int p2), .val (.int p3), .val (.int p4), .val (.int p5), .val (.int p6), .val (.int (Int32.ofNat (0 + 1))), .val (.int ds), .val (.int (Int32.ofNat jj)), .val (.int (Int32.ofNat pl)), .val (.ref b1), .val (.double (FP.i2d p6)), .second, .val (.ref b10), .unset] [(.ref b10)])) (fun t9 k9 => XS.aload X12.here hx rfl (hb hby at_88) rfl rfl k9) ?_
      refine own_st (T' := T12) (g' := (mkF m 92 #[.val (.int p1), .val (.int p2), .val (.int p3), .val (.int p4), .val (.int p5), .val (.int p6), .val (.int (Int32.ofNat (0 + 1))), .val (.int ds), .val (.int (Int32.ofNat jj)), .val (.int (Int32.ofNat pl)), .val (.ref b1), .val (.double (FP.i2d p6)), .second, .val (.ref b10), .unset] [(.ref b1), (.ref b10)])) (fun t9 k9 => XS.aload X12.here hx rfl (hb hby at_90) rfl rfl k9) ?_
      refine own_st (T' := T12) (g' := (mkF m 93 #[.val (.int p1), .val (.int p2), .val (.int p3), .val (.int p4), .val (.int p5), .val (.int p6), .val (.int (Int32.ofNat (0 + 1))), .val (.int ds), .val (.int (Int32.ofNat jj)), .val (.int (Int32.ofNat pl)), .val (.ref b1), .val (.double (FP.i2d p6)), .second, .val (.ref b10), .unset] [(.int (0 : Int32)), (.ref b1), (.ref b10)])) (fun t9 k9 => XS.iconst X12.here hx rfl (hb hby at_92) k9) ?_
      obtain ⟨clu26, Aru26, qu26, Su26, Nu26, Hu26, Gu26⟩ := (id Va9_13)
      have hinu26 := inb_of Su26 (j := (0 : Int32)) ⟨by decide, by decide⟩
      refine own_st (T' := T12) (g' := (mkF m 94 #[.val (.int p1), .val (.int p2), .val (.int p3), .val (.int p4), .val (.int p5), .val (.int p6), .val (.int (Int32.ofNat (0 + 1))), .val (.int ds), .val (.int (Int32.ofNat jj)), .val (.int (Int32.ofNat pl)), .val (.ref b1), .val (.double (FP.i2d p6)), .second, .val (.ref b10), .unset] [(.double ((own_dk (FP.i2d p2) (FP.i2d p3) (FP.i2d p4) (FP.i2d p5)) 0)), (.ref b10)])) (fun t9 k9 => X12.daload hx (j := (0 : Int32)) (v := (.double ((own_dk (FP.i2d p2) (FP.i2d p3) (FP.i2d p4) (FP.i2d p5)) 0))) (by rw [e12]; exact Aru26.1) (State.isArrayOf_alike hZ.alike Aru26.2.1) Aru26.2.2 hinu26 (Hu26.at hinu26 (hX.2 0 (by decide)).1) (g := (mkF m 93 #[.val (.int p1), .val (.int p2), .val (.int p3), .val (.int p4), .val (.int p5), .val (.int p6), .val (.int (Int32.ofNat (0 + 1))), .val (.int ds), .val (.int (Int32.ofNat jj)), .val (.int (Int32.ofNat pl)), .val (.ref b1), .val (.double (FP.i2d p6)), .second, .val (.ref b10), .unset] [(.int (0 : Int32)), (.ref b1), (.ref b10)])) rfl rfl (hb hby at_93) t9 k9) ?_
      have Kb27 := K12
      have lx := Va9_13.lt
      have la := A10_14.lt
      obtain ⟨cq27, kq27, qa27, qb27, qc27⟩ := isOf hZ e12 A10_14
      obtain ⟨_, _, ⟨T27, L27, k27, n27⟩, -, X27, ⟨Lc27, hQ27, l27, y27, z27⟩, st27⟩ := X12.virtualBack hx (y := (⟨"com/example/shelfwright/shelfwright/packers/FirstFit", "add", "(D)I"⟩ : MethodName)) (z := (⟨"com/example/shelfwright/shelfwright/packers/FirstFit", "add", "(D)I"⟩ : MethodName)) hown (mvT hZ (hw _ (List.mem_of_getElem? (i := 15) rfl))) (mvT hZ (hw _ (List.mem_of_getElem? (i := 16) rfl))) (notFace_of_selects (args := #[]) (mvT hZ (hw _ (List.mem_of_getElem? (i := 18) rfl)))) (mvT hZ (hw _ (List.mem_of_getElem? (i := 18) rfl))) (mvT hZ (hw _ (List.mem_of_getElem? (i := 17) rfl))) (by decide) (own_back (W := 0) (rm3 l Z a0 hw b10 d12 _ vd12 (fun _ => (18442240474082181120 : UInt64)) 1 0 ((own_dk (FP.i2d p2) (FP.i2d p3) (FP.i2d p4) (FP.i2d p5)) 0) h12 n0 Z12 A10_14 Fl12 Fc12 Fn12 Vq12 hv12 (by decide) (by decide) (by omega) (by omega) g_b10 g_d12 hne0 (hX.2 0 (by decide)).2) hZ (hw _ (List.mem_of_getElem? (i := 19) rfl)) (hw _ (List.mem_of_getElem? (i := 3) rfl)) (by decide) (by decide)) qa27 qc27 (g := (mkF m 94 #[.val (.int p1), .val (.int p2), .val (.int p3), .val (.int p4), .val (.int p5), .val (.int p6), .val (.int (Int32.ofNat (0 + 1))), .val (.int ds), .val (.int (Int32.ofNat jj)), .val (.int (Int32.ofNat pl)), .val (.ref b1), .val (.double (FP.i2d p6)), .second, .val (.ref b10), .unset] [(.double ((own_dk (FP.i2d p2) (FP.i2d p3) (FP.i2d p4) (FP.i2d p5)) 0)), (.ref b10)])) rfl (by rw [hml]; rfl) (Steps.refl _) (argsL := [(.double ((own_dk (FP.i2d p2) (FP.i2d p3) (FP.i2d p4) (FP.i2d p5)) 0))]) (rest := []) (lenOf pd_1 rfl) rfl (by show 2 * 0 + _ ≤ _; exact Nat.le_of_eq rfl) (hb hby at_94) (fun _ _ => ⟨rfl, e12, (Nat.le_of_ble_eq_true rfl), (Nat.le_of_ble_eq_true rfl)⟩)
      dsimp only [Pt.U, Pt.locs, Pt.cells, Pt.slots] at X27 l27 y27 z27 st27 hQ27
      subst l27 y27 z27
      obtain ⟨b27, kb27, vb27, fb27, cb27, z27, rfl, Nq27, Kq27, hd27, g_b27, hn27, Eq27, Fl27, Fc27, Fn27, Vq27, hv27, hc427, hkc27, hcc27, hkk27, hkn27⟩ := hQ27
      have N27 := Fr.app N12 Nq27
      obtain ⟨h27, e27⟩ : ∃ z, T27.heap = z := ⟨_, rfl⟩
      rw [e27] at Kq27 Eq27 Fl27 Fc27 Fn27 Vq27
      have Va9_28 := Va9_13.keep Kq27 (ninS ne_b1_b10 (ninS hnx0 nin0))
      have A10_29 := A10_14.keep Kq27
      have K27 := K12.trans Kq27 (allS (Or.inr sz_b10) (allS (Or.inr (Nat.le_trans Kp0.1 sz12)) all0))
      have Z27 : n0 ≤ h27.size := Nat.le_trans Z12 Kq27.1
      refine own_st (T' := T27) (g' := (mkF m 97 #[.val (.int p1), .val (.int p2), .val (.int p3), .val (.int p4), .val (.int p5), .val (.int p6), .val (.int (Int32.ofNat (0 + 1))), .val (.int ds), .val (.int (Int32.ofNat jj)), .val (.int (Int32.ofNat pl)), .val (.ref b1), .val (.double (FP.i2d p6)), .second, .val (.ref b10), .unset] [(.int z27)])) (fun t9 k9 => st27.trans k9) ?_
      have hnx27 : b1 ≠ b27 := by
        rcases hd27 with q | q
        · rw [q]; exact hnx0
        · exact Nat.ne_of_lt (Nat.lt_of_lt_of_le lx q)
      have hsz27 : h0.size ≤ b27 := by
        rcases hd27 with q | q
        · rw [q]; exact (Nat.le_trans Kp0.1 sz12)
        · exact Nat.le_trans Kb27.1 q
      have hpw27 : cb27 = 1 := by
        omega
      have hkp27 : ∀ i, i < 1 → fb27 (cb27 + i) = (if (¬ ds = 0 ∧ jj < 0 ∧ i = pl) then (FP.i2d p6) else (own_dk (FP.i2d p2) (FP.i2d p3) (FP.i2d p4) (FP.i2d p5)) i) := by
        intro i hi
        by_cases hl : i < 0
        · rw [hkk27 i hl]; exact (fun i hi => absurd hi (Nat.not_lt_zero i)) i hl
        · obtain rfl : i = 0 := by omega
          rw [hkn27, if_neg (by omega)]
      refine own_st (T' := T27) (g' := (mkF m 98 #[.val (.int p1), .val (.int p2), .val (.int p3), .val (.int p4), .val (.int p5), .val (.int p6), .val (.int (Int32.ofNat (0 + 1))), .val (.int ds), .val (.int (Int32.ofNat jj)), .val (.int (Int32.ofNat pl)), .val (.ref b1), .val (.double (FP.i2d p6)), .second, .val (.ref b10), .unset] [])) (fun t9 k9 => XS.pop X27.here hx rfl (hb hby at_97) rfl rfl k9) ?_
      refine own_st (T' := T27) (g' := (mkF m 100 #[.val (.int p1), .val (.int p2), .val (.int p3), .val (.int p4), .val (.int p5), .val (.int p6), .val (.int (Int32.ofNat (0 + 1))), .val (.int ds), .val (.int (Int32.ofNat jj)), .val (.int (Int32.ofNat pl)), .val (.ref b1), .val (.double (FP.i2d p6)), .second, .val (.ref b10), .unset] [(.int ds)])) (fun t9 k9 => XS.iload X27.here hx rfl (hb hby at_98) rfl k9) ?_
      by_cases hd0 : ds = (0 : Int32)
      · refine own_st (T' := T27) (g' := (mkF m 117 #[.val (.int p1), .val (.int p2), .val (.int p3), .val (.int p4), .val (.int p5), .val (.int p6), .val (.int (Int32.ofNat (0 + 1))), .val (.int ds), .val (.int (Int32.ofNat jj)), .val (.int (Int32.ofNat pl)), .val (.ref b1), .val (.double (FP.i2d p6)), .second, .val (.ref b10), .unset] [])) (fun t9 k9 => XS.ifYes X27.here hx rfl (pc0 := 100) (pc' := 117) rfl (hb hby at_100) rfl ((if0 _ _).trans (teq hd0).1) (by decide) (by decide) k9) ?_
        exact js1 _ _ _ _ _ _ _ _ X27 e27 N27 Z27 K27 A10_29 Fl27 Fc27 Fn27 Vq27 Va9_28 hv27 hc427 hkc27 hpw27 g_b27 hn27 hnx27 hsz27 (fun i hi => by rw [hkp27 i hi, if_neg (fun q => q.1 hd0), if_neg (fun q => q.1 hd0)])
      · refine own_st (T' := T27) (g' := (mkF m 103 #[.val (.int p1), .val (.int p2), .val (.int p3), .val (.int p4), .val (.int p5), .val (.int p6), .val (.int (Int32.ofNat (0 + 1))), .val (.int ds), .val (.int (Int32.ofNat jj)), .val (.int (Int32.ofNat pl)), .val (.ref b1), .val (.double (FP.i2d p6)), .second, .val (.ref b10), .unset] [])) (fun t9 k9 => XS.ifNo X27.here hx rfl (hb hby at_100) rfl ((if0 _ _).trans (feq hd0).1) k9) ?_
        refine own_st (T' := T27) (g' := (mkF m 105 #[.val (.int p1), .val (.int p2), .val (.int p3), .val (.int p4), .val (.int p5), .val (.int p6), .val (.int (Int32.ofNat (0 + 1))), .val (.int ds), .val (.int (Int32.ofNat jj)), .val (.int (Int32.ofNat pl)), .val (.ref b1), .val (.double (FP.i2d p6)), .second, .val (.ref b10), .unset] [(.int (Int32.ofNat jj))])) (fun t9 k9 => XS.iload X27.here hx rfl (hb hby at_103) rfl k9) ?_
        by_cases hj0 : (Int32.ofNat jj) = (0 : Int32)
        · refine own_st (T' := T27) (g' := (mkF m 108 #[.val (.int p1), .val (.int p2), .val (.int p3), .val (.int p4), .val (.int p5), .val (.int p6), .val (.int (Int32.ofNat (0 + 1))), .val (.int ds), .val (.int (Int32.ofNat jj)), .val (.int (Int32.ofNat pl)), .val (.ref b1), .val (.double (FP.i2d p6)), .second, .val (.ref b10), .unset] [])) (fun t9 k9 => XS.ifNo X27.here hx rfl (hb hby at_105) rfl ((if0 _ _).trans (teq hj0).2) k9) ?_
          have hje : jj = 0 := own_eq' (n := 0) hj0 (by omega) (by omega)
          refine own_st (T' := T27) (g' := (mkF m 110 #[.val (.int p1), .val (.int p2), .val (.int p3), .val (.int p4), .val (.int p5), .val (.int p6), .val (.int (Int32.ofNat (0 + 1))), .val (.int ds), .val (.int (Int32.ofNat jj)), .val (.int (Int32.ofNat pl)), .val (.ref b1), .val (.double (FP.i2d p6)), .second, .val (.ref b10), .unset] [(.ref b10)])) (fun t9 k9 => XS.aload X27.here hx rfl (hb hby at_108) rfl rfl k9) ?_
          refine own_st (T' := T27) (g' := (mkF m 112 #[.val (.int p1), .val (.int p2), .val (.int p3), .val (.int p4), .val (.int p5), .val (.int p6), .val (.int (Int32.ofNat (0 + 1))), .val (.int ds), .val (.int (Int32.ofNat jj)), .val (.int (Int32.ofNat pl)), .val (.ref b1), .val (.double (FP.i2d p6)), .second, .val (.ref b10), .unset] [(.int (Int32.ofNat pl)), (.ref b10)])) (fun t9 k9 => XS.iload X27.here hx rfl (hb hby at_110) rfl k9) ?_
          refine own_st (T' := T27) (g' := (mkF m 114 #[.val (.int p1), .val (.int p2), .val (.int p3), .val (.int p4), .val (.int p5), .val (.int p6), .val (.int (Int32.ofNat (0 + 1))), .val (.int ds), .val (.int (Int32.ofNat jj)), .val (.int (Int32.ofNat pl)), .val (.ref b1), .val (.double (FP.i2d p6)), .second, .val (.ref b10), .unset] [(.double (FP.i2d p6)), (.int (Int32.ofNat pl)), (.ref b10)])) (fun t9 k9 => XS.dload X27.here hx rfl (hb hby at_112) rfl k9) ?_
          have Kb2 := K27
          obtain ⟨cq30, kq30, qa30, qb30, qc30⟩ := isOf hZ e27 A10_29
          obtain ⟨_, _, ⟨T30, L30, k30, n30⟩, -, X30, ⟨Lc30, hQ30, l30, y30, z30⟩, st30⟩ := X27.virtualBack hx (y := (⟨"com/example/shelfwright/shelfwright/packers/FirstFit", "set", "(ID)V"⟩ : MethodName)) (z := (⟨"com/example/shelfwright/shelfwright/packers/FirstFit", "set", "(ID)V"⟩ : MethodName)) hown (mvT hZ (hw _ (List.mem_of_getElem? (i := 32) rfl))) (mvT hZ (hw _ (List.mem_of_getElem? (i := 23) rfl))) (notFace_of_selects (args := #[]) (mvT hZ (hw _ (List.mem_of_getElem? (i := 25) rfl)))) (mvT hZ (hw _ (List.mem_of_getElem? (i := 25) rfl))) (mvT hZ (hw _ (List.mem_of_getElem? (i := 24) rfl))) (by decide) (own_back (W := 0) (rm4 l Z a0 hw b10 b27 kb27 vb27 fb27 cb27 pl (FP.i2d p6) h27 n0 Z27 Fl27 Fc27 Vq27 hv27 hc427 (by omega) (own_i2d _) hn27.symm g_b27) hZ (hw _ (List.mem_of_getElem? (i := 26) rfl)) (hw _ (List.mem_of_getElem? (i := 3) rfl)) (by decide) (by decide)) qa30 qc30 (g := (mkF m 114 #[.val (.int p1), .val (.int p2), .val (.int p3), .val (.int p4), .val (.int p5), .val (.int p6), .val (.int (Int32.ofNat (0 + 1))), .val (.int ds), .val (.int (Int32.ofNat jj)), .val (.int (Int32.ofNat pl)), .val (.ref b1), .val (.double (FP.i2d p6)), .second, .val (.ref b10), .unset] [(.double (FP.i2d p6)), (.int (Int32.ofNat pl)), (.ref b10)])) rfl (by rw [hml]; rfl) (Steps.refl _) (argsL := [(.int (Int32.ofNat pl)), (.double (FP.i2d p6))]) (rest := []) (lenOf pd_2 rfl) rfl (by show 2 * 0 + _ ≤ _; exact Nat.le_of_eq rfl) (hb hby at_114) (fun _ _ => ⟨rfl, e27, (Nat.le_of_ble_eq_true rfl), (Nat.le_of_ble_eq_true rfl)⟩)
          dsimp only [Pt.U, Pt.locs, Pt.cells, Pt.slots] at X30 l30 y30 z30 st30 hQ30
          subst l30 y30 z30
          obtain ⟨vz30, fz30, rfl, Nq30, Kq30, Vq30, hz30, hkz30⟩ := hQ30
          have N30 := Fr.app N27 Nq30
          obtain ⟨h30, e30⟩ : ∃ z, T30.heap = z := ⟨_, rfl⟩
          rw [e30] at Kq30 Vq30
          have Va9_31 := Va9_28.keep Kq30 (ninS hnx27 nin0)
          have A10_32 := A10_29.keep Kq30
          have Fl27_33 := Fl27.keep Kq30 (ninS (Ne.symm hn27) nin0)
          have Fc27_34 := Fc27.keep Kq30 (ninS (Ne.symm hn27) nin0)
          have Fn27_35 := Fn27.keep Kq30 (ninS (Ne.symm hn27) nin0)
          have K30 := K27.trans Kq30 (allS (Or.inr hsz27) all0)
          have Z30 : n0 ≤ h30.size := Nat.le_trans Z27 Kq30.1
          refine own_st (T' := T30) (g' := (mkF m 117 #[.val (.int p1), .val (.int p2), .val (.int p3), .val (.int p4), .val (.int p5), .val (.int p6), .val (.int (Int32.ofNat (0 + 1))), .val (.int ds), .val (.int (Int32.ofNat jj)), .val (.int (Int32.ofNat pl)), .val (.ref b1), .val (.double (FP.i2d p6)), .second, .val (.ref b10), .unset] [])) (fun t9 k9 => st30.trans k9) ?_
          exact js1 _ _ _ _ _ _ _ _ X30 e30 N30 Z30 K30 A10_32 Fl27_33 Fc27_34 Fn27_35 Vq30 Va9_31 hz30 hc427 hkc27 hpw27 g_b27 hn27 hnx27 hsz27 (fun i hi => by
                rw [hkz30 i (by omega)]
                by_cases q : i = pl
                · rw [if_pos q, if_pos ⟨hd0, by omega, q⟩]
                · rw [if_neg q, hkp27 i hi, if_neg (fun r => q r.2.2), if_neg (fun r => q r.2.2)])
        · refine own_st (T' := T27) (g' := (mkF m 117 #[.val (.int p1), .val (.int p2), .val (.int p3), .val (.int p4), .val (.int p5), .val (.int p6), .val (.int (Int32.ofNat (0 + 1))), .val (.int ds), .val (.int (Int32.ofNat jj)), .val (.int (Int32.ofNat pl)), .val (.ref b1), .val (.double (FP.i2d p6)), .second, .val (.ref b10), .unset] [])) (fun t9 k9 => XS.ifYes X27.here hx rfl (pc0 := 105) (pc' := 117) rfl (hb hby at_105) rfl ((if0 _ _).trans (feq hj0).2) (by decide) (by decide) k9) ?_
          have hje : jj ≠ 0 := fun q => hj0 (by rw [q]; rfl)
          exact js1 _ _ _ _ _ _ _ _ X27 e27 N27 Z27 K27 A10_29 Fl27 Fc27 Fn27 Vq27 Va9_28 hv27 hc427 hkc27 hpw27 g_b27 hn27 hnx27 hsz27 (fun i hi => by
                rw [hkp27 i hi]
                by_cases r : (¬ ds = 0 ∧ jj < 0 ∧ i = pl)
                · rw [if_pos r, if_pos ⟨r.1, by omega, r.2.2⟩]
                · rw [if_neg r, if_neg (fun r' => r ⟨r'.1, by omega, r'.2.2⟩)])
    · show own_Go p e below F T12 (mkF m 86 #[.val (.int p1), .val (.int p2), .val (.int p3), .val (.int p4), .val (.int p5), .val (.int p6), .val (.int (Int32.ofNat (1 + 1))), .val (.int ds), .val (.int (Int32.ofNat jj)), .val (.int (Int32.ofNat pl)), .val (.ref b1), .val (.double (FP.i2d p6)), .second, .unset, .unset] [(.ref b10)])
      refine own_st (T' := T12) (g' := (mkF m 88 #[.val (.int p1), .val (.int p2), .val (.int p3), .val (.int p4), .val (.int p5), .val (.int p6), .val (.int (Int32.ofNat (1 + 1))), .val (.int ds), .val (.int (Int32.ofNat jj)), .val (.int (Int32.ofNat pl)), .val (.ref b1), .val (.double (FP.i2d p6)), .second, .val (.ref b10), .unset] [])) (fun t9 k9 => XS.astore X12.here hx rfl (hb hby at_86) rfl rfl (l' := #[.val (.int p1), .val (.int p2), .val (.int p3), .val (.int p4), .val (.int p5), .val (.int p6), .val (.int (Int32.ofNat (1 + 1))), .val (.int ds), .val (.int (Int32.ofNat jj)), .val (.int (Int32.ofNat pl)), .val (.ref b1), .val (.double (FP.i2d p6)), .second, .val (.ref b10), .unset]) rfl k9) ?_
      have js1 : ∀ (T36 : State) (L36 : List Loc) (h36 : Heap) (dd : Addr) (kd : ClassId) (vq : List Value) (fq : Nat → UInt64) (cq : Nat), Stand p l e room_1 s m #[(.int p1), (.int p2), (.int p3), (.int p4), (.int p5), (.int p6)] below meth c T36 L36 (((0 + 1 + 1 + 1) + 2)) (((0 + 4 + 3 + 2) + 10)) → T36.heap = h36 → Fr n0 L36 → (n0 ≤ h36.size) → (Keep h0 h36 []) → (Exa Z h36 b10 "com/example/shelfwright/shelfwright/packers/FirstFit") → (Fld Z h36 b10 "com/example/shelfwright/shelfwright/packers/FirstFit" "largestKey" "[D" (.ref dd)) → (Fld Z h36 b10 "com/example/shelfwright/shelfwright/packers/FirstFit" "capacity" "I" (.int (Int32.ofNat cq))) → (Fld Z h36 b10 "com/example/shelfwright/shelfwright/packers/FirstFit" "count" "I" (.int (Int32.ofNat 1))) → (Arv Z h36 dd kd .double (Int32.ofNat (2 * cq)) vq (.double 0)) → (Arv Z h36 b1 k1 .double (4 : Int32) ((((([Value.double 0, .double 0, .double 0, .double 0].set 0 (.double (FP.i2d p2))).set 1 (.double (FP.i2d p3))).set 2 (.double (FP.i2d p4))).set 3 (.double (FP.i2d p5)))) (.double 0)) → (own_D vq (2 * cq) fq) → (cq ≤ 4) → (1 ≤ cq) → (cq = 1) → (n0 ≤ dd) → (dd ≠ b10) → (b1 ≠ dd) → (h0.size ≤ dd) → (∀ i, i < 1 → fq (cq + i) = (if (¬ ds = 0 ∧ jj < 1 ∧ i = pl) then (FP.i2d p6) else (own_dk (FP.i2d p2) (FP.i2d p3) (FP.i2d p4) (FP.i2d p5)) i)) → own_Go p e below F T36 (mkF m 117 #[.val (.int p1), .val (.int p2), .val (.int p3), .val (.int p4), .val (.int p5), .val (.int p6), .val (.int (Int32.ofNat (1 + 1))), .val (.int ds), .val (.int (Int32.ofNat jj)), .val (.int (Int32.ofNat pl)), .val (.ref b1), .val (.double (FP.i2d p6)), .second, .val (.ref b10), .unset] []) := by
        intro T36 L36 h36 dd kd vq fq cq X36 e36 N36 Z36 K36 Ee FlargestKey9 Fcapacity9 Fcount9 Vd9 Vx9 hq hcq hkq hpow g_dd hna hnx hsz hkp
        refine own_st (T' := T36) (g' := (mkF m 119 #[.val (.int p1), .val (.int p2), .val (.int p3), .val (.int p4), .val (.int p5), .val (.int p6), .val (.int (Int32.ofNat (1 + 1))), .val (.int ds), .val (.int (Int32.ofNat jj)), .val (.int (Int32.ofNat pl)), .val (.ref b1), .val (.double (FP.i2d p6)), .second, .val (.ref b10), .unset] [(.int (Int32.ofNat (1 + 1)))])) (fun t9 k9 => XS.iload X36.here hx rfl (hb hby at_117) rfl k9) ?_
        refine own_st (T' := T36) (g' := (mkF m 120 #[.val (.int p1), .val (.int p2), .val (.int p3), .val (.int p4), .val (.int p5), .val (.int p6), .val (.int (Int32.ofNat (1 + 1))), .val (.int ds), .val (.int (Int32.ofNat jj)), .val (.int (Int32.ofNat pl)), .val (.ref b1), .val (.double (FP.i2d p6)), .second, .val (.ref b10), .unset] [(.int (1 : Int32)), (.int (Int32.ofNat (1 + 1)))])) (fun t9 k9 => XS.iconst X36.here hx rfl (hb hby at_119) k9) ?_
        refine own_st (T' := T36) (g' := (mkF m 123 #[.val (.int p1), .val (.int p2), .val (.int p3), .val (.int p4), .val (.int p5), .val (.int p6), .val (.int (Int32.ofNat (1 + 1))), .val (.int ds), .val (.int (Int32.ofNat jj)), .val (.int (Int32.ofNat pl)), .val (.ref b1), .val (.double (FP.i2d p6)), .second, .val (.ref b10), .unset] [])) (fun t9 k9 => XS.icmpNo X36.here hx rfl (hb hby at_120) rfl (tlt (own_lt (i := 1) (by omega) (by omega))).2.2.2 k9) ?_
        have js2 : ∀ (T37 : State) (L37 : List Loc) (h37 : Heap) (dd : Addr) (kd : ClassId) (vq : List Value) (fq : Nat → UInt64) (cq : Nat), Stand p l e room_1 s m #[(.int p1), (.int p2), (.int p3), (.int p4), (.int p5), (.int p6)] below meth c T37 L37 ((((0 + 1 + 1 + 1) + 2) + 2)) ((((0 + 4 + 3 + 2) + 10) + 10)) → T37.heap = h37 → Fr n0 L37 → (n0 ≤ h37.size) → (Keep h0 h37 []) → (Exa Z h37 b10 "com/example/shelfwright/shelfwright/packers/FirstFit") → (Fld Z h37 b10 "com/example/shelfwright/shelfwright/packers/FirstFit" "largestKey" "[D" (.ref dd)) → (Fld Z h37 b10 "com/example/shelfwright/shelfwright/packers/FirstFit" "capacity" "I" (.int (Int32.ofNat cq))) → (Fld Z h37 b10 "com/example/shelfwright/shelfwright/packers/FirstFit" "count" "I" (.int (Int32.ofNat 2))) → (Arv Z h37 dd kd .double (Int32.ofNat (2 * cq)) vq (.double 0)) → (Arv Z h37 b1 k1 .double (4 : Int32) ((((([Value.double 0, .double 0, .double 0, .double 0].set 0 (.double (FP.i2d p2))).set 1 (.double (FP.i2d p3))).set 2 (.double (FP.i2d p4))).set 3 (.double (FP.i2d p5)))) (.double 0)) → (own_D vq (2 * cq) fq) → (cq ≤ 4) → (2 ≤ cq) → (cq = 2) → (n0 ≤ dd) → (dd ≠ b10) → (b1 ≠ dd) → (h0.size ≤ dd) → (∀ i, i < 2 → fq (cq + i) = (if (¬ ds = 0 ∧ jj < 2 ∧ i = pl) then (FP.i2d p6) else (own_dk (FP.i2d p2) (FP.i2d p3) (FP.i2d p4) (FP.i2d p5)) i)) → own_Go p e below F T37 (mkF m 153 #[.val (.int p1), .val (.int p2), .val (.int p3), .val (.int p4), .val (.int p5), .val (.int p6), .val (.int (Int32.ofNat (1 + 1))), .val (.int ds), .val (.int (Int32.ofNat jj)), .val (.int (Int32.ofNat pl)), .val (.ref b1), .val (.double (FP.i2d p6)), .second, .val (.ref b10), .unset] []) := by
          intro T37 L37 h37 dd kd vq fq cq X37 e37 N37 Z37 K37 Ee FlargestKey9 Fcapacity9 Fcount9 Vd9 Vx9 hq hcq hkq hpow g_dd hna hnx hsz hkp
          refine own_st (T' := T37) (g' := (mkF m 155 #[.val (.int p1), .val (.int p2), .val (.int p3), .val (.int p4), .val (.int p5), .val (.int p6), .val (.int (Int32.ofNat (1 + 1))), .val (.int ds), .val (.int (Int32.ofNat jj)), .val (.int (Int32.ofNat pl)), .val (.ref b1), .val (.double (FP.i2d p6)), .second, .val (.ref b10), .unset] [(.int (Int32.ofNat (1 + 1)))])) (fun t9 k9 => XS.iload X37.here hx rfl (hb hby at_153) rfl k9) ?_
          refine own_st (T' := T37) (g' := (mkF m 156 #[.val (.int p1), .val (.int p2), .val (.int p3), .val (.int p4), .val (.int p5), .val (.int p6), .val (.int (Int32.ofNat (1 + 1))), .val (.int ds), .val (.int (Int32.ofNat jj)), .val (.int (Int32.ofNat pl)), .val (.ref b1), .val (.double (FP.i2d p6)), .second, .val (.ref b10), .unset] [(.int (2 : Int32)), (.int (Int32.ofNat (1 + 1)))])) (fun t9 k9 => XS.iconst X37.here hx rfl (hb hby at_155) k9) ?_
          refine own_st (T' := T37) (g' := (mkF m 189 #[.val (.int p1), .val (.int p2), .val (.int p3), .val (.int p4), .val (.int p5), .val (.int p6), .val (.int (Int32.ofNat (1 + 1))), .val (.int ds), .val (.int (Int32.ofNat jj)), .val (.int (Int32.ofNat pl)), .val (.ref b1), .val (.double (FP.i2d p6)), .second, .val (.ref b10), .unset] [])) (fun t9 k9 => XS.icmpYes X37.here hx rfl (pc0 := 156) (pc' := 189) rfl (hb hby at_156) rfl (flt (own_nlt (i := 2) (n := 2) (by omega) (by omega))).2.2.2 (by decide) (by decide) k9) ?_
          refine own_st (T' := T37) (g' := (mkF m 191 #[.val (.int p1), .val (.int p2), .val (.int p3), .val (.int p4), .val (.int p5), .val (.int p6), .val (.int (Int32.ofNat (1 + 1))), .val (.int ds), .val (.int (Int32.ofNat jj)), .val (.int (Int32.ofNat pl)), .val (.ref b1), .val (.double (FP.i2d p6)), .second, .val (.ref b10), .unset] [(.int (Int32.ofNat (1 + 1)))])) (fun t9 k9 => XS.iload X37.here hx rfl (hb hby at_189) rfl k9) ?_
          refine own_st (T' := T37) (g' := (mkF m 192 #[.val (.int p1), .val (.int p2), .val (.int p3), .val (.int p4), .val (.int p5), .val (.int p6), .val (.int (Int32.ofNat (1 + 1))), .val (.int ds), .val (.int (Int32.ofNat jj)), .val (.int (Int32.ofNat pl)), .val (.ref b1), .val (.double (FP.i2d p6)), .second, .val (.ref b10), .unset] [(.int (3 : Int32)), (.int (Int32.ofNat (1 + 1)))])) (fun t9 k9 => XS.iconst X37.here hx rfl (hb hby at_191) k9) ?_
          refine own_st (T' := T37) (g' := (mkF m 225 #[.val (.int p1), .val (.int p2), .val (.int p3), .val (.int p4), .val (.int p5), .val (.int p6), .val (.int (Int32.ofNat (1 + 1))), .val (.int ds), .val (.int (Int32.ofNat jj)), .val (.int (Int32.ofNat pl)), .val (.ref b1), .val (.double (FP.i2d p6)), .second, .val (.ref b10), .unset] [])) (fun t9 k9 => XS.icmpYes X37.here hx rfl (pc0 := 192) (pc' := 225) rfl (hb hby at_192) rfl (flt (own_nlt (i := 3) (n := 2) (by omega) (by omega))).2.2.2 (by decide) (by decide) k9) ?_
          refine own_st (T' := T37) (g' := (mkF m 227 #[.val (.int p1), .val (.int p2), .val (.int p3), .val (.int p4), .val (.int p5), .val (.int p6), .val (.int (Int32.ofNat (1 + 1))), .val (.int ds), .val (.int (Int32.ofNat jj)), .val (.int (Int32.ofNat pl)), .val (.ref b1), .val (.double (FP.i2d p6)), .second, .val (.ref b10), .unset] [(.int ds)])) (fun t9 k9 => XS.iload X37.here hx rfl (hb hby at_225) rfl k9) ?_
          have jk : ∀ (T38 : State) (L38 : List Loc) (h38 : Heap) (vx : List Value), Stand p l e room_1 s m #[(.int p1), (.int p2), (.int p3), (.int p4), (.int p5), (.int p6)] below meth c T38 L38 ((((0 + 1 + 1 + 1) + 2) + 2)) ((((0 + 4 + 3 + 2) + 10) + 10)) → T38.heap = h38 → Fr n0 L38 → (n0 ≤ h38.size) → (Keep h0 h38 []) → (Exa Z h38 b10 "com/example/shelfwright/shelfwright/packers/FirstFit") → (Fld Z h38 b10 "com/example/shelfwright/shelfwright/packers/FirstFit" "largestKey" "[D" (.ref dd)) → (Fld Z h38 b10 "com/example/shelfwright/shelfwright/packers/FirstFit" "capacity" "I" (.int (Int32.ofNat cq))) → (Fld Z h38 b10 "com/example/shelfwright/shelfwright/packers/FirstFit" "count" "I" (.int (Int32.ofNat 2))) → (Arv Z h38 dd kd .double (Int32.ofNat (2 * cq)) vq (.double 0)) → (Arv Z h38 b1 k1 .double (4 : Int32) vx (.double 0)) → (own_D vx 4 (fun i => if (¬ ds = 0 ∧ jj < 2 ∧ i = pl) then (FP.i2d p6) else (own_dk (FP.i2d p2) (FP.i2d p3) (FP.i2d p4) (FP.i2d p5)) i)) → own_Go p e below F T38 (mkF m 237 #[.val (.int p1), .val (.int p2), .val (.int p3), .val (.int p4), .val (.int p5), .val (.int p6), .val (.int (Int32.ofNat (1 + 1))), .val (.int ds), .val (.int (Int32.ofNat jj)), .val (.int (Int32.ofNat pl)), .val (.ref b1), .val (.double (FP.i2d p6)), .second, .val (.ref b10), .unset] []) := by
            intro T38 L38 h38 vx X38 e38 N38 Z38 K38 Eex FlargestKey9x Fcapacity9x Fcount9x Vd9x Vx9x hx4
            refine own_st (T' := T38) (g' := (mkF m 239 #[.val (.int p1), .val (.int p2), .val (.int p3), .val (.int p4), .val (.int p5), .val (.int p6), .val (.int (Int32.ofNat (1 + 1))), .val (.int ds), .val (.int (Int32.ofNat jj)), .val (.int (Int32.ofNat pl)), .val (.ref b1), .val (.double (FP.i2d p6)), .second, .val (.ref b10), .unset] [(.ref b10)])) (fun t9 k9 => XS.aload X38.here hx rfl (hb hby at_237) rfl rfl k9) ?_
            refine own_st (T' := T38) (g' := (mkF m 240 #[.val (.int p1), .val (.int p2), .val (.int p3), .val (.int p4), .val (.int p5), .val (.int p6), .val (.int (Int32.ofNat (1 + 1))), .val (.int ds), .val (.int (Int32.ofNat jj)), .val (.int (Int32.ofNat pl)), .val (.ref b1), .val (.double (FP.i2d p6)), .second, .val (.ref b10), .unset] [(.int (0 : Int32)), (.ref b10)])) (fun t9 k9 => XS.iconst X38.here hx rfl (hb hby at_239) k9) ?_
            obtain ⟨cq39, kq39, qa39, qb39, qc39⟩ := isOf hZ e38 Eex
            obtain ⟨_, _, ⟨T39, L39, k39, n39⟩, -, X39, ⟨Lc39, hQ39, l39, y39, z39⟩, st39⟩ := X38.virtualBack hx (y := (⟨"com/example/shelfwright/shelfwright/packers/FirstFit", "key", "(I)D"⟩ : MethodName)) (z := (⟨"com/example/shelfwright/shelfwright/packers/FirstFit", "key", "(I)D"⟩ : MethodName)) hown (mvT hZ (hw _ (List.mem_of_getElem? (i := 27) rfl))) (mvT hZ (hw _ (List.mem_of_getElem? (i := 28) rfl))) (notFace_of_selects (args := #[]) (mvT hZ (hw _ (List.mem_of_getElem? (i := 30) rfl)))) (mvT hZ (hw _ (List.mem_of_getElem? (i := 30) rfl))) (mvT hZ (hw _ (List.mem_of_getElem? (i := 29) rfl))) (by decide) (own_back (W := 0) (rm5 l Z a0 hw b10 dd kd vq fq cq 0 h38 n0 Z38 FlargestKey9x Fcapacity9x Vd9x hq hcq (by omega)) hZ (hw _ (List.mem_of_getElem? (i := 31) rfl)) (hw _ (List.mem_of_getElem? (i := 3) rfl)) (by decide) (by decide)) qa39 qc39 (g := (mkF m 240 #[.val (.int p1), .val (.int p2), .val (.int p3), .val (.int p4), .val (.int p5), .val (.int p6), .val (.int (Int32.ofNat (1 + 1))), .val (.int ds), .val (.int (Int32.ofNat jj)), .val (.int (Int32.ofNat pl)), .val (.ref b1), .val (.double (FP.i2d p6)), .second, .val (.ref b10), .unset] [(.int (0 : Int32)), (.ref b10)])) rfl (by rw [hml]; rfl) (Steps.refl _) (argsL := [(.int (0 : Int32))]) (rest := []) (lenOf pd_3 rfl) rfl (by show 2 * 0 + _ ≤ _; exact Nat.le_of_eq rfl) (hb hby at_240) (fun _ _ => ⟨rfl, e38, (Nat.le_of_ble_eq_true rfl), (Nat.le_of_ble_eq_true rfl)⟩)
            dsimp only [Pt.U, Pt.locs, Pt.cells, Pt.slots] at X39 l39 y39 z39 st39 hQ39
            subst l39 y39 z39
            obtain ⟨rfl, Nq39, he39⟩ := hQ39
            have N39 := Fr.app N38 Nq39
            have e39 : T39.heap = h38 := he39
            refine own_st (T' := T39) (g' := (mkF m 243 #[.val (.int p1), .val (.int p2), .val (.int p3), .val (.int p4), .val (.int p5), .val (.int p6), .val (.int (Int32.ofNat (1 + 1))), .val (.int ds), .val (.int (Int32.ofNat jj)), .val (.int (Int32.ofNat pl)), .val (.ref b1), .val (.double (FP.i2d p6)), .second, .val (.ref b10), .unset] [(.double (fq (cq + 0)))])) (fun t9 k9 => st39.trans k9) ?_
            refine own_st (T' := T39) (g' := (mkF m 245 #[.val (.int p1), .val (.int p2), .val (.int p3), .val (.int p4), .val (.int p5), .val (.int p6), .val (.int (Int32.ofNat (1 + 1))), .val (.int ds), .val (.int (Int32.ofNat jj)), .val (.int (Int32.ofNat pl)), .val (.ref b1), .val (.double (FP.i2d p6)), .second, .val (.ref b10), .unset] [(.ref b1), (.double (fq (cq + 0)))])) (fun t9 k9 => XS.aload X39.here hx rfl (hb hby at_243) rfl rfl k9) ?_
            refine own_st (T' := T39) (g' := (mkF m 246 #[.val (.int p1), .val (.int p2), .val (.int p3), .val (.int p4), .val (.int p5), .val (.int p6), .val (.int (Int32.ofNat (1 + 1))), .val (.int ds), .val (.int (Int32.ofNat jj)), .val (.int (Int32.ofNat pl)), .val (.ref b1), .val (.double (FP.i2d p6)), .second, .val (.ref b10), .unset] [(.int (0 : Int32)), (.ref b1), (.double (fq (cq + 0)))])) (fun t9 k9 => XS.iconst X39.here hx rfl (hb hby at_245) k9) ?_
            obtain ⟨clu40, Aru40, qu40, Su40, Nu40, Hu40, Gu40⟩ := (id Vx9x)
            have hinu40 := inb_of Su40 (j := (0 : Int32)) ⟨by decide, by decide⟩
            refine own_st (T' := T39) (g' := (mkF m 247 #[.val (.int p1), .val (.int p2), .val (.int p3), .val (.int p4), .val (.int p5), .val (.int p6), .val (.int (Int32.ofNat (1 + 1))), .val (.int ds), .val (.int (Int32.ofNat jj)), .val (.int (Int32.ofNat pl)), .val (.ref b1), .val (.double (FP.i2d p6)), .second, .val (.ref b10), .unset] [(.double ((fun i => if (¬ ds = 0 ∧ jj < 2 ∧ i = pl) then (FP.i2d p6) else (own_dk (FP.i2d p2) (FP.i2d p3) (FP.i2d p4) (FP.i2d p5)) i) 0)), (.double (fq (cq + 0)))])) (fun t9 k9 => X39.daload hx (j := (0 : Int32)) (v := (.double ((fun i => if (¬ ds = 0 ∧ jj < 2 ∧ i = pl) then (FP.i2d p6) else (own_dk (FP.i2d p2) (FP.i2d p3) (FP.i2d p4) (FP.i2d p5)) i) 0))) (by rw [e39]; exact Aru40.1) (State.isArrayOf_alike hZ.alike Aru40.2.1) Aru40.2.2 hinu40 (Hu40.at hinu40 (hx4.2 0 (by decide)).1) (g := (mkF m 246 #[.val (.int p1), .val (.int p2), .val (.int p3), .val (.int p4), .val (.int p5), .val (.int p6), .val (.int (Int32.ofNat (1 + 1))), .val (.int ds), .val (.int (Int32.ofNat jj)), .val (.int (Int32.ofNat pl)), .val (.ref b1), .val (.double (FP.i2d p6)), .second, .val (.ref b10), .unset] [(.int (0 : Int32)), (.ref b1), (.double (fq (cq + 0)))])) rfl rfl (hb hby at_246) t9 k9) ?_
            refine own_st (T' := T39) (g' := (mkF m 248 #[.val (.int p1), .val (.int p2), .val (.int p3), .val (.int p4), .val (.int p5), .val (.int p6), .val (.int (Int32.ofNat (1 + 1))), .val (.int ds), .val (.int (Int32.ofNat jj)), .val (.int (Int32.ofNat pl)), .val (.ref b1), .val (.double (FP.i2d p6)), .second, .val (.ref b10), .unset] [(.int (cmpValue (FP.dcmp (fq (cq + 0)) ((fun i => if (¬ ds = 0 ∧ jj < 2 ∧ i = pl) then (FP.i2d p6) else (own_dk (FP.i2d p2) (FP.i2d p3) (FP.i2d p4) (FP.i2d p5)) i) 0)) .l))])) (fun t9 k9 => XS.dcmpS X39.here hx rfl (hb hby at_247) rfl rfl k9) ?_
            refine own_st (T' := T39) (g' := (mkF m 251 #[.val (.int p1), .val (.int p2), .val (.int p3), .val (.int p4), .val (.int p5), .val (.int p6), .val (.int (Int32.ofNat (1 + 1))), .val (.int ds), .val (.int (Int32.ofNat jj)), .val (.int (Int32.ofNat pl)), .val (.ref b1), .val (.double (FP.i2d p6)), .second, .val (.ref b10), .unset] [])) (fun t9 k9 => XS.ifNo X39.here hx rfl (hb hby at_248) rfl ((if0 _ _).trans (teq (dcmpV_eq (hkp 0 (by decide)) (hkp 0 (by decide) ▸ (hx4.2 0 (by decide)).2) _)).2) k9) ?_
            refine own_st (T' := T39) (g' := (mkF m 252 #[.val (.int p1), .val (.int p2), .val (.int p3), .val (.int p4), .val (.int p5), .val (.int p6), .val (.int (Int32.ofNat (1 + 1))), .val (.int ds), .val (.int (Int32.ofNat jj)), .val (.int (Int32.ofNat pl)), .val (.ref b1), .val (.double (FP.i2d p6)), .second, .val (.ref b10), .unset] [(.int (1 : Int32))])) (fun t9 k9 => XS.iconst X39.here hx rfl (hb hby at_251) k9) ?_
            refine own_st (T' := T39) (g' := (mkF m 256 #[.val (.int p1), .val (.int p2), .val (.int p3), .val (.int p4), .val (.int p5), .val (.int p6), .val (.int (Int32.ofNat (1 + 1))), .val (.int ds), .val (.int (Int32.ofNat jj)), .val (.int (Int32.ofNat pl)), .val (.ref b1), .val (.double (FP.i2d p6)), .second, .val (.ref b10), .unset] [(.int (1 : Int32))])) (fun t9 k9 => XS.goto X39.here hx rfl (pc0 := 252) (pc' := 256) rfl (hb hby at_252) (by decide) (by decide) k9) ?_
            refine own_st (T' := T39) (g' := (mkF m 258 #[.val (.int p1), .val (.int p2), .val (.int p3), .val (.int p4), .val (.int p5), .val (.int p6), .val (.int (Int32.ofNat (1 + 1))), .val (.int ds), .val (.int (Int32.ofNat jj)), .val (.int (Int32.ofNat pl)), .val (.ref b1), .val (.double (FP.i2d p6)), .second, .val (.ref b10), .val (.int (1 : Int32))] [])) (fun t9 k9 => XS.istore X39.here hx rfl (hb hby at_256) rfl (l' := #[.val (.int p1), .val (.int p2), .val (.int p3), .val (.int p4), .val (.int p5), .val (.int p6), .val (.int (Int32.ofNat (1 + 1))), .val (.int ds), .val (.int (Int32.ofNat jj)), .val (.int (Int32.ofNat pl)), .val (.ref b1), .val (.double (FP.i2d p6)), .second, .val (.ref b10), .val (.int (1 : Int32))]) rfl k9) ?_
            refine own_st (T' := T39) (g' := (mkF m 260 #[.val (.int p1), .val (.int p2), .val (.int p3), .val (.int p4), .val (.int p5), .val (.int p6), .val (.int (Int32.ofNat (1 + 1))), .val (.int ds), .val (.int (Int32.ofNat jj)), .val (.int (Int32.ofNat pl)), .val (.ref b1), .val (.double (FP.i2d p6)), .second, .val (.ref b10), .val (.int (1 : Int32))] [(.int (Int32.ofNat (1 + 1)))])) (fun t9 k9 => XS.iload X39.here hx rfl (hb hby at_258) rfl k9) ?_
            refine own_st (T' := T39) (g' := (mkF m 261 #[.val (.int p1), .val (.int p2), .val (.int p3), .val (.int p4), .val (.int p5), .val (.int p6), .val (.int (Int32.ofNat (1 + 1))), .val (.int ds), .val (.int (Int32.ofNat jj)), .val (.int (Int32.ofNat pl)), .val (.ref b1), .val (.double (FP.i2d p6)), .second, .val (.ref b10), .val (.int (1 : Int32))] [(.int (1 : Int32)), (.int (Int32.ofNat (1 + 1)))])) (fun t9 k9 => XS.iconst X39.here hx rfl (hb hby at_260) k9) ?_
            refine own_st (T' := T39) (g' := (mkF m 264 #[.val (.int p1), .val (.int p2), .val (.int p3), .val (.int p4), .val (.int p5), .val (.int p6), .val (.int (Int32.ofNat (1 + 1))), .val (.int ds), .val (.int (Int32.ofNat jj)), .val (.int (Int32.ofNat pl)), .val (.ref b1), .val (.double (FP.i2d p6)), .second, .val (.ref b10), .val (.int (1 : Int32))] [])) (fun t9 k9 => XS.icmpNo X39.here hx rfl (hb hby at_261) rfl (tlt (own_lt (i := 1) (by omega) (by omega))).2.2.2 k9) ?_
            refine own_st (T' := T39) (g' := (mkF m 266 #[.val (.int p1), .val (.int p2), .val (.int p3), .val (.int p4), .val (.int p5), .val (.int p6), .val (.int (Int32.ofNat (1 + 1))), .val (.int ds), .val (.int (Int32.ofNat jj)), .val (.int (Int32.ofNat pl)), .val (.ref b1), .val (.double (FP.i2d p6)), .second, .val (.ref b10), .val (.int (1 : Int32))] [(.int (1 : Int32))])) (fun t9 k9 => XS.iload X39.here hx rfl (hb hby at_264) rfl k9) ?_
            refine own_st (T' := T39) (g' := (mkF m 269 #[.val (.int p1), .val (.int p2), .val (.int p3), .val (.int p4), .val (.int p5), .val (.int p6), .val (.int (Int32.ofNat (1 + 1))), .val (.int ds), .val (.int (Int32.ofNat jj)), .val (.int (Int32.ofNat pl)), .val (.ref b1), .val (.double (FP.i2d p6)), .second, .val (.ref b10), .val (.int (1 : Int32))] [])) (fun t9 k9 => XS.ifNo X39.here hx rfl (hb hby at_266) rfl ((if0 _ _).trans (feq (by decide)).1) k9) ?_
            refine own_st (T' := T39) (g' := (mkF m 271 #[.val (.int p1), .val (.int p2), .val (.int p3), .val (.int p4), .val (.int p5), .val (.int p6), .val (.int (Int32.ofNat (1 + 1))), .val (.int ds), .val (.int (Int32.ofNat jj)), .val (.int (Int32.ofNat pl)), .val (.ref b1), .val (.double (FP.i2d p6)), .second, .val (.ref b10), .val (.int (1 : Int32))] [(.ref b10)])) (fun t9 k9 => XS.aload X39.here hx rfl (hb hby at_269) rfl rfl k9) ?_
            refine own_st (T' := T39) (g' := (mkF m 272 #[.val (.int p1), .val (.int p2), .val (.int p3), .val (.int p4), .val (.int p5), .val (.int p6), .val (.int (Int32.ofNat (1 + 1))), .val (.int ds), .val (.int (Int32.ofNat jj)), .val (.int (Int32.ofNat pl)), .val (.ref b1), .val (.double (FP.i2d p6)), .second, .val (.ref b10), .val (.int (1 : Int32))] [(.int (1 : Int32)), (.ref b10)])) (fun t9 k9 => XS.iconst X39.here hx rfl (hb hby at_271) k9) ?_
            obtain ⟨cq41, kq41, qa41, qb41, qc41⟩ := isOf hZ e39 Eex
            obtain ⟨_, _, ⟨T41, L41, k41, n41⟩, -, X41, ⟨Lc41, hQ41, l41, y41, z41⟩, st41⟩ := X39.virtualBack hx (y := (⟨"com/example/shelfwright/shelfwright/packers/FirstFit", "key", "(I)D"⟩ : MethodName)) (z := (⟨"com/example/shelfwright/shelfwright/packers/FirstFit", "key", "(I)D"⟩ : MethodName)) hown (mvT hZ (hw _ (List.mem_of_getElem? (i := 27) rfl))) (mvT hZ (hw _ (List.mem_of_getElem? (i := 28) rfl))) (notFace_of_selects (args := #[]) (mvT hZ (hw _ (List.mem_of_getElem? (i := 30) rfl)))) (mvT hZ (hw _ (List.mem_of_getElem? (i := 30) rfl))) (mvT hZ (hw _ (List.mem_of_getElem? (i := 29) rfl))) (by decide) (own_back (W := 0) (rm5 l Z a0 hw b10 dd kd vq fq cq 1 h38 n0 Z38 FlargestKey9x Fcapacity9x Vd9x hq hcq (by omega)) hZ (hw _ (List.mem_of_getElem? (i := 31) rfl)) (hw _ (List.mem_of_getElem? (i := 3) rfl)) (by decide) (by decide)) qa41 qc41 (g := (mkF m 272 #[.val (.int p1), .val (.int p2), .val (.int p3), .val (.int p4), .val (.int p5), .val (.int p6), .val (.int (Int32.ofNat (1 + 1))), .val (.int ds), .val (.int (Int32.ofNat jj)), .val (.int (Int32.ofNat pl)), .val (.ref b1), .val (.double (FP.i2d p6)), .second, .val (.ref b10), .val (.int (1 : Int32))] [(.int (1 : Int32)), (.ref b10)])) rfl (by rw [hml]; rfl) (Steps.refl _) (argsL := [(.int (1 : Int32))]) (rest := []) (lenOf pd_3 rfl) rfl (by show 2 * 0 + _ ≤ _; exact Nat.le_of_eq rfl) (hb hby at_272) (fun _ _ => ⟨rfl, e39, (Nat.le_of_ble_eq_true rfl), (Nat.le_of_ble_eq_true rfl)⟩)
            dsimp only [Pt.U, Pt.locs, Pt.cells, Pt.slots] at X41 l41 y41 z41 st41 hQ41
            subst l41 y41 z41
            obtain ⟨rfl, Nq41, he41⟩ := hQ41
            have N41 := Fr.app N39 Nq41
            have e41 : T41.heap = h38 := he41
            refine own_st (T' := T41) (g' := (mkF m 275 #[.val (.int p1), .val (.int p2), .val (.int p3), .val (.int p4), .val (.int p5), .val (.int p6), .val (.int (Int32.ofNat (1 + 1))), .val (.int ds), .val (.int (Int32.ofNat jj)), .val (.int (Int32.ofNat pl)), .val (.ref b1), .val (.double (FP.i2d p6)), .second, .val (.ref b10), .val (.int (1 : Int32))] [(.double (fq (cq + 1)))])) (fun t9 k9 => st41.trans k9) ?_
            refine own_st (T' := T41) (g' := (mkF m 277 #[.val (.int p1), .val (.int p2), .val (.int p3), .val (.int p4), .val (.int p5), .val (.int p6), .val (.int (Int32.ofNat (1 + 1))), .val (.int ds), .val (.int (Int32.ofNat jj)), .val (.int (Int32.ofNat pl)), .val (.ref b1), .val (.double (FP.i2d p6)), .second, .val (.ref b10), .val (.int (1 : Int32))] [(.ref b1), (.double (fq (cq + 1)))])) (fun t9 k9 => XS.aload X41.here hx rfl (hb hby at_275) rfl rfl k9) ?_
            refine own_st (T' := T41) (g' := (mkF m 278 #[.val (.int p1), .val (.int p2), .val (.int p3), .val (.int p4), .val (.int p5), .val (.int p6), .val (.int (Int32.ofNat (1 + 1))), .val (.int ds), .val (.int (Int32.ofNat jj)), .val (.int (Int32.ofNat pl)), .val (.ref b1), .val (.double (FP.i2d p6)), .second, .val (.ref b10), .val (.int (1 : Int32))] [(.int (1 : Int32)), (.ref b1), (.double (fq (cq + 1)))])) (fun t9 k9 => XS.iconst X41.here hx rfl (hb hby at_277) k9) ?_
            obtain ⟨clu42, Aru42, qu42, Su42, Nu42, Hu42, Gu42⟩ := (id Vx9x)
            have hinu42 := inb_of Su42 (j := (1 : Int32)) ⟨by decide, by decide⟩
            refine own_st (T' := T41) (g' := (mkF m 279 #[.val (.int p1), .val (.int p2), .val (.int p3), .val (.int p4), .val (.int p5), .val (.int p6), .val (.int (Int32.ofNat (1 + 1))), .val (.int ds), .val (.int (Int32.ofNat jj)), .val (.int (Int32.ofNat pl)), .val (.ref b1), .val (.double (FP.i2d p6)), .second, .val (.ref b10), .val (.int (1 : Int32))] [(.double ((fun i => if (¬ ds = 0 ∧ jj < 2 ∧ i = pl) then (FP.i2d p6) else (own_dk (FP.i2d p2) (FP.i2d p3) (FP.i2d p4) (FP.i2d p5)) i) 1)), (.double (fq (cq + 1)))])) (fun t9 k9 => X41.daload hx (j := (1 : Int32)) (v := (.double ((fun i => if (¬ ds = 0 ∧ jj < 2 ∧ i = pl) then (FP.i2d p6) else (own_dk (FP.i2d p2) (FP.i2d p3) (FP.i2d p4) (FP.i2d p5)) i) 1))) (by rw [e41]; exact Aru42.1) (State.isArrayOf_alike hZ.alike Aru42.2.1) Aru42.2.2 hinu42 (Hu42.at hinu42 (hx4.2 1 (by decide)).1) (g := (mkF m 278 #[.val (.int p1), .val (.int p2), .val (.int p3), .val (.int p4), .val (.int p5), .val (.int p6), .val (.int (Int32.ofNat (1 + 1))), .val (.int ds), .val (.int (Int32.ofNat jj)), .val (.int (Int32.ofNat pl)), .val (.ref b1), .val (.double (FP.i2d p6)), .second, .val (.ref b10), .val (.int (1 : Int32))] [(.int (1 : Int32)), (.ref b1), (.double (fq (cq + 1)))])) rfl rfl (hb hby at_278) t9 k9) ?_
            refine own_st (T' := T41) (g' := (mkF m 280 #[.val (.int p1), .val (.int p2), .val (.int p3), .val (.int p4), .val (.int p5), .val (.int p6), .val (.int (Int32.ofNat (1 + 1))), .val (.int ds), .val (.int (Int32.ofNat jj)), .val (.int (Int32.ofNat pl)), .val (.ref b1), .val (.double (FP.i2d p6)), .second, .val (.ref b10), .val (.int (1 : Int32))] [(.int (cmpValue (FP.dcmp (fq (cq + 1)) ((fun i => if (¬ ds = 0 ∧ jj < 2 ∧ i = pl) then (FP.i2d p6) else (own_dk (FP.i2d p2) (FP.i2d p3) (FP.i2d p4) (FP.i2d p5)) i) 1)) .l))])) (fun t9 k9 => XS.dcmpS X41.here hx rfl (hb hby at_279) rfl rfl k9) ?_
            refine own_st (T' := T41) (g' := (mkF m 283 #[.val (.int p1), .val (.int p2), .val (.int p3), .val (.int p4), .val (.int p5), .val (.int p6), .val (.int (Int32.ofNat (1 + 1))), .val (.int ds), .val (.int (Int32.ofNat jj)), .val (.int (Int32.ofNat pl)), .val (.ref b1), .val (.double (FP.i2d p6)), .second, .val (.ref b10), .val (.int (1 : Int32))] [])) (fun t9 k9 => XS.ifNo X41.here hx rfl (hb hby at_280) rfl ((if0 _ _).trans (teq (dcmpV_eq (hkp 1 (by decide)) (hkp 1 (by decide) ▸ (hx4.2 1 (by decide)).2) _)).2) k9) ?_
            refine own_st (T' := T41) (g' := (mkF m 284 #[.val (.int p1), .val (.int p2), .val (.int p3), .val (.int p4), .val (.int p5), .val (.int p6), .val (.int (Int32.ofNat (1 + 1))), .val (.int ds), .val (.int (Int32.ofNat jj)), .val (.int (Int32.ofNat pl)), .val (.ref b1), .val (.double (FP.i2d p6)), .second, .val (.ref b10), .val (.int (1 : Int32))] [(.int (1 : Int32))])) (fun t9 k9 => XS.iconst X41.here hx rfl (hb hby at_283) k9) ?_
            refine own_st (T' := T41) (g' := (mkF m 288 #[.val (.int p1), .val (.int p2), .val (.int p3), .val (.int p4), .val (.int p5), .val (.int p6), .val (.int (Int32.ofNat (1 + 1))), .val (.int ds), .val (.int (Int32.ofNat jj)), .val (.int (Int32.ofNat pl)), .val (.ref b1), .val (.double (FP.i2d p6)), .second, .val (.ref b10), .val (.int (1 : Int32))] [(.int (1 : Int32))])) (fun t9 k9 => XS.goto X41.here hx rfl (pc0 := 284) (pc' := 288) rfl (hb hby at_284) (by decide) (by decide) k9) ?_
            refine own_st (T' := T41) (g' := (mkF m 290 #[.val (.int p1), .val (.int p2), .val (.int p3), .val (.int p4), .val (.int p5), .val (.int p6), .val (.int (Int32.ofNat (1 + 1))), .val (.int ds), .val (.int (Int32.ofNat jj)), .val (.int (Int32.ofNat pl)), .val (.ref b1), .val (.double (FP.i2d p6)), .second, .val (.ref b10), .val (.int (1 : Int32))] [])) (fun t9 k9 => XS.istore X41.here hx rfl (hb hby at_288) rfl (l' := #[.val (.int p1), .val (.int p2), .val (.int p3), .val (.int p4), .val (.int p5), .val (.int p6), .val (.int (Int32.ofNat (1 + 1))), .val (.int ds), .val (.int (Int32.ofNat jj)), .val (.int (Int32.ofNat pl)), .val (.ref b1), .val (.double (FP.i2d p6)), .second, .val (.ref b10), .val (.int (1 : Int32))]) rfl k9) ?_
            refine own_st (T' := T41) (g' := (mkF m 292 #[.val (.int p1), .val (.int p2), .val (.int p3), .val (.int p4), .val (.int p5), .val (.int p6), .val (.int (Int32.ofNat (1 + 1))), .val (.int ds), .val (.int (Int32.ofNat jj)), .val (.int (Int32.ofNat pl)), .val (.ref b1), .val (.double (FP.i2d p6)), .second, .val (.ref b10), .val (.int (1 : Int32))] [(.int (Int32.ofNat (1 + 1)))])) (fun t9 k9 => XS.iload X41.here hx rfl (hb hby at_290) rfl k9) ?_
            refine own_st (T' := T41) (g' := (mkF m 293 #[.val (.int p1), .val (.int p2), .val (.int p3), .val (.int p4), .val (.int p5), .val (.int p6), .val (.int (Int32.ofNat (1 + 1))), .val (.int ds), .val (.int (Int32.ofNat jj)), .val (.int (Int32.ofNat pl)), .val (.ref b1), .val (.double (FP.i2d p6)), .second, .val (.ref b10), .val (.int (1 : Int32))] [(.int (2 : Int32)), (.int (Int32.ofNat (1 + 1)))])) (fun t9 k9 => XS.iconst X41.here hx rfl (hb hby at_292) k9) ?_
            refine own_st (T' := T41) (g' := (mkF m 322 #[.val (.int p1), .val (.int p2), .val (.int p3), .val (.int p4), .val (.int p5), .val (.int p6), .val (.int (Int32.ofNat (1 + 1))), .val (.int ds), .val (.int (Int32.ofNat jj)), .val (.int (Int32.ofNat pl)), .val (.ref b1), .val (.double (FP.i2d p6)), .second, .val (.ref b10), .val (.int (1 : Int32))] [])) (fun t9 k9 => XS.icmpYes X41.here hx rfl (pc0 := 293) (pc' := 322) rfl (hb hby at_293) rfl (flt (own_nlt (i := 2) (n := 2) (by omega) (by omega))).2.2.2 (by decide) (by decide) k9) ?_
            refine own_st (T' := T41) (g' := (mkF m 324 #[.val (.int p1), .val (.int p2), .val (.int p3), .val (.int p4), .val (.int p5), .val (.int p6), .val (.int (Int32.ofNat (1 + 1))), .val (.int ds), .val (.int (Int32.ofNat jj)), .val (.int (Int32.ofNat pl)), .val (.ref b1), .val (.double (FP.i2d p6)), .second, .val (.ref b10), .val (.int (1 : Int32))] [(.int (Int32.ofNat (1 + 1)))])) (fun t9 k9 => XS.iload X41.here hx rfl (hb hby at_322) rfl k9) ?_
            refine own_st (T' := T41) (g' := (mkF m 325 #[.val (.int p1), .val (.int p2), .val (.int p3), .val (.int p4), .val (.int p5), .val (.int p6), .val (.int (Int32.ofNat (1 + 1))), .val (.int ds), .val (.int (Int32.ofNat jj)), .val (.int (Int32.ofNat pl)), .val (.ref b1), .val (.double (FP.i2d p6)), .second, .val (.ref b10), .val (.int (1 : Int32))] [(.int (3 : Int32)), (.int (Int32.ofNat (1 + 1)))])) (fun t9 k9 => XS.iconst X41.here hx rfl (hb hby at_324) k9) ?_
            refine own_st (T' := T41) (g' := (mkF m 354 #[.val (.int p1), .val (.int p2), .val (.int p3), .val (.int p4), .val (.int p5), .val (.int p6), .val (.int (Int32.ofNat (1 + 1))), .val (.int ds), .val (.int (Int32.ofNat jj)), .val (.int (Int32.ofNat pl)), .val (.ref b1), .val (.double (FP.i2d p6)), .second, .val (.ref b10), .val (.int (1 : Int32))] [])) (fun t9 k9 => XS.icmpYes X41.here hx rfl (pc0 := 325) (pc' := 354) rfl (hb hby at_325) rfl (flt (own_nlt (i := 3) (n := 2) (by omega) (by omega))).2.2.2 (by decide) (by decide) k9) ?_
            refine own_st (T' := T41) (g' := (mkF m 356 #[.val (.int p1), .val (.int p2), .val (.int p3), .val (.int p4), .val (.int p5), .val (.int p6), .val (.int (Int32.ofNat (1 + 1))), .val (.int ds), .val (.int (Int32.ofNat jj)), .val (.int (Int32.ofNat pl)), .val (.ref b1), .val (.double (FP.i2d p6)), .second, .val (.ref b10), .val (.int (1 : Int32))] [(.int (1 : Int32))])) (fun t9 k9 => XS.iload X41.here hx rfl (hb hby at_354) rfl k9) ?_
            refine own_ret (v := some (.int (1 : Int32))) hF X41 (own_some hret) hlk (fun fs hr => retN X41 hx (t := .boolean) hret (by simp) (hb hby at_356) hr) ?_ (by decide) (by decide)
            try rw [e41]
            exact ⟨rfl, N41⟩
          by_cases hd0 : ds = (0 : Int32)
          · refine own_st (T' := T37) (g' := (mkF m 237 #[.val (.int p1), .val (.int p2), .val (.int p3), .val (.int p4), .val (.int p5), .val (.int p6), .val (.int (Int32.ofNat (1 + 1))), .val (.int ds), .val (.int (Int32.ofNat jj)), .val (.int (Int32.ofNat pl)), .val (.ref b1), .val (.double (FP.i2d p6)), .second, .val (.ref b10), .unset] [])) (fun t9 k9 => XS.ifYes X37.here hx rfl (pc0 := 227) (pc' := 237) rfl (hb hby at_227) rfl ((if0 _ _).trans (teq hd0).1) (by decide) (by decide) k9) ?_
            exact jk _ _ _ _ X37 e37 N37 Z37 K37 Ee FlargestKey9 Fcapacity9 Fcount9 Vd9 Vx9 (hX.congr fun i hi => by
                  show _ = if _ then _ else _
                  rw [if_neg (fun r => r.1 hd0)])
          · refine own_st (T' := T37) (g' := (mkF m 230 #[.val (.int p1), .val (.int p2), .val (.int p3), .val (.int p4), .val (.int p5), .val (.int p6), .val (.int (Int32.ofNat (1 + 1))), .val (.int ds), .val (.int (Int32.ofNat jj)), .val (.int (Int32.ofNat pl)), .val (.ref b1), .val (.double (FP.i2d p6)), .second, .val (.ref b10), .unset] [])) (fun t9 k9 => XS.ifNo X37.here hx rfl (hb hby at_227) rfl ((if0 _ _).trans (feq hd0).1) k9) ?_
            obtain ⟨pq1, pq2⟩ := own_nat (i := pl) (by omega)
            refine own_st (T' := T37) (g' := (mkF m 232 #[.val (.int p1), .val (.int p2), .val (.int p3), .val (.int p4), .val (.int p5), .val (.int p6), .val (.int (Int32.ofNat (1 + 1))), .val (.int ds), .val (.int (Int32.ofNat jj)), .val (.int (Int32.ofNat pl)), .val (.ref b1), .val (.double (FP.i2d p6)), .second, .val (.ref b10), .unset] [(.ref b1)])) (fun t9 k9 => XS.aload X37.here hx rfl (hb hby at_230) rfl rfl k9) ?_
            refine own_st (T' := T37) (g' := (mkF m 234 #[.val (.int p1), .val (.int p2), .val (.int p3), .val (.int p4), .val (.int p5), .val (.int p6), .val (.int (Int32.ofNat (1 + 1))), .val (.int ds), .val (.int (Int32.ofNat jj)), .val (.int (Int32.ofNat pl)), .val (.ref b1), .val (.double (FP.i2d p6)), .second, .val (.ref b10), .unset] [(.int (Int32.ofNat pl)), (.ref b1)])) (fun t9 k9 => XS.iload X37.here hx rfl (hb hby at_232) rfl k9) ?_
            refine own_st (T' := T37) (g' := (mkF m 236 #[.val (.int p1), .val (.int p2), .val (.int p3), .val (.int p4), .val (.int p5), .val (.int p6), .val (.int (Int32.ofNat (1 + 1))), .val (.int ds), .val (.int (Int32.ofNat jj)), .val (.int (Int32.ofNat pl)), .val (.ref b1), .val (.double (FP.i2d p6)), .second, .val (.ref b10), .unset] [(.double (FP.i2d p6)), (.int (Int32.ofNat pl)), (.ref b1)])) (fun t9 k9 => XS.dload X37.here hx rfl (hb hby at_234) rfl k9) ?_
            obtain ⟨clu43, Aru43, qu43, Su43, Nu43, Hu43, Gu43⟩ := (id Vx9)
            obtain ⟨T44, h44, X44, e44, W44, st44⟩ := stD X37 hx hZ e37 Aru43 (j := (Int32.ofNat pl)) (inb_of Su43 ⟨pq2, own_lt (n := 4) (by omega) (by omega)⟩) (g := (mkF m 236 #[.val (.int p1), .val (.int p2), .val (.int p3), .val (.int p4), .val (.int p5), .val (.int p6), .val (.int (Int32.ofNat (1 + 1))), .val (.int ds), .val (.int (Int32.ofNat jj)), .val (.int (Int32.ofNat pl)), .val (.ref b1), .val (.double (FP.i2d p6)), .second, .val (.ref b10), .unset] [(.double (FP.i2d p6)), (.int (Int32.ofNat pl)), (.ref b1)])) rfl rfl (hb hby at_236)
            have Va44 := Arv.set Aru43 qu43 Su43 Nu43 Hu43 Gu43 rfl W44 pl pq1 (by show pl < 4; omega)
            have Ee_45 := Ee.wr W44
            have FlargestKey9_46 := FlargestKey9.other W44 (Or.inl (Ne.symm ne_b1_b10))
            have Fcapacity9_47 := Fcapacity9.other W44 (Or.inl (Ne.symm ne_b1_b10))
            have Fcount9_48 := Fcount9.other W44 (Or.inl (Ne.symm ne_b1_b10))
            have Vd9_49 := Vd9.other W44 (Ne.symm hnx)
            have K44 := K37.wr W44 (Or.inr sz_b1)
            have N44 := Fr.snoc X44 N37 g_b1
            have Z44 : n0 ≤ h44.size := by rw [W44.size]; exact Z37
            refine own_st (T' := T44) (g' := (mkF m 237 #[.val (.int p1), .val (.int p2), .val (.int p3), .val (.int p4), .val (.int p5), .val (.int p6), .val (.int (Int32.ofNat (1 + 1))), .val (.int ds), .val (.int (Int32.ofNat jj)), .val (.int (Int32.ofNat pl)), .val (.ref b1), .val (.double (FP.i2d p6)), .second, .val (.ref b10), .unset] [])) (fun t9 k9 => st44 t9 k9) ?_
            exact jk _ _ _ _ X44 e44 N44 Z44 K44 Ee_45 FlargestKey9_46 Fcapacity9_47 Fcount9_48 Vd9_49 Va44 ((hX.set pl (FP.i2d p6) (by omega) (own_i2d _)).congr fun i hi => by
                  show (if i = pl then _ else _) = if _ then _ else _
                  by_cases q : i = pl
                  · rw [if_pos q, if_pos ⟨hd0, by omega, q⟩]
                  · rw [if_neg q, if_neg (fun r => q r.2.2)])
        refine own_st (T' := T36) (g' := (mkF m 125 #[.val (.int p1), .val (.int p2), .val (.int p3), .val (.int p4), .val (.int p5), .val (.int p6), .val (.int (Int32.ofNat (1 + 1))), .val (.int ds), .val (.int (Int32.ofNat jj)), .val (.int (Int32.ofNat pl)), .val (.ref b1), .val (.double (FP.i2d p6)), .second, .val (.ref b10), .unset] [(.ref b10)])) (fun t9 k9 => XS.aload X36.here hx rfl (hb hby at_123) rfl rfl k9) ?_
        refine own_st (T' := T36) (g' := (mkF m 127 #[.val (.int p1), .val (.int p2), .val (.int p3), .val (.int p4), .val (.int p5), .val (.int p6), .val (.int (Int32.ofNat (1 + 1))), .val (.int ds), .val (.int (Int32.ofNat jj)), .val (.int (Int32.ofNat pl)), .val (.ref b1), .val (.double (FP.i2d p6)), .second, .val (.ref b10), .unset] [(.ref b1), (.ref b10)])) (fun t9 k9 => XS.aload X36.here hx rfl (hb hby at_125) rfl rfl k9) ?_
        refine own_st (T' := T36) (g' := (mkF m 128 #[.val (.int p1), .val (.int p2), .val (.int p3), .val (.int p4), .val (.int p5), .val (.int p6), .val (.int (Int32.ofNat (1 + 1))), .val (.int ds), .val (.int (Int32.ofNat jj)), .val (.int (Int32.ofNat pl)), .val (.ref b1), .val (.double (FP.i2d p6)), .second, .val (.ref b10), .unset] [(.int (1 : Int32)), (.ref b1), (.ref b10)])) (fun t9 k9 => XS.iconst X36.here hx rfl (hb hby at_127) k9) ?_
        obtain ⟨clu50, Aru50, qu50, Su50, Nu50, Hu50, Gu50⟩ := (id Vx9)
        have hinu50 := inb_of Su50 (j := (1 : Int32)) ⟨by decide, by decide⟩
        refine own_st (T' := T36) (g' := (mkF m 129 #[.val (.int p1), .val (.int p2), .val (.int p3), .val (.int p4), .val (.int p5), .val (.int p6), .val (.int (Int32.ofNat (1 + 1))), .val (.int ds), .val (.int (Int32.ofNat jj)), .val (.int (Int32.ofNat pl)), .val (.ref b1), .val (.double (FP.i2d p6)), .second, .val (.ref b10), .unset] [(.double ((own_dk (FP.i2d p2) (FP.i2d p3) (FP.i2d p4) (FP.i2d p5)) 1)), (.ref b10)])) (fun t9 k9 => X36.daload hx (j := (1 : Int32)) (v := (.double ((own_dk (FP.i2d p2) (FP.i2d p3) (FP.i2d p4) (FP.i2d p5)) 1))) (by rw [e36]; exact Aru50.1) (State.isArrayOf_alike hZ.alike Aru50.2.1) Aru50.2.2 hinu50 (Hu50.at hinu50 (hX.2 1 (by decide)).1) (g := (mkF m 128 #[.val (.int p1), .val (.int p2), .val (.int p3), .val (.int p4), .val (.int p5), .val (.int p6), .val (.int (Int32.ofNat (1 + 1))), .val (.int ds), .val (.int (Int32.ofNat jj)), .val (.int (Int32.ofNat pl)), .val (.ref b1), .val (.double (FP.i2d p6)), .second, .val (.ref b10), .unset] [(.int (1 : Int32)), (.ref b1), (.ref b10)])) rfl rfl (hb hby at_128) t9 k9) ?_
        have Kb51 := K36
        have lx := Vx9.lt
        have la := Ee.lt
        obtain ⟨cq51, kq51, qa51, qb51, qc51⟩ := isOf hZ e36 Ee
        obtain ⟨_, _, ⟨T51, L51, k51, n51⟩, -, X51, ⟨Lc51, hQ51, l51, y51, z51⟩, st51⟩ := X36.virtualBack hx (y := (⟨"com/example/shelfwright/shelfwright/packers/FirstFit", "add", "(D)I"⟩ : MethodName)) (z := (⟨"com/example/shelfwright/shelfwright/packers/FirstFit", "add", "(D)I"⟩ : MethodName)) hown (mvT hZ (hw _ (List.mem_of_getElem? (i := 15) rfl))) (mvT hZ (hw _ (List.mem_of_getElem? (i := 16) rfl))) (notFace_of_selects (args := #[]) (mvT hZ (hw _ (List.mem_of_getElem? (i := 18) rfl)))) (mvT hZ (hw _ (List.mem_of_getElem? (i := 18) rfl))) (mvT hZ (hw _ (List.mem_of_getElem? (i := 17) rfl))) (by decide) (own_back (W := 0) (rm3 l Z a0 hw b10 dd _ vq fq cq 1 ((own_dk (FP.i2d p2) (FP.i2d p3) (FP.i2d p4) (FP.i2d p5)) 1) h36 n0 Z36 Ee FlargestKey9 Fcapacity9 Fcount9 Vd9 hq (by omega) hcq (by omega) (by omega) g_b10 g_dd hna (hX.2 1 (by decide)).2) hZ (hw _ (List.mem_of_getElem? (i := 19) rfl)) (hw _ (List.mem_of_getElem? (i := 3) rfl)) (by decide) (by decide)) qa51 qc51 (g := (mkF m 129 #[.val (.int p1), .val (.int p2), .val (.int p3), .val (.int p4), .val (.int p5), .val (.int p6), .val (.int (Int32.ofNat (1 + 1))), .val (.int ds), .val (.int (Int32.ofNat jj)), .val (.int (Int32.ofNat pl)), .val (.ref b1), .val (.double (FP.i2d p6)), .second, .val (.ref b10), .unset] [(.double ((own_dk (FP.i2d p2) (FP.i2d p3) (FP.i2d p4) (FP.i2d p5)) 1)), (.ref b10)])) rfl (by rw [hml]; rfl) (Steps.refl _) (argsL := [(.double ((own_dk (FP.i2d p2) (FP.i2d p3) (FP.i2d p4) (FP.i2d p5)) 1))]) (rest := []) (lenOf pd_1 rfl) rfl (by show 2 * 0 + _ ≤ _; exact Nat.le_of_eq rfl) (hb hby at_129) (fun _ _ => ⟨rfl, e36, (Nat.le_of_ble_eq_true rfl), (Nat.le_of_ble_eq_true rfl)⟩)
        dsimp only [Pt.U, Pt.locs, Pt.cells, Pt.slots] at X51 l51 y51 z51 st51 hQ51
        subst l51 y51 z51
        obtain ⟨b51, kb51, vb51, fb51, cb51, z51, rfl, Nq51, Kq51, hd51, g_b51, hn51, Eq51, Fl51, Fc51, Fn51, Vq51, hv51, hc451, hkc51, hcc51, hkk51, hkn51⟩ := hQ51
        have N51 := Fr.app N36 Nq51
        obtain ⟨h51, e51⟩ : ∃ z, T51.heap = z := ⟨_, rfl⟩
        rw [e51] at Kq51 Eq51 Fl51 Fc51 Fn51 Vq51
        have Ee_52 := Ee.keep Kq51
        have Vx9_53 := Vx9.keep Kq51 (ninS ne_b1_b10 (ninS hnx nin0))
        have K51 := K36.trans Kq51 (allS (Or.inr sz_b10) (allS (Or.inr hsz) all0))
        have Z51 : n0 ≤ h51.size := Nat.le_trans Z36 Kq51.1
        refine own_st (T' := T51) (g' := (mkF m 132 #[.val (.int p1), .val (.int p2), .val (.int p3), .val (.int p4), .val (.int p5), .val (.int p6), .val (.int (Int32.ofNat (1 + 1))), .val (.int ds), .val (.int (Int32.ofNat jj)), .val (.int (Int32.ofNat pl)), .val (.ref b1), .val (.double (FP.i2d p6)), .second, .val (.ref b10), .unset] [(.int z51)])) (fun t9 k9 => st51.trans k9) ?_
        have hnx51 : b1 ≠ b51 := by
          rcases hd51 with q | q
          · rw [q]; exact hnx
          · exact Nat.ne_of_lt (Nat.lt_of_lt_of_le lx q)
        have hsz51 : h0.size ≤ b51 := by
          rcases hd51 with q | q
          · rw [q]; exact hsz
          · exact Nat.le_trans Kb51.1 q
        have hpw51 : cb51 = 2 := by
          have := hpow
          omega
        have hkp51 : ∀ i, i < 2 → fb51 (cb51 + i) = (if (¬ ds = 0 ∧ jj < 1 ∧ i = pl) then (FP.i2d p6) else (own_dk (FP.i2d p2) (FP.i2d p3) (FP.i2d p4) (FP.i2d p5)) i) := by
          intro i hi
          by_cases hl : i < 1
          · rw [hkk51 i hl]; exact hkp i hl
          · obtain rfl : i = 1 := by omega
            rw [hkn51, if_neg (by omega)]
        refine own_st (T' := T51) (g' := (mkF m 133 #[.val (.int p1), .val (.int p2), .val (.int p3), .val (.int p4), .val (.int p5), .val (.int p6), .val (.int (Int32.ofNat (1 + 1))), .val (.int ds), .val (.int (Int32.ofNat jj)), .val (.int (Int32.ofNat pl)), .val (.ref b1), .val (.double (FP.i2d p6)), .second, .val (.ref b10), .unset] [])) (fun t9 k9 => XS.pop X51.here hx rfl (hb hby at_132) rfl rfl k9) ?_
        refine own_st (T' := T51) (g' := (mkF m 135 #[.val (.int p1), .val (.int p2), .val (.int p3), .val (.int p4), .val (.int p5), .val (.int p6), .val (.int (Int32.ofNat (1 + 1))), .val (.int ds), .val (.int (Int32.ofNat jj)), .val (.int (Int32.ofNat pl)), .val (.ref b1), .val (.double (FP.i2d p6)), .second, .val (.ref b10), .unset] [(.int ds)])) (fun t9 k9 => XS.iload X51.here hx rfl (hb hby at_133) rfl k9) ?_
        by_cases hd0 : ds = (0 : Int32)
        · refine own_st (T' := T51) (g' := (mkF m 153 #[.val (.int p1), .val (.int p2), .val (.int p3), .val (.int p4), .val (.int p5), .val (.int p6), .val (.int (Int32.ofNat (1 + 1))), .val (.int ds), .val (.int (Int32.ofNat jj)), .val (.int (Int32.ofNat pl)), .val (.ref b1), .val (.double (FP.i2d p6)), .second, .val (.ref b10), .unset] [])) (fun t9 k9 => XS.ifYes X51.here hx rfl (pc0 := 135) (pc' := 153) rfl (hb hby at_135) rfl ((if0 _ _).trans (teq hd0).1) (by decide) (by decide) k9) ?_
          exact js2 _ _ _ _ _ _ _ _ X51 e51 N51 Z51 K51 Ee_52 Fl51 Fc51 Fn51 Vq51 Vx9_53 hv51 hc451 hkc51 hpw51 g_b51 hn51 hnx51 hsz51 (fun i hi => by rw [hkp51 i hi, if_neg (fun q => q.1 hd0), if_neg (fun q => q.1 hd0)])
        · refine own_st (T' := T51) (g' := (mkF m 138 #[.val (.int p1), .val (.int p2), .val (.int p3), .val (.int p4), .val (.int p5), .val (.int p6), .val (.int (Int32.ofNat (1 + 1))), .val (.int ds), .val (.int (Int32.ofNat jj)), .val (.int (Int32.ofNat pl)), .val (.ref b1), .val (.double (FP.i2d p6)), .second, .val (.ref b10), .unset] [])) (fun t9 k9 => XS.ifNo X51.here hx rfl (hb hby at_135) rfl ((if0 _ _).trans (feq hd0).1) k9) ?_
          refine own_st (T' := T51) (g' := (mkF m 140 #[.val (.int p1), .val (.int p2), .val (.int p3), .val (.int p4), .val (.int p5), .val (.int p6), .val (.int (Int32.ofNat (1 + 1))), .val (.int ds), .val (.int (Int32.ofNat jj)), .val (.int (Int32.ofNat pl)), .val (.ref b1), .val (.double (FP.i2d p6)), .second, .val (.ref b10), .unset] [(.int (Int32.ofNat jj))])) (fun t9 k9 => XS.iload X51.here hx rfl (hb hby at_138) rfl k9) ?_
          refine own_st (T' := T51) (g' := (mkF m 141 #[.val (.int p1), .val (.int p2), .val (.int p3), .val (.int p4), .val (.int p5), .val (.int p6), .val (.int (Int32.ofNat (1 + 1))), .val (.int ds), .val (.int (Int32.ofNat jj)), .val (.int (Int32.ofNat pl)), .val (.ref b1), .val (.double (FP.i2d p6)), .second, .val (.ref b10), .unset] [(.int (1 : Int32)), (.int (Int32.ofNat jj))])) (fun t9 k9 => XS.iconst X51.here hx rfl (hb hby at_140) k9) ?_
          by_cases hj1 : (Int32.ofNat jj) = (1 : Int32)
          · refine own_st (T' := T51) (g' := (mkF m 144 #[.val (.int p1), .val (.int p2), .val (.int p3), .val (.int p4), .val (.int p5), .val (.int p6), .val (.int (Int32.ofNat (1 + 1))), .val (.int ds), .val (.int (Int32.ofNat jj)), .val (.int (Int32.ofNat pl)), .val (.ref b1), .val (.double (FP.i2d p6)), .second, .val (.ref b10), .unset] [])) (fun t9 k9 => XS.icmpNo X51.here hx rfl (hb hby at_141) rfl (teq hj1).2 k9) ?_
            have hje : jj = 1 := own_eq' (n := 1) hj1 (by omega) (by omega)
            refine own_st (T' := T51) (g' := (mkF m 146 #[.val (.int p1), .val (.int p2), .val (.int p3), .val (.int p4), .val (.int p5), .val (.int p6), .val (.int (Int32.ofNat (1 + 1))), .val (.int ds), .val (.int (Int32.ofNat jj)), .val (.int (Int32.ofNat pl)), .val (.ref b1), .val (.double (FP.i2d p6)), .second, .val (.ref b10), .unset] [(.ref b10)])) (fun t9 k9 => XS.aload X51.here hx rfl (hb hby at_144) rfl rfl k9) ?_
            refine own_st (T' := T51) (g' := (mkF m 148 #[.val (.int p1), .val (.int p2), .val (.int p3), .val (.int p4), .val (.int p5), .val (.int p6), .val (.int (Int32.ofNat (1 + 1))), .val (.int ds), .val (.int (Int32.ofNat jj)), .val (.int (Int32.ofNat pl)), .val (.ref b1), .val (.double (FP.i2d p6)), .second, .val (.ref b10), .unset] [(.int (Int32.ofNat pl)), (.ref b10)])) (fun t9 k9 => XS.iload X51.here hx rfl (hb hby at_146) rfl k9) ?_
            refine own_st (T' := T51) (g' := (mkF m 150 #[.val (.int p1), .val (.int p2), .val (.int p3), .val (.int p4), .val (.int p5), .val (.int p6), .val (.int (Int32.ofNat (1 + 1))), .val (.int ds), .val (.int (Int32.ofNat jj)), .val (.int (Int32.ofNat pl)), .val (.ref b1), .val (.double (FP.i2d p6)), .second, .val (.ref b10), .unset] [(.double (FP.i2d p6)), (.int (Int32.ofNat pl)), (.ref b10)])) (fun t9 k9 => XS.dload X51.here hx rfl (hb hby at_148) rfl k9) ?_
            have Kb2 := K51
            obtain ⟨cq54, kq54, qa54, qb54, qc54⟩ := isOf hZ e51 Ee_52
            obtain ⟨_, _, ⟨T54, L54, k54, n54⟩, -, X54, ⟨Lc54, hQ54, l54, y54, z54⟩, st54⟩ := X51.virtualBack hx (y := (⟨"com/example/shelfwright/shelfwright/packers/FirstFit", "set", "(ID)V"⟩ : MethodName)) (z := (⟨"com/example/shelfwright/shelfwright/packers/FirstFit", "set", "(ID)V"⟩ : MethodName)) hown (mvT hZ (hw _ (List.mem_of_getElem? (i := 32) rfl))) (mvT hZ (hw _ (List.mem_of_getElem? (i := 23) rfl))) (notFace_of_selects (args := #[]) (mvT hZ (hw _ (List.mem_of_getElem? (i := 25) rfl)))) (mvT hZ (hw _ (List.mem_of_getElem? (i := 25) rfl))) (mvT hZ (hw _ (List.mem_of_getElem? (i := 24) rfl))) (by decide) (own_back (W := 0) (rm4 l Z a0 hw b10 b51 kb51 vb51 fb51 cb51 pl (FP.i2d p6) h51 n0 Z51 Fl51 Fc51 Vq51 hv51 hc451 (by omega) (own_i2d _) hn51.symm g_b51) hZ (hw _ (List.mem_of_getElem? (i := 26) rfl)) (hw _ (List.mem_of_getElem? (i := 3) rfl)) (by decide) (by decide)) qa54 qc54 (g := (mkF m 150 #[.val (.int p1), .val (.int p2), .val (.int p3), .val (.int p4), .val (.int p5), .val (.int p6), .val (.int (Int32.ofNat (1 + 1))), .val (.int ds), .val (.int (Int32.ofNat jj)), .val (.int (Int32.ofNat pl)), .val (.ref b1), .val (.double (FP.i2d p6)), .second, .val (.ref b10), .unset] [(.double (FP.i2d p6)), (.int (Int32.ofNat pl)), (.ref b10)])) rfl (by rw [hml]; rfl) (Steps.refl _) (argsL := [(.int (Int32.ofNat pl)), (.double (FP.i2d p6))]) (rest := []) (lenOf pd_2 rfl) rfl (by show 2 * 0 + _ ≤ _; exact Nat.le_of_eq rfl) (hb hby at_150) (fun _ _ => ⟨rfl, e51, (Nat.le_of_ble_eq_true rfl), (Nat.le_of_ble_eq_true rfl)⟩)
            dsimp only [Pt.U, Pt.locs, Pt.cells, Pt.slots] at X54 l54 y54 z54 st54 hQ54
            subst l54 y54 z54
            obtain ⟨vz54, fz54, rfl, Nq54, Kq54, Vq54, hz54, hkz54⟩ := hQ54
            have N54 := Fr.app N51 Nq54
            obtain ⟨h54, e54⟩ : ∃ z, T54.heap = z := ⟨_, rfl⟩
            rw [e54] at Kq54 Vq54
            have Ee_55 := Ee_52.keep Kq54
            have Vx9_56 := Vx9_53.keep Kq54 (ninS hnx51 nin0)
            have Fl51_57 := Fl51.keep Kq54 (ninS (Ne.symm hn51) nin0)
            have Fc51_58 := Fc51.keep Kq54 (ninS (Ne.symm hn51) nin0)
            have Fn51_59 := Fn51.keep Kq54 (ninS (Ne.symm hn51) nin0)
            have K54 := K51.trans Kq54 (allS (Or.inr hsz51) all0)
            have Z54 : n0 ≤ h54.size := Nat.le_trans Z51 Kq54.1
            refine own_st (T' := T54) (g' := (mkF m 153 #[.val (.int p1), .val (.int p2), .val (.int p3), .val (.int p4), .val (.int p5), .val (.int p6), .val (.int (Int32.ofNat (1 + 1))), .val (.int ds), .val (.int (Int32.ofNat jj)), .val (.int (Int32.ofNat pl)), .val (.ref b1), .val (.double (FP.i2d p6)), .second, .val (.ref b10), .unset] [])) (fun t9 k9 => st54.trans k9) ?_
            exact js2 _ _ _ _ _ _ _ _ X54 e54 N54 Z54 K54 Ee_55 Fl51_57 Fc51_58 Fn51_59 Vq54 Vx9_56 hz54 hc451 hkc51 hpw51 g_b51 hn51 hnx51 hsz51 (fun i hi => by
                  rw [hkz54 i (by omega)]
                  by_cases q : i = pl
                  · rw [if_pos q, if_pos ⟨hd0, by omega, q⟩]
                  · rw [if_neg q, hkp51 i hi, if_neg (fun r => q r.2.2), if_neg (fun r => q r.2.2)])
          · refine own_st (T' := T51) (g' := (mkF m 153 #[.val (.int p1), .val (.int p2), .val (.int p3), .val (.int p4), .val (.int p5), .val (.int p6), .val (.int (Int32.ofNat (1 + 1))), .val (.int ds), .val (.int (Int32.ofNat jj)), .val (.int (Int32.ofNat pl)), .val (.ref b1), .val (.double (FP.i2d p6)), .second, .val (.ref b10), .unset] [])) (fun t9 k9 => XS.icmpYes X51.here hx rfl (pc0 := 141) (pc' := 153) rfl (hb hby at_141) rfl (feq hj1).2 (by decide) (by decide) k9) ?_
            have hje : jj ≠ 1 := fun q => hj1 (by rw [q]; rfl)
            exact js2 _ _ _ _ _ _ _ _ X51 e51 N51 Z51 K51 Ee_52 Fl51 Fc51 Fn51 Vq51 Vx9_53 hv51 hc451 hkc51 hpw51 g_b51 hn51 hnx51 hsz51 (fun i hi => by
                  rw [hkp51 i hi]
                  by_cases r : (¬ ds = 0 ∧ jj < 1 ∧ i = pl)
                  · rw [if_pos r, if_pos ⟨r.1, by omega, r.2.2⟩]
                  · rw [if_neg r, if_neg (fun r' => r ⟨r'.1, by omega, r'.2.2⟩)])
      refine own_st (T' := T12) (g' := (mkF m 90 #[.val (.int p1), .val (.int p2), .val (.int p3), .val (.int p4), .val (.int p5), .val (.int p6), .val (.int (Int32.ofNat (1 + 1))), .val (.int ds), .val (.int (Int32.ofNat jj)), .val (.int (Int32.ofNat pl)), .val (.ref b1), .val (.double (FP.i2d p6)), .second, .val (.ref b10), .unset] [(.ref b10)])) (fun t9 k9 => XS.aload X12.here hx rfl (hb hby at_88) rfl rfl k9) ?_
      refine own_st (T' := T12) (g' := (mkF m 92 #[.val (.int p1), .val (.int p2), .val (.int p3), .val (.int p4), .val (.int p5), .val (.int p6), .val (.int (Int32.ofNat (1 + 1))), .val (.int ds), .val (.int (Int32.ofNat jj)), .val (.int (Int32.ofNat pl)), .val (.ref b1), .val (.double (FP.i2d p6)), .second, .val (.ref b10), .unset] [(.ref b1), (.ref b10)])) (fun t9 k9 => XS.aload X12.here hx rfl (hb hby at_90) rfl rfl k9) ?_
      refine own_st (T' := T12) (g' := (mkF m 93 #[.val (.int p1), .val (.int p2), .val (.int p3), .val (.int p4), .val (.int p5), .val (.int p6), .val (.int (Int32.ofNat (1 + 1))), .val (.int ds), .val (.int (Int32.ofNat jj)), .val (.int (Int32.ofNat pl)), .val (.ref b1), .val (.double (FP.i2d p6)), .second, .val (.ref b10), .unset] [(.int (0 : Int32)), (.ref b1), (.ref b10)])) (fun t9 k9 => XS.iconst X12.here hx rfl (hb hby at_92) k9) ?_
      obtain ⟨clu60, Aru60, qu60, Su60, Nu60, Hu60, Gu60⟩ := (id Va9_13)
      have hinu60 := inb_of Su60 (j := (0 : Int32)) ⟨by decide, by decide⟩
      refine own_st (T' := T12) (g' := (mkF m 94 #[.val (.int p1), .val (.int p2), .val (.int p3), .val (.int p4), .val (.int p5), .val (.int p6), .val (.int (Int32.ofNat (1 + 1))), .val (.int ds), .val (.int (Int32.ofNat jj)), .val (.int (Int32.ofNat pl)), .val (.ref b1), .val (.double (FP.i2d p6)), .second, .val (.ref b10), .unset] [(.double ((own_dk (FP.i2d p2) (FP.i2d p3) (FP.i2d p4) (FP.i2d p5)) 0)), (.ref b10)])) (fun t9 k9 => X12.daload hx (j := (0 : Int32)) (v := (.double ((own_dk (FP.i2d p2) (FP.i2d p3) (FP.i2d p4) (FP.i2d p5)) 0))) (by rw [e12]; exact Aru60.1) (State.isArrayOf_alike hZ.alike Aru60.2.1) Aru60.2.2 hinu60 (Hu60.at hinu60 (hX.2 0 (by decide)).1) (g := (mkF m 93 #[.val (.int p1), .val (.int p2), .val (.int p3), .val (.int p4), .val (.int p5), .val (.int p6), .val (.int (Int32.ofNat (1 + 1))), .val (.int ds), .val (.int (Int32.ofNat jj)), .val (.int (Int32.ofNat pl)), .val (.ref b1), .val (.double (FP.i2d p6)), .second, .val (.ref b10), .unset] [(.int (0 : Int32)), (.ref b1), (.ref b10)])) rfl rfl (hb hby at_93) t9 k9) ?_
      have Kb61 := K12
      have lx := Va9_13.lt
      have la := A10_14.lt
      obtain ⟨cq61, kq61, qa61, qb61, qc61⟩ := isOf hZ e12 A10_14
      obtain ⟨_, _, ⟨T61, L61, k61, n61⟩, -, X61, ⟨Lc61, hQ61, l61, y61, z61⟩, st61⟩ := X12.virtualBack hx (y := (⟨"com/example/shelfwright/shelfwright/packers/FirstFit", "add", "(D)I"⟩ : MethodName)) (z := (⟨"com/example/shelfwright/shelfwright/packers/FirstFit", "add", "(D)I"⟩ : MethodName)) hown (mvT hZ (hw _ (List.mem_of_getElem? (i := 15) rfl))) (mvT hZ (hw _ (List.mem_of_getElem? (i := 16) rfl))) (notFace_of_selects (args := #[]) (mvT hZ (hw _ (List.mem_of_getElem? (i := 18) rfl)))) (mvT hZ (hw _ (List.mem_of_getElem? (i := 18) rfl))) (mvT hZ (hw _ (List.mem_of_getElem? (i := 17) rfl))) (by decide) (own_back (W := 0) (rm3 l Z a0 hw b10 d12 _ vd12 (fun _ => (18442240474082181120 : UInt64)) 1 0 ((own_dk (FP.i2d p2) (FP.i2d p3) (FP.i2d p4) (FP.i2d p5)) 0) h12 n0 Z12 A10_14 Fl12 Fc12 Fn12 Vq12 hv12 (by decide) (by decide) (by omega) (by omega) g_b10 g_d12 hne0 (hX.2 0 (by decide)).2) hZ (hw _ (List.mem_of_getElem? (i := 19) rfl)) (hw _ (List.mem_of_getElem? (i := 3) rfl)) (by decide) (by decide)) qa61 qc61 (g := (mkF m 94 #[.val (.int p1), .val (.int p2), .val (.int p3), .val (.int p4), .val (.int p5), .val (.int p6), .val (.int (Int32.ofNat (1 + 1))), .val (.int ds), .val (.int (Int32.ofNat jj)), .val (.int (Int32.ofNat pl)), .val (.ref b1), .val (.double (FP.i2d p6)), .second, .val (.ref b10), .unset] [(.double ((own_dk (FP.i2d p2) (FP.i2d p3) (FP.i2d p4) (FP.i2d p5)) 0)), (.ref b10)])) rfl (by rw [hml]; rfl) (Steps.refl _) (argsL := [(.double ((own_dk (FP.i2d p2) (FP.i2d p3) (FP.i2d p4) (FP.i2d p5)) 0))]) (rest := []) (lenOf pd_1 rfl) rfl (by show 2 * 0 + _ ≤ _; exact Nat.le_of_eq rfl) (hb hby at_94) (fun _ _ => ⟨rfl, e12, (Nat.le_of_ble_eq_true rfl), (Nat.le_of_ble_eq_true rfl)⟩)
      dsimp only [Pt.U, Pt.locs, Pt.cells, Pt.slots] at X61 l61 y61 z61 st61 hQ61
      subst l61 y61 z61
      obtain ⟨b61, kb61, vb61, fb61, cb61, z61, rfl, Nq61, Kq61, hd61, g_b61, hn61, Eq61, Fl61, Fc61, Fn61, Vq61, hv61, hc461, hkc61, hcc61, hkk61, hkn61⟩ := hQ61
      have N61 := Fr.app N12 Nq61
      obtain ⟨h61, e61⟩ : ∃ z, T61.heap = z := ⟨_, rfl⟩
      rw [e61] at Kq61 Eq61 Fl61 Fc61 Fn61 Vq61
      have Va9_62 := Va9_13.keep Kq61 (ninS ne_b1_b10 (ninS hnx0 nin0))
      have A10_63 := A10_14.keep Kq61
      have K61 := K12.trans Kq61 (allS (Or.inr sz_b10) (allS (Or.inr (Nat.le_trans Kp0.1 sz12)) all0))
      have Z61 : n0 ≤ h61.size := Nat.le_trans Z12 Kq61.1
      refine own_st (T' := T61) (g' := (mkF m 97 #[.val (.int p1), .val (.int p2), .val (.int p3), .val (.int p4), .val (.int p5), .val (.int p6), .val (.int (Int32.ofNat (1 + 1))), .val (.int ds), .val (.int (Int32.ofNat jj)), .val (.int (Int32.ofNat pl)), .val (.ref b1), .val (.double (FP.i2d p6)), .second, .val (.ref b10), .unset] [(.int z61)])) (fun t9 k9 => st61.trans k9) ?_
      have hnx61 : b1 ≠ b61 := by
        rcases hd61 with q | q
        · rw [q]; exact hnx0
        · exact Nat.ne_of_lt (Nat.lt_of_lt_of_le lx q)
      have hsz61 : h0.size ≤ b61 := by
        rcases hd61 with q | q
        · rw [q]; exact (Nat.le_trans Kp0.1 sz12)
        · exact Nat.le_trans Kb61.1 q
      have hpw61 : cb61 = 1 := by
        omega
      have hkp61 : ∀ i, i < 1 → fb61 (cb61 + i) = (if (¬ ds = 0 ∧ jj < 0 ∧ i = pl) then (FP.i2d p6) else (own_dk (FP.i2d p2) (FP.i2d p3) (FP.i2d p4) (FP.i2d p5)) i) := by
        intro i hi
        by_cases hl : i < 0
        · rw [hkk61 i hl]; exact (fun i hi => absurd hi (Nat.not_lt_zero i)) i hl
        · obtain rfl : i = 0 := by omega
          rw [hkn61, if_neg (by omega)]
      refine own_st (T' := T61) (g' := (mkF m 98 #[.val (.int p1), .val (.int p2), .val (.int p3), .val (.int p4), .val (.int p5), .val (.int p6), .val (.int (Int32.ofNat (1 + 1))), .val (.int ds), .val (.int (Int32.ofNat jj)), .val (.int (Int32.ofNat pl)), .val (.ref b1), .val (.double (FP.i2d p6)), .second, .val (.ref b10), .unset] [])) (fun t9 k9 => XS.pop X61.here hx rfl (hb hby at_97) rfl rfl k9) ?_
      refine own_st (T' := T61) (g' := (mkF m 100 #[.val (.int p1), .val (.int p2), .val (.int p3), .val (.int p4), .val (.int p5), .val (.int p6), .val (.int (Int32.ofNat (1 + 1))), .val (.int ds), .val (.int (Int32.ofNat jj)), .val (.int (Int32.ofNat pl)), .val (.ref b1), .val (.double (FP.i2d p6)), .second, .val (.ref b10), .unset] [(.int ds)])) (fun t9 k9 => XS.iload X61.here hx rfl (hb hby at_98) rfl k9) ?_
      by_cases hd0 : ds = (0 : Int32)
      · refine own_st (T' := T61) (g' := (mkF m 117 #[.val (.int p1), .val (.int p2), .val (.int p3), .val (.int p4), .val (.int p5), .val (.int p6), .val (.int (Int32.ofNat (1 + 1))), .val (.int ds), .val (.int (Int32.ofNat jj)), .val (.int (Int32.ofNat pl)), .val (.ref b1), .val (.double (FP.i2d p6)), .second, .val (.ref b10), .unset] [])) (fun t9 k9 => XS.ifYes X61.here hx rfl (pc0 := 100) (pc' := 117) rfl (hb hby at_100) rfl ((if0 _ _).trans (teq hd0).1) (by decide) (by decide) k9) ?_
        exact js1 _ _ _ _ _ _ _ _ X61 e61 N61 Z61 K61 A10_63 Fl61 Fc61 Fn61 Vq61 Va9_62 hv61 hc461 hkc61 hpw61 g_b61 hn61 hnx61 hsz61 (fun i hi => by rw [hkp61 i hi, if_neg (fun q => q.1 hd0), if_neg (fun q => q.1 hd0)])
      · refine own_st (T' := T61) (g' := (mkF m 103 #[.val (.int p1), .val (.int p2), .val (.int p3), .val (.int p4), .val (.int p5), .val (.int p6), .val (.int (Int32.ofNat (1 + 1))), .val (.int ds), .val (.int (Int32.ofNat jj)), .val (.int (Int32.ofNat pl)), .val (.ref b1), .val (.double (FP.i2d p6)), .second, .val (.ref b10), .unset] [])) (fun t9 k9 => XS.ifNo X61.here hx rfl (hb hby at_100) rfl ((if0 _ _).trans (feq hd0).1) k9) ?_
        refine own_st (T' := T61) (g' := (mkF m 105 #[.val (.int p1), .val (.int p2), .val (.int p3), .val (.int p4), .val (.int p5), .val (.int p6), .val (.int (Int32.ofNat (1 + 1))), .val (.int ds), .val (.int (Int32.ofNat jj)), .val (.int (Int32.ofNat pl)), .val (.ref b1), .val (.double (FP.i2d p6)), .second, .val (.ref b10), .unset] [(.int (Int32.ofNat jj))])) (fun t9 k9 => XS.iload X61.here hx rfl (hb hby at_103) rfl k9) ?_
        by_cases hj0 : (Int32.ofNat jj) = (0 : Int32)
        · refine own_st (T' := T61) (g' := (mkF m 108 #[.val (.int p1), .val (.int p2), .val (.int p3), .val (.int p4), .val (.int p5), .val (.int p6), .val (.int (Int32.ofNat (1 + 1))), .val (.int ds), .val (.int (Int32.ofNat jj)), .val (.int (Int32.ofNat pl)), .val (.ref b1), .val (.double (FP.i2d p6)), .second, .val (.ref b10), .unset] [])) (fun t9 k9 => XS.ifNo X61.here hx rfl (hb hby at_105) rfl ((if0 _ _).trans (teq hj0).2) k9) ?_
          have hje : jj = 0 := own_eq' (n := 0) hj0 (by omega) (by omega)
          refine own_st (T' := T61) (g' := (mkF m 110 #[.val (.int p1), .val (.int p2), .val (.int p3), .val (.int p4), .val (.int p5), .val (.int p6), .val (.int (Int32.ofNat (1 + 1))), .val (.int ds), .val (.int (Int32.ofNat jj)), .val (.int (Int32.ofNat pl)), .val (.ref b1), .val (.double (FP.i2d p6)), .second, .val (.ref b10), .unset] [(.ref b10)])) (fun t9 k9 => XS.aload X61.here hx rfl (hb hby at_108) rfl rfl k9) ?_
          refine own_st (T' := T61) (g' := (mkF m 112 #[.val (.int p1), .val (.int p2), .val (.int p3), .val (.int p4), .val (.int p5), .val (.int p6), .val (.int (Int32.ofNat (1 + 1))), .val (.int ds), .val (.int (Int32.ofNat jj)), .val (.int (Int32.ofNat pl)), .val (.ref b1), .val (.double (FP.i2d p6)), .second, .val (.ref b10), .unset] [(.int (Int32.ofNat pl)), (.ref b10)])) (fun t9 k9 => XS.iload X61.here hx rfl (hb hby at_110) rfl k9) ?_
          refine own_st (T' := T61) (g' := (mkF m 114 #[.val (.int p1), .val (.int p2), .val (.int p3), .val (.int p4), .val (.int p5), .val (.int p6), .val (.int (Int32.ofNat (1 + 1))), .val (.int ds), .val (.int (Int32.ofNat jj)), .val (.int (Int32.ofNat pl)), .val (.ref b1), .val (.double (FP.i2d p6)), .second, .val (.ref b10), .unset] [(.double (FP.i2d p6)), (.int (Int32.ofNat pl)), (.ref b10)])) (fun t9 k9 => XS.dload X61.here hx rfl (hb hby at_112) rfl k9) ?_
          have Kb2 := K61
          obtain ⟨cq64, kq64, qa64, qb64, qc64⟩ := isOf hZ e61 A10_63
          obtain ⟨_, _, ⟨T64, L64, k64, n64⟩, -, X64, ⟨Lc64, hQ64, l64, y64, z64⟩, st64⟩ := X61.virtualBack hx (y := (⟨"com/example/shelfwright/shelfwright/packers/FirstFit", "set", "(ID)V"⟩ : MethodName)) (z := (⟨"com/example/shelfwright/shelfwright/packers/FirstFit", "set", "(ID)V"⟩ : MethodName)) hown (mvT hZ (hw _ (List.mem_of_getElem? (i := 32) rfl))) (mvT hZ (hw _ (List.mem_of_getElem? (i := 23) rfl))) (notFace_of_selects (args := #[]) (mvT hZ (hw _ (List.mem_of_getElem? (i := 25) rfl)))) (mvT hZ (hw _ (List.mem_of_getElem? (i := 25) rfl))) (mvT hZ (hw _ (List.mem_of_getElem? (i := 24) rfl))) (by decide) (own_back (W := 0) (rm4 l Z a0 hw b10 b61 kb61 vb61 fb61 cb61 pl (FP.i2d p6) h61 n0 Z61 Fl61 Fc61 Vq61 hv61 hc461 (by omega) (own_i2d _) hn61.symm g_b61) hZ (hw _ (List.mem_of_getElem? (i := 26) rfl)) (hw _ (List.mem_of_getElem? (i := 3) rfl)) (by decide) (by decide)) qa64 qc64 (g := (mkF m 114 #[.val (.int p1), .val (.int p2), .val (.int p3), .val (.int p4), .val (.int p5), .val (.int p6), .val (.int (Int32.ofNat (1 + 1))), .val (.int ds), .val (.int (Int32.ofNat jj)), .val (.int (Int32.ofNat pl)), .val (.ref b1), .val (.double (FP.i2d p6)), .second, .val (.ref b10), .unset] [(.double (FP.i2d p6)), (.int (Int32.ofNat pl)), (.ref b10)])) rfl (by rw [hml]; rfl) (Steps.refl _) (argsL := [(.int (Int32.ofNat pl)), (.double (FP.i2d p6))]) (rest := []) (lenOf pd_2 rfl) rfl (by show 2 * 0 + _ ≤ _; exact Nat.le_of_eq rfl) (hb hby at_114) (fun _ _ => ⟨rfl, e61, (Nat.le_of_ble_eq_true rfl), (Nat.le_of_ble_eq_true rfl)⟩)
          dsimp only [Pt.U, Pt.locs, Pt.cells, Pt.slots] at X64 l64 y64 z64 st64 hQ64
          subst l64 y64 z64
          obtain ⟨vz64, fz64, rfl, Nq64, Kq64, Vq64, hz64, hkz64⟩ := hQ64
          have N64 := Fr.app N61 Nq64
          obtain ⟨h64, e64⟩ : ∃ z, T64.heap = z := ⟨_, rfl⟩
          rw [e64] at Kq64 Vq64
          have Va9_65 := Va9_62.keep Kq64 (ninS hnx61 nin0)
          have A10_66 := A10_63.keep Kq64
          have Fl61_67 := Fl61.keep Kq64 (ninS (Ne.symm hn61) nin0)
          have Fc61_68 := Fc61.keep Kq64 (ninS (Ne.symm hn61) nin0)
          have Fn61_69 := Fn61.keep Kq64 (ninS (Ne.symm hn61) nin0)
          have K64 := K61.trans Kq64 (allS (Or.inr hsz61) all0)
          have Z64 : n0 ≤ h64.size := Nat.le_trans Z61 Kq64.1
          refine own_st (T' := T64) (g' := (mkF m 117 #[.val (.int p1), .val (.int p2), .val (.int p3), .val (.int p4), .val (.int p5), .val (.int p6), .val (.int (Int32.ofNat (1 + 1))), .val (.int ds), .val (.int (Int32.ofNat jj)), .val (.int (Int32.ofNat pl)), .val (.ref b1), .val (.double (FP.i2d p6)), .second, .val (.ref b10), .unset] [])) (fun t9 k9 => st64.trans k9) ?_
          exact js1 _ _ _ _ _ _ _ _ X64 e64 N64 Z64 K64 A10_66 Fl61_67 Fc61_68 Fn61_69 Vq64 Va9_65 hz64 hc461 hkc61 hpw61 g_b61 hn61 hnx61 hsz61 (fun i hi => by
                rw [hkz64 i (by omega)]
                by_cases q : i = pl
                · rw [if_pos q, if_pos ⟨hd0, by omega, q⟩]
                · rw [if_neg q, hkp61 i hi, if_neg (fun r => q r.2.2), if_neg (fun r => q r.2.2)])
        · refine own_st (T' := T61) (g' := (mkF m 117 #[.val (.int p1), .val (.int p2), .val (.int p3), .val (.int p4), .val (.int p5), .val (.int p6), .val (.int (Int32.ofNat (1 + 1))), .val (.int ds), .val (.int (Int32.ofNat jj)), .val (.int (Int32.ofNat pl)), .val (.ref b1), .val (.double (FP.i2d p6)), .second, .val (.ref b10), .unset] [])) (fun t9 k9 => XS.ifYes X61.here hx rfl (pc0 := 105) (pc' := 117) rfl (hb hby at_105) rfl ((if0 _ _).trans (feq hj0).2) (by decide) (by decide) k9) ?_
          have hje : jj ≠ 0 := fun q => hj0 (by rw [q]; rfl)
          exact js1 _ _ _ _ _ _ _ _ X61 e61 N61 Z61 K61 A10_63 Fl61 Fc61 Fn61 Vq61 Va9_62 hv61 hc461 hkc61 hpw61 g_b61 hn61 hnx61 hsz61 (fun i hi => by
                rw [hkp61 i hi]
                by_cases r : (¬ ds = 0 ∧ jj < 0 ∧ i = pl)
                · rw [if_pos r, if_pos ⟨r.1, by omega, r.2.2⟩]
                · rw [if_neg r, if_neg (fun r' => r ⟨r'.1, by omega, r'.2.2⟩)])
    · show own_Go p e below F T12 (mkF m 86 #[.val (.int p1), .val (.int p2), .val (.int p3), .val (.int p4), .val (.int p5), .val (.int p6), .val (.int (Int32.ofNat (2 + 1))), .val (.int ds), .val (.int (Int32.ofNat jj)), .val (.int (Int32.ofNat pl)), .val (.ref b1), .val (.double (FP.i2d p6)), .second, .unset, .unset] [(.ref b10)])
      refine own_st (T' := T12) (g' := (mkF m 88 #[.val (.int p1), .val (.int p2), .val (.int p3), .val (.int p4), .val (.int p5), .val (.int p6), .val (.int (Int32.ofNat (2 + 1))), .val (.int ds), .val (.int (Int32.ofNat jj)), .val (.int (Int32.ofNat pl)), .val (.ref b1), .val (.double (FP.i2d p6)), .second, .val (.ref b10), .unset] [])) (fun t9 k9 => XS.astore X12.here hx rfl (hb hby at_86) rfl rfl (l' := #[.val (.int p1), .val (.int p2), .val (.int p3), .val (.int p4), .val (.int p5), .val (.int p6), .val (.int (Int32.ofNat (2 + 1))), .val (.int ds), .val (.int (Int32.ofNat jj)), .val (.int (Int32.ofNat pl)), .val (.ref b1), .val (.double (FP.i2d p6)), .second, .val (.ref b10), .unset]) rfl k9) ?_
      have js1 : ∀ (T70 : State) (L70 : List Loc) (h70 : Heap) (dd : Addr) (kd : ClassId) (vq : List Value) (fq : Nat → UInt64) (cq : Nat), Stand p l e room_1 s m #[(.int p1), (.int p2), (.int p3), (.int p4), (.int p5), (.int p6)] below meth c T70 L70 (((0 + 1 + 1 + 1) + 2)) (((0 + 4 + 3 + 2) + 10)) → T70.heap = h70 → Fr n0 L70 → (n0 ≤ h70.size) → (Keep h0 h70 []) → (Exa Z h70 b10 "com/example/shelfwright/shelfwright/packers/FirstFit") → (Fld Z h70 b10 "com/example/shelfwright/shelfwright/packers/FirstFit" "largestKey" "[D" (.ref dd)) → (Fld Z h70 b10 "com/example/shelfwright/shelfwright/packers/FirstFit" "capacity" "I" (.int (Int32.ofNat cq))) → (Fld Z h70 b10 "com/example/shelfwright/shelfwright/packers/FirstFit" "count" "I" (.int (Int32.ofNat 1))) → (Arv Z h70 dd kd .double (Int32.ofNat (2 * cq)) vq (.double 0)) → (Arv Z h70 b1 k1 .double (4 : Int32) ((((([Value.double 0, .double 0, .double 0, .double 0].set 0 (.double (FP.i2d p2))).set 1 (.double (FP.i2d p3))).set 2 (.double (FP.i2d p4))).set 3 (.double (FP.i2d p5)))) (.double 0)) → (own_D vq (2 * cq) fq) → (cq ≤ 4) → (1 ≤ cq) → (cq = 1) → (n0 ≤ dd) → (dd ≠ b10) → (b1 ≠ dd) → (h0.size ≤ dd) → (∀ i, i < 1 → fq (cq + i) = (if (¬ ds = 0 ∧ jj < 1 ∧ i = pl) then (FP.i2d p6) else (own_dk (FP.i2d p2) (FP.i2d p3) (FP.i2d p4) (FP.i2d p5)) i)) → own_Go p e below F T70 (mkF m 117 #[.val (.int p1), .val (.int p2), .val (.int p3), .val (.int p4), .val (.int p5), .val (.int p6), .val (.int (Int32.ofNat (2 + 1))), .val (.int ds), .val (.int (Int32.ofNat jj)), .val (.int (Int32.ofNat pl)), .val (.ref b1), .val (.double (FP.i2d p6)), .second, .val (.ref b10), .unset] []) := by
        intro T70 L70 h70 dd kd vq fq cq X70 e70 N70 Z70 K70 Ee FlargestKey9 Fcapacity9 Fcount9 Vd9 Vx9 hq hcq hkq hpow g_dd hna hnx hsz hkp
        refine own_st (T' := T70) (g' := (mkF m 119 #[.val (.int p1), .val (.int p2), .val (.int p3), .val (.int p4), .val (.int p5), .val (.int p6), .val (.int (Int32.ofNat (2 + 1))), .val (.int ds), .val (.int (Int32.ofNat jj)), .val (.int (Int32.ofNat pl)), .val (.ref b1), .val (.double (FP.i2d p6)), .second, .val (.ref b10), .unset] [(.int (Int32.ofNat (2 + 1)))])) (fun t9 k9 => XS.iload X70.here hx rfl (hb hby at_117) rfl k9) ?_
        refine own_st (T' := T70) (g' := (mkF m 120 #[.val (.int p1), .val (.int p2), .val (.int p3), .val (.int p4), .val (.int p5), .val (.int p6), .val (.int (Int32.ofNat (2 + 1))), .val (.int ds), .val (.int (Int32.ofNat jj)), .val (.int (Int32.ofNat pl)), .val (.ref b1), .val (.double (FP.i2d p6)), .second, .val (.ref b10), .unset] [(.int (1 : Int32)), (.int (Int32.ofNat (2 + 1)))])) (fun t9 k9 => XS.iconst X70.here hx rfl (hb hby at_119) k9) ?_
        refine own_st (T' := T70) (g' := (mkF m 123 #[.val (.int p1), .val (.int p2), .val (.int p3), .val (.int p4), .val (.int p5), .val (.int p6), .val (.int (Int32.ofNat (2 + 1))), .val (.int ds), .val (.int (Int32.ofNat jj)), .val (.int (Int32.ofNat pl)), .val (.ref b1), .val (.double (FP.i2d p6)), .second, .val (.ref b10), .unset] [])) (fun t9 k9 => XS.icmpNo X70.here hx rfl (hb hby at_120) rfl (tlt (own_lt (i := 1) (by omega) (by omega))).2.2.2 k9) ?_
        have js2 : ∀ (T71 : State) (L71 : List Loc) (h71 : Heap) (dd : Addr) (kd : ClassId) (vq : List Value) (fq : Nat → UInt64) (cq : Nat), Stand p l e room_1 s m #[(.int p1), (.int p2), (.int p3), (.int p4), (.int p5), (.int p6)] below meth c T71 L71 ((((0 + 1 + 1 + 1) + 2) + 2)) ((((0 + 4 + 3 + 2) + 10) + 10)) → T71.heap = h71 → Fr n0 L71 → (n0 ≤ h71.size) → (Keep h0 h71 []) → (Exa Z h71 b10 "com/example/shelfwright/shelfwright/packers/FirstFit") → (Fld Z h71 b10 "com/example/shelfwright/shelfwright/packers/FirstFit" "largestKey" "[D" (.ref dd)) → (Fld Z h71 b10 "com/example/shelfwright/shelfwright/packers/FirstFit" "capacity" "I" (.int (Int32.ofNat cq))) → (Fld Z h71 b10 "com/example/shelfwright/shelfwright/packers/FirstFit" "count" "I" (.int (Int32.ofNat 2))) → (Arv Z h71 dd kd .double (Int32.ofNat (2 * cq)) vq (.double 0)) → (Arv Z h71 b1 k1 .double (4 : Int32) ((((([Value.double 0, .double 0, .double 0, .double 0].set 0 (.double (FP.i2d p2))).set 1 (.double (FP.i2d p3))).set 2 (.double (FP.i2d p4))).set 3 (.double (FP.i2d p5)))) (.double 0)) → (own_D vq (2 * cq) fq) → (cq ≤ 4) → (2 ≤ cq) → (cq = 2) → (n0 ≤ dd) → (dd ≠ b10) → (b1 ≠ dd) → (h0.size ≤ dd) → (∀ i, i < 2 → fq (cq + i) = (if (¬ ds = 0 ∧ jj < 2 ∧ i = pl) then (FP.i2d p6) else (own_dk (FP.i2d p2) (FP.i2d p3) (FP.i2d p4) (FP.i2d p5)) i)) → own_Go p e below F T71 (mkF m 153 #[.val (.int p1), .val (.int p2), .val (.int p3), .val (.int p4), .val (.int p5), .val (.int p6), .val (.int (Int32.ofNat (2 + 1))), .val (.int ds), .val (.int (Int32.ofNat jj)), .val (.int (Int32.ofNat pl)), .val (.ref b1), .val (.double (FP.i2d p6)), .second, .val (.ref b10), .unset] []) := by
          intro T71 L71 h71 dd kd vq fq cq X71 e71 N71 Z71 K71 Ee FlargestKey9 Fcapacity9 Fcount9 Vd9 Vx9 hq hcq hkq hpow g_dd hna hnx hsz hkp
          refine own_st (T' := T71) (g' := (mkF m 155 #[.val (.int p1), .val (.int p2), .val (.int p3), .val (.int p4), .val (.int p5), .val (.int p6), .val (.int (Int32.ofNat (2 + 1))), .val (.int ds), .val (.int (Int32.ofNat jj)), .val (.int (Int32.ofNat pl)), .val (.ref b1), .val (.double (FP.i2d p6)), .second, .val (.ref b10), .unset] [(.int (Int32.ofNat (2 + 1)))])) (fun t9 k9 => XS.iload X71.here hx rfl (hb hby at_153) rfl k9) ?_
          refine own_st (T' := T71) (g' := (mkF m 156 #[.val (.int p1), .val (.int p2), .val (.int p3), .val (.int p4), .val (.int p5), .val (.int p6), .val (.int (Int32.ofNat (2 + 1))), .val (.int ds), .val (.int (Int32.ofNat jj)), .val (.int (Int32.ofNat pl)), .val (.ref b1), .val (.double (FP.i2d p6)), .second, .val (.ref b10), .unset] [(.int (2 : Int32)), (.int (Int32.ofNat (2 + 1)))])) (fun t9 k9 => XS.iconst X71.here hx rfl (hb hby at_155) k9) ?_
          refine own_st (T' := T71) (g' := (mkF m 159 #[.val (.int p1), .val (.int p2), .val (.int p3), .val (.int p4), .val (.int p5), .val (.int p6), .val (.int (Int32.ofNat (2 + 1))), .val (.int ds), .val (.int (Int32.ofNat jj)), .val (.int (Int32.ofNat pl)), .val (.ref b1), .val (.double (FP.i2d p6)), .second, .val (.ref b10), .unset] [])) (fun t9 k9 => XS.icmpNo X71.here hx rfl (hb hby at_156) rfl (tlt (own_lt (i := 2) (by omega) (by omega))).2.2.2 k9) ?_
          have js3 : ∀ (T72 : State) (L72 : List Loc) (h72 : Heap) (dd : Addr) (kd : ClassId) (vq : List Value) (fq : Nat → UInt64) (cq : Nat), Stand p l e room_1 s m #[(.int p1), (.int p2), (.int p3), (.int p4), (.int p5), (.int p6)] below meth c T72 L72 (((((0 + 1 + 1 + 1) + 2) + 2) + 2)) (((((0 + 4 + 3 + 2) + 10) + 10) + 10)) → T72.heap = h72 → Fr n0 L72 → (n0 ≤ h72.size) → (Keep h0 h72 []) → (Exa Z h72 b10 "com/example/shelfwright/shelfwright/packers/FirstFit") → (Fld Z h72 b10 "com/example/shelfwright/shelfwright/packers/FirstFit" "largestKey" "[D" (.ref dd)) → (Fld Z h72 b10 "com/example/shelfwright/shelfwright/packers/FirstFit" "capacity" "I" (.int (Int32.ofNat cq))) → (Fld Z h72 b10 "com/example/shelfwright/shelfwright/packers/FirstFit" "count" "I" (.int (Int32.ofNat 3))) → (Arv Z h72 dd kd .double (Int32.ofNat (2 * cq)) vq (.double 0)) → (Arv Z h72 b1 k1 .double (4 : Int32) ((((([Value.double 0, .double 0, .double 0, .double 0].set 0 (.double (FP.i2d p2))).set 1 (.double (FP.i2d p3))).set 2 (.double (FP.i2d p4))).set 3 (.double (FP.i2d p5)))) (.double 0)) → (own_D vq (2 * cq) fq) → (cq ≤ 4) → (3 ≤ cq) → (cq = 4) → (n0 ≤ dd) → (dd ≠ b10) → (b1 ≠ dd) → (h0.size ≤ dd) → (∀ i, i < 3 → fq (cq + i) = (if (¬ ds = 0 ∧ jj < 3 ∧ i = pl) then (FP.i2d p6) else (own_dk (FP.i2d p2) (FP.i2d p3) (FP.i2d p4) (FP.i2d p5)) i)) → own_Go p e below F T72 (mkF m 189 #[.val (.int p1), .val (.int p2), .val (.int p3), .val (.int p4), .val (.int p5), .val (.int p6), .val (.int (Int32.ofNat (2 + 1))), .val (.int ds), .val (.int (Int32.ofNat jj)), .val (.int (Int32.ofNat pl)), .val (.ref b1), .val (.double (FP.i2d p6)), .second, .val (.ref b10), .unset] []) := by
            intro T72 L72 h72 dd kd vq fq cq X72 e72 N72 Z72 K72 Ee FlargestKey9 Fcapacity9 Fcount9 Vd9 Vx9 hq hcq hkq hpow g_dd hna hnx hsz hkp
            refine own_st (T' := T72) (g' := (mkF m 191 #[.val (.int p1), .val (.int p2), .val (.int p3), .val (.int p4), .val (.int p5), .val (.int p6), .val (.int (Int32.ofNat (2 + 1))), .val (.int ds), .val (.int (Int32.ofNat jj)), .val (.int (Int32.ofNat pl)), .val (.ref b1), .val (.double (FP.i2d p6)), .second, .val (.ref b10), .unset] [(.int (Int32.ofNat (2 + 1)))])) (fun t9 k9 => XS.iload X72.here hx rfl (hb hby at_189) rfl k9) ?_
            refine own_st (T' := T72) (g' := (mkF m 192 #[.val (.int p1), .val (.int p2), .val (.int p3), .val (.int p4), .val (.int p5), .val (.int p6), .val (.int (Int32.ofNat (2 + 1))), .val (.int ds), .val (.int (Int32.ofNat jj)), .val (.int (Int32.ofNat pl)), .val (.ref b1), .val (.double (FP.i2d p6)), .second, .val (.ref b10), .unset] [(.int (3 : Int32)), (.int (Int32.ofNat (2 + 1)))])) (fun t9 k9 => XS.iconst X72.here hx rfl (hb hby at_191) k9) ?_
            refine own_st (T' := T72) (g' := (mkF m 225 #[.val (.int p1), .val (.int p2), .val (.int p3), .val (.int p4), .val (.int p5), .val (.int p6), .val (.int (Int32.ofNat (2 + 1))), .val (.int ds), .val (.int (Int32.ofNat jj)), .val (.int (Int32.ofNat pl)), .val (.ref b1), .val (.double (FP.i2d p6)), .second, .val (.ref b10), .unset] [])) (fun t9 k9 => XS.icmpYes X72.here hx rfl (pc0 := 192) (pc' := 225) rfl (hb hby at_192) rfl (flt (own_nlt (i := 3) (n := 3) (by omega) (by omega))).2.2.2 (by decide) (by decide) k9) ?_
            refine own_st (T' := T72) (g' := (mkF m 227 #[.val (.int p1), .val (.int p2), .val (.int p3), .val (.int p4), .val (.int p5), .val (.int p6), .val (.int (Int32.ofNat (2 + 1))), .val (.int ds), .val (.int (Int32.ofNat jj)), .val (.int (Int32.ofNat pl)), .val (.ref b1), .val (.double (FP.i2d p6)), .second, .val (.ref b10), .unset] [(.int ds)])) (fun t9 k9 => XS.iload X72.here hx rfl (hb hby at_225) rfl k9) ?_
            have jk : ∀ (T73 : State) (L73 : List Loc) (h73 : Heap) (vx : List Value), Stand p l e room_1 s m #[(.int p1), (.int p2), (.int p3), (.int p4), (.int p5), (.int p6)] below meth c T73 L73 (((((0 + 1 + 1 + 1) + 2) + 2) + 2)) (((((0 + 4 + 3 + 2) + 10) + 10) + 10)) → T73.heap = h73 → Fr n0 L73 → (n0 ≤ h73.size) → (Keep h0 h73 []) → (Exa Z h73 b10 "com/example/shelfwright/shelfwright/packers/FirstFit") → (Fld Z h73 b10 "com/example/shelfwright/shelfwright/packers/FirstFit" "largestKey" "[D" (.ref dd)) → (Fld Z h73 b10 "com/example/shelfwright/shelfwright/packers/FirstFit" "capacity" "I" (.int (Int32.ofNat cq))) → (Fld Z h73 b10 "com/example/shelfwright/shelfwright/packers/FirstFit" "count" "I" (.int (Int32.ofNat 3))) → (Arv Z h73 dd kd .double (Int32.ofNat (2 * cq)) vq (.double 0)) → (Arv Z h73 b1 k1 .double (4 : Int32) vx (.double 0)) → (own_D vx 4 (fun i => if (¬ ds = 0 ∧ jj < 3 ∧ i = pl) then (FP.i2d p6) else (own_dk (FP.i2d p2) (FP.i2d p3) (FP.i2d p4) (FP.i2d p5)) i)) → own_Go p e below F T73 (mkF m 237 #[.val (.int p1), .val (.int p2), .val (.int p3), .val (.int p4), .val (.int p5), .val (.int p6), .val (.int (Int32.ofNat (2 + 1))), .val (.int ds), .val (.int (Int32.ofNat jj)), .val (.int (Int32.ofNat pl)), .val (.ref b1), .val (.double (FP.i2d p6)), .second, .val (.ref b10), .unset] []) := by
              intro T73 L73 h73 vx X73 e73 N73 Z73 K73 Eex FlargestKey9x Fcapacity9x Fcount9x Vd9x Vx9x hx4
              refine own_st (T' := T73) (g' := (mkF m 239 #[.val (.int p1), .val (.int p2), .val (.int p3), .val (.int p4), .val (.int p5), .val (.int p6), .val (.int (Int32.ofNat (2 + 1))), .val (.int ds), .val (.int (Int32.ofNat jj)), .val (.int (Int32.ofNat pl)), .val (.ref b1), .val (.double (FP.i2d p6)), .second, .val (.ref b10), .unset] [(.ref b10)])) (fun t9 k9 => XS.aload X73.here hx rfl (hb hby at_237) rfl rfl k9) ?_
              refine own_st (T' := T73) (g' := (mkF m 240 #[.val (.int p1), .val (.int p2), .val (.int p3), .val (.int p4), .val (.int p5), .val (.int p6), .val (.int (Int32.ofNat (2 + 1))), .val (.int ds), .val (.int (Int32.ofNat jj)), .val (.int (Int32.ofNat pl)), .val (.ref b1), .val (.double (FP.i2d p6)), .second, .val (.ref b10), .unset] [(.int (0 : Int32)), (.ref b10)])) (fun t9 k9 => XS.iconst X73.here hx rfl (hb hby at_239) k9) ?_
              obtain ⟨cq74, kq74, qa74, qb74, qc74⟩ := isOf hZ e73 Eex
              obtain ⟨_, _, ⟨T74, L74, k74, n74⟩, -, X74, ⟨Lc74, hQ74, l74, y74, z74⟩, st74⟩ := X73.virtualBack hx (y := (⟨"com/example/shelfwright/shelfwright/packers/FirstFit", "key", "(I)D"⟩ : MethodName)) (z := (⟨"com/example/shelfwright/shelfwright/packers/FirstFit", "key", "(I)D"⟩ : MethodName)) hown (mvT hZ (hw _ (List.mem_of_getElem? (i := 27) rfl))) (mvT hZ (hw _ (List.mem_of_getElem? (i := 28) rfl))) (notFace_of_selects (args := #[]) (mvT hZ (hw _ (List.mem_of_getElem? (i := 30) rfl)))) (mvT hZ (hw _ (List.mem_of_getElem? (i := 30) rfl))) (mvT hZ (hw _ (List.mem_of_getElem? (i := 29) rfl))) (by decide) (own_back (W := 0) (rm5 l Z a0 hw b10 dd kd vq fq cq 0 h73 n0 Z73 FlargestKey9x Fcapacity9x Vd9x hq hcq (by omega)) hZ (hw _ (List.mem_of_getElem? (i := 31) rfl)) (hw _ (List.mem_of_getElem? (i := 3) rfl)) (by decide) (by decide)) qa74 qc74 (g := (mkF m 240 #[.val (.int p1), .val (.int p2), .val (.int p3), .val (.int p4), .val (.int p5), .val (.int p6), .val (.int (Int32.ofNat (2 + 1))), .val (.int ds), .val (.int (Int32.ofNat jj)), .val (.int (Int32.ofNat pl)), .val (.ref b1), .val (.double (FP.i2d p6)), .second, .val (.ref b10), .unset] [(.int (0 : Int32)), (.ref b10)])) rfl (by rw [hml]; rfl) (Steps.refl _) (argsL := [(.int (0 : Int32))]) (rest := []) (lenOf pd_3 rfl) rfl (by show 2 * 0 + _ ≤ _; exact Nat.le_of_eq rfl) (hb hby at_240) (fun _ _ => ⟨rfl, e73, (Nat.le_of_ble_eq_true rfl), (Nat.le_of_ble_eq_true rfl)⟩)
              dsimp only [Pt.U, Pt.locs, Pt.cells, Pt.slots] at X74 l74 y74 z74 st74 hQ74
              subst l74 y74 z74
              obtain ⟨rfl, Nq74, he74⟩ := hQ74
              have N74 := Fr.app N73 Nq74
              have e74 : T74.heap = h73 := he74
              refine own_st (T' := T74) (g' := (mkF m 243 #[.val (.int p1), .val (.int p2), .val (.int p3), .val (.int p4), .val (.int p5), .val (.int p6), .val (.int (Int32.ofNat (2 + 1))), .val (.int ds), .val (.int (Int32.ofNat jj)), .val (.int (Int32.ofNat pl)), .val (.ref b1), .val (.double (FP.i2d p6)), .second, .val (.ref b10), .unset] [(.double (fq (cq + 0)))])) (fun t9 k9 => st74.trans k9) ?_
              refine own_st (T' := T74) (g' := (mkF m 245 #[.val (.int p1), .val (.int p2), .val (.int p3), .val (.int p4), .val (.int p5), .val (.int p6), .val (.int (Int32.ofNat (2 + 1))), .val (.int ds), .val (.int (Int32.ofNat jj)), .val (.int (Int32.ofNat pl)), .val (.ref b1), .val (.double (FP.i2d p6)), .second, .val (.ref b10), .unset] [(.ref b1), (.double (fq (cq + 0)))])) (fun t9 k9 => XS.aload X74.here hx rfl (hb hby at_243) rfl rfl k9) ?_
              refine own_st (T' := T74) (g' := (mkF m 246 #[.val (.int p1), .val (.int p2), .val (.int p3), .val (.int p4), .val (.int p5), .val (.int p6), .val (.int (Int32.ofNat (2 + 1))), .val (.int ds), .val (.int (Int32.ofNat jj)), .val (.int (Int32.ofNat pl)), .val (.ref b1), .val (.double (FP.i2d p6)), .second, .val (.ref b10), .unset] [(.int (0 : Int32)), (.ref b1), (.double (fq (cq + 0)))])) (fun t9 k9 => XS.iconst X74.here hx rfl (hb hby at_245) k9) ?_
              obtain ⟨clu75, Aru75, qu75, Su75, Nu75, Hu75, Gu75⟩ := (id Vx9x)
              have hinu75 := inb_of Su75 (j := (0 : Int32)) ⟨by decide, by decide⟩
              refine own_st (T' := T74) (g' := (mkF m 247 #[.val (.int p1), .val (.int p2), .val (.int p3), .val (.int p4), .val (.int p5), .val (.int p6), .val (.int (Int32.ofNat (2 + 1))), .val (.int ds), .val (.int (Int32.ofNat jj)), .val (.int (Int32.ofNat pl)), .val (.ref b1), .val (.double (FP.i2d p6)), .second, .val (.ref b10), .unset] [(.double ((fun i => if (¬ ds = 0 ∧ jj < 3 ∧ i = pl) then (FP.i2d p6) else (own_dk (FP.i2d p2) (FP.i2d p3) (FP.i2d p4) (FP.i2d p5)) i) 0)), (.double (fq (cq + 0)))])) (fun t9 k9 => X74.daload hx (j := (0 : Int32)) (v := (.double ((fun i => if (¬ ds = 0 ∧ jj < 3 ∧ i = pl) then (FP.i2d p6) else (own_dk (FP.i2d p2) (FP.i2d p3) (FP.i2d p4) (FP.i2d p5)) i) 0))) (by rw [e74]; exact Aru75.1) (State.isArrayOf_alike hZ.alike Aru75.2.1) Aru75.2.2 hinu75 (Hu75.at hinu75 (hx4.2 0 (by decide)).1) (g := (mkF m 246 #[.val (.int p1), .val (.int p2), .val (.int p3), .val (.int p4), .val (.int p5), .val (.int p6), .val (.int (Int32.ofNat (2 + 1))), .val (.int ds), .val (.int (Int32.ofNat jj)), .val (.int (Int32.ofNat pl)), .val (.ref b1), .val (.double (FP.i2d p6)), .second, .val (.ref b10), .unset] [(.int (0 : Int32)), (.ref b1), (.double (fq (cq + 0)))])) rfl rfl (hb hby at_246) t9 k9) ?_
              refine own_st (T' := T74) (g' := (mkF m 248 #[.val (.int p1), .val (.int p2), .val (.int p3), .val (.int p4), .val (.int p5), .val (.int p6), .val (.int (Int32.ofNat (2 + 1))), .val (.int ds), .val (.int (Int32.ofNat jj)), .val (.int (Int32.ofNat pl)), .val (.ref b1), .val (.double (FP.i2d p6)), .second, .val (.ref b10), .unset] [(.int (cmpValue (FP.dcmp (fq (cq + 0)) ((fun i => if (¬ ds = 0 ∧ jj < 3 ∧ i = pl) then (FP.i2d p6) else (own_dk (FP.i2d p2) (FP.i2d p3) (FP.i2d p4) (FP.i2d p5)) i) 0)) .l))])) (fun t9 k9 => XS.dcmpS X74.here hx rfl (hb hby at_247) rfl rfl k9) ?_
              refine own_st (T' := T74) (g' := (mkF m 251 #[.val (.int p1), .val (.int p2), .val (.int p3), .val (.int p4), .val (.int p5), .val (.int p6), .val (.int (Int32.ofNat (2 + 1))), .val (.int ds), .val (.int (Int32.ofNat jj)), .val (.int (Int32.ofNat pl)), .val (.ref b1), .val (.double (FP.i2d p6)), .second, .val (.ref b10), .unset] [])) (fun t9 k9 => XS.ifNo X74.here hx rfl (hb hby at_248) rfl ((if0 _ _).trans (teq (dcmpV_eq (hkp 0 (by decide)) (hkp 0 (by decide) ▸ (hx4.2 0 (by decide)).2) _)).2) k9) ?_
              refine own_st (T' := T74) (g' := (mkF m 252 #[.val (.int p1), .val (.int p2), .val (.int p3), .val (.int p4), .val (.int p5), .val (.int p6), .val (.int (Int32.ofNat (2 + 1))), .val (.int ds), .val (.int (Int32.ofNat jj)), .val (.int (Int32.ofNat pl)), .val (.ref b1), .val (.double (FP.i2d p6)), .second, .val (.ref b10), .unset] [(.int (1 : Int32))])) (fun t9 k9 => XS.iconst X74.here hx rfl (hb hby at_251) k9) ?_
              refine own_st (T' := T74) (g' := (mkF m 256 #[.val (.int p1), .val (.int p2), .val (.int p3), .val (.int p4), .val (.int p5), .val (.int p6), .val (.int (Int32.ofNat (2 + 1))), .val (.int ds), .val (.int (Int32.ofNat jj)), .val (.int (Int32.ofNat pl)), .val (.ref b1), .val (.double (FP.i2d p6)), .second, .val (.ref b10), .unset] [(.int (1 : Int32))])) (fun t9 k9 => XS.goto X74.here hx rfl (pc0 := 252) (pc' := 256) rfl (hb hby at_252) (by decide) (by decide) k9) ?_
              refine own_st (T' := T74) (g' := (mkF m 258 #[.val (.int p1), .val (.int p2), .val (.int p3), .val (.int p4), .val (.int p5), .val (.int p6), .val (.int (Int32.ofNat (2 + 1))), .val (.int ds), .val (.int (Int32.ofNat jj)), .val (.int (Int32.ofNat pl)), .val (.ref b1), .val (.double (FP.i2d p6)), .second, .val (.ref b10), .val (.int (1 : Int32))] [])) (fun t9 k9 => XS.istore X74.here hx rfl (hb hby at_256) rfl (l' := #[.val (.int p1), .val (.int p2), .val (.int p3), .val (.int p4), .val (.int p5), .val (.int p6), .val (.int (Int32.ofNat (2 + 1))), .val (.int ds), .val (.int (Int32.ofNat jj)), .val (.int (Int32.ofNat pl)), .val (.ref b1), .val (.double (FP.i2d p6)), .second, .val (.ref b10), .val (.int (1 : Int32))]) rfl k9) ?_
              refine own_st (T' := T74) (g' := (mkF m 260 #[.val (.int p1), .val (.int p2), .val (.int p3), .val (.int p4), .val (.int p5), .val (.int p6), .val (.int (Int32.ofNat (2 + 1))), .val (.int ds), .val (.int (Int32.ofNat jj)), .val (.int (Int32.ofNat pl)), .val (.ref b1), .val (.double (FP.i2d p6)), .second, .val (.ref b10), .val (.int (1 : Int32))] [(.int (Int32.ofNat (2 + 1)))])) (fun t9 k9 => XS.iload X74.here hx rfl (hb hby at_258) rfl k9) ?_
              refine own_st (T' := T74) (g' := (mkF m 261 #[.val (.int p1), .val (.int p2), .val (.int p3), .val (.int p4), .val (.int p5), .val (.int p6), .val (.int (Int32.ofNat (2 + 1))), .val (.int ds), .val (.int (Int32.ofNat jj)), .val (.int (Int32.ofNat pl)), .val (.ref b1), .val (.double (FP.i2d p6)), .second, .val (.ref b10), .val (.int (1 : Int32))] [(.int (1 : Int32)), (.int (Int32.ofNat (2 + 1)))])) (fun t9 k9 => XS.iconst X74.here hx rfl (hb hby at_260) k9) ?_
              refine own_st (T' := T74) (g' := (mkF m 264 #[.val (.int p1), .val (.int p2), .val (.int p3), .val (.int p4), .val (.int p5), .val (.int p6), .val (.int (Int32.ofNat (2 + 1))), .val (.int ds), .val (.int (Int32.ofNat jj)), .val (.int (Int32.ofNat pl)), .val (.ref b1), .val (.double (FP.i2d p6)), .second, .val (.ref b10), .val (.int (1 : Int32))] [])) (fun t9 k9 => XS.icmpNo X74.here hx rfl (hb hby at_261) rfl (tlt (own_lt (i := 1) (by omega) (by omega))).2.2.2 k9) ?_
              refine own_st (T' := T74) (g' := (mkF m 266 #[.val (.int p1), .val (.int p2), .val (.int p3), .val (.int p4), .val (.int p5), .val (.int p6), .val (.int (Int32.ofNat (2 + 1))), .val (.int ds), .val (.int (Int32.ofNat jj)), .val (.int (Int32.ofNat pl)), .val (.ref b1), .val (.double (FP.i2d p6)), .second, .val (.ref b10), .val (.int (1 : Int32))] [(.int (1 : Int32))])) (fun t9 k9 => XS.iload X74.here hx rfl (hb hby at_264) rfl k9) ?_
              refine own_st (T' := T74) (g' := (mkF m 269 #[.val (.int p1), .val (.int p2), .val (.int p3), .val (.int p4), .val (.int p5), .val (.int p6), .val (.int (Int32.ofNat (2 + 1))), .val (.int ds), .val (.int (Int32.ofNat jj)), .val (.int (Int32.ofNat pl)), .val (.ref b1), .val (.double (FP.i2d p6)), .second, .val (.ref b10), .val (.int (1 : Int32))] [])) (fun t9 k9 => XS.ifNo X74.here hx rfl (hb hby at_266) rfl ((if0 _ _).trans (feq (by decide)).1) k9) ?_
              refine own_st (T' := T74) (g' := (mkF m 271 #[.val (.int p1), .val (.int p2), .val (.int p3), .val (.int p4), .val (.int p5), .val (.int p6), .val (.int (Int32.ofNat (2 + 1))), .val (.int ds), .val (.int (Int32.ofNat jj)), .val (.int (Int32.ofNat pl)), .val (.ref b1), .val (.double (FP.i2d p6)), .second, .val (.ref b10), .val (.int (1 : Int32))] [(.ref b10)])) (fun t9 k9 => XS.aload X74.here hx rfl (hb hby at_269) rfl rfl k9) ?_
              refine own_st (T' := T74) (g' := (mkF m 272 #[.val (.int p1), .val (.int p2), .val (.int p3), .val (.int p4), .val (.int p5), .val (.int p6), .val (.int (Int32.ofNat (2 + 1))), .val (.int ds), .val (.int (Int32.ofNat jj)), .val (.int (Int32.ofNat pl)), .val (.ref b1), .val (.double (FP.i2d p6)), .second, .val (.ref b10), .val (.int (1 : Int32))] [(.int (1 : Int32)), (.ref b10)])) (fun t9 k9 => XS.iconst X74.here hx rfl (hb hby at_271) k9) ?_
              obtain ⟨cq76, kq76, qa76, qb76, qc76⟩ := isOf hZ e74 Eex
              obtain ⟨_, _, ⟨T76, L76, k76, n76⟩, -, X76, ⟨Lc76, hQ76, l76, y76, z76⟩, st76⟩ := X74.virtualBack hx (y := (⟨"com/example/shelfwright/shelfwright/packers/FirstFit", "key", "(I)D"⟩ : MethodName)) (z := (⟨"com/example/shelfwright/shelfwright/packers/FirstFit", "key", "(I)D"⟩ : MethodName)) hown (mvT hZ (hw _ (List.mem_of_getElem? (i := 27) rfl))) (mvT hZ (hw _ (List.mem_of_getElem? (i := 28) rfl))) (notFace_of_selects (args := #[]) (mvT hZ (hw _ (List.mem_of_getElem? (i := 30) rfl)))) (mvT hZ (hw _ (List.mem_of_getElem? (i := 30) rfl))) (mvT hZ (hw _ (List.mem_of_getElem? (i := 29) rfl))) (by decide) (own_back (W := 0) (rm5 l Z a0 hw b10 dd kd vq fq cq 1 h73 n0 Z73 FlargestKey9x Fcapacity9x Vd9x hq hcq (by omega)) hZ (hw _ (List.mem_of_getElem? (i := 31) rfl)) (hw _ (List.mem_of_getElem? (i := 3) rfl)) (by decide) (by decide)) qa76 qc76 (g := (mkF m 272 #[.val (.int p1), .val (.int p2), .val (.int p3), .val (.int p4), .val (.int p5), .val (.int p6), .val (.int (Int32.ofNat (2 + 1))), .val (.int ds), .val (.int (Int32.ofNat jj)), .val (.int (Int32.ofNat pl)), .val (.ref b1), .val (.double (FP.i2d p6)), .second, .val (.ref b10), .val (.int (1 : Int32))] [(.int (1 : Int32)), (.ref b10)])) rfl (by rw [hml]; rfl) (Steps.refl _) (argsL := [(.int (1 : Int32))]) (rest := []) (lenOf pd_3 rfl) rfl (by show 2 * 0 + _ ≤ _; exact Nat.le_of_eq rfl) (hb hby at_272) (fun _ _ => ⟨rfl, e74, (Nat.le_of_ble_eq_true rfl), (Nat.le_of_ble_eq_true rfl)⟩)
              dsimp only [Pt.U, Pt.locs, Pt.cells, Pt.slots] at X76 l76 y76 z76 st76 hQ76
              subst l76 y76 z76
              obtain ⟨rfl, Nq76, he76⟩ := hQ76
              have N76 := Fr.app N74 Nq76
              have e76 : T76.heap = h73 := he76
              refine own_st (T' := T76) (g' := (mkF m 275 #[.val (.int p1), .val (.int p2), .val (.int p3), .val (.int p4), .val (.int p5), .val (.int p6), .val (.int (Int32.ofNat (2 + 1))), .val (.int ds), .val (.int (Int32.ofNat jj)), .val (.int (Int32.ofNat pl)), .val (.ref b1), .val (.double (FP.i2d p6)), .second, .val (.ref b10), .val (.int (1 : Int32))] [(.double (fq (cq + 1)))])) (fun t9 k9 => st76.trans k9) ?_
              refine own_st (T' := T76) (g' := (mkF m 277 #[.val (.int p1), .val (.int p2), .val (.int p3), .val (.int p4), .val (.int p5), .val (.int p6), .val (.int (Int32.ofNat (2 + 1))), .val (.int ds), .val (.int (Int32.ofNat jj)), .val (.int (Int32.ofNat pl)), .val (.ref b1), .val (.double (FP.i2d p6)), .second, .val (.ref b10), .val (.int (1 : Int32))] [(.ref b1), (.double (fq (cq + 1)))])) (fun t9 k9 => XS.aload X76.here hx rfl (hb hby at_275) rfl rfl k9) ?_
              refine own_st (T' := T76) (g' := (mkF m 278 #[.val (.int p1), .val (.int p2), .val (.int p3), .val (.int p4), .val (.int p5), .val (.int p6), .val (.int (Int32.ofNat (2 + 1))), .val (.int ds), .val (.int (Int32.ofNat jj)), .val (.int (Int32.ofNat pl)), .val (.ref b1), .val (.double (FP.i2d p6)), .second, .val (.ref b10), .val (.int (1 : Int32))] [(.int (1 : Int32)), (.ref b1), (.double (fq (cq + 1)))])) (fun t9 k9 => XS.iconst X76.here hx rfl (hb hby at_277) k9) ?_
              obtain ⟨clu77, Aru77, qu77, Su77, Nu77, Hu77, Gu77⟩ := (id Vx9x)
              have hinu77 := inb_of Su77 (j := (1 : Int32)) ⟨by decide, by decide⟩
              refine own_st (T' := T76) (g' := (mkF m 279 #[.val (.int p1), .val (.int p2), .val (.int p3), .val (.int p4), .val (.int p5), .val (.int p6), .val (.int (Int32.ofNat (2 + 1))), .val (.int ds), .val (.int (Int32.ofNat jj)), .val (.int (Int32.ofNat pl)), .val (.ref b1), .val (.double (FP.i2d p6)), .second, .val (.ref b10), .val (.int (1 : Int32))] [(.double ((fun i => if (¬ ds = 0 ∧ jj < 3 ∧ i = pl) then (FP.i2d p6) else (own_dk (FP.i2d p2) (FP.i2d p3) (FP.i2d p4) (FP.i2d p5)) i) 1)), (.double (fq (cq + 1)))])) (fun t9 k9 => X76.daload hx (j := (1 : Int32)) (v := (.double ((fun i => if (¬ ds = 0 ∧ jj < 3 ∧ i = pl) then (FP.i2d p6) else (own_dk (FP.i2d p2) (FP.i2d p3) (FP.i2d p4) (FP.i2d p5)) i) 1))) (by rw [e76]; exact Aru77.1) (State.isArrayOf_alike hZ.alike Aru77.2.1) Aru77.2.2 hinu77 (Hu77.at hinu77 (hx4.2 1 (by decide)).1) (g := (mkF m 278 #[.val (.int p1), .val (.int p2), .val (.int p3), .val (.int p4), .val (.int p5), .val (.int p6), .val (.int (Int32.ofNat (2 + 1))), .val (.int ds), .val (.int (Int32.ofNat jj)), .val (.int (Int32.ofNat pl)), .val (.ref b1), .val (.double (FP.i2d p6)), .second, .val (.ref b10), .val (.int (1 : Int32))] [(.int (1 : Int32)), (.ref b1), (.double (fq (cq + 1)))])) rfl rfl (hb hby at_278) t9 k9) ?_
              refine own_st (T' := T76) (g' := (mkF m 280 #[.val (.int p1), .val (.int p2), .val (.int p3), .val (.int p4), .val (.int p5), .val (.int p6), .val (.int (Int32.ofNat (2 + 1))), .val (.int ds), .val (.int (Int32.ofNat jj)), .val (.int (Int32.ofNat pl)), .val (.ref b1), .val (.double (FP.i2d p6)), .second, .val (.ref b10), .val (.int (1 : Int32))] [(.int (cmpValue (FP.dcmp (fq (cq + 1)) ((fun i => if (¬ ds = 0 ∧ jj < 3 ∧ i = pl) then (FP.i2d p6) else (own_dk (FP.i2d p2) (FP.i2d p3) (FP.i2d p4) (FP.i2d p5)) i) 1)) .l))])) (fun t9 k9 => XS.dcmpS X76.here hx rfl (hb hby at_279) rfl rfl k9) ?_
              refine own_st (T' := T76) (g' := (mkF m 283 #[.val (.int p1), .val (.int p2), .val (.int p3), .val (.int p4), .val (.int p5), .val (.int p6), .val (.int (Int32.ofNat (2 + 1))), .val (.int ds), .val (.int (Int32.ofNat jj)), .val (.int (Int32.ofNat pl)), .val (.ref b1), .val (.double (FP.i2d p6)), .second, .val (.ref b10), .val (.int (1 : Int32))] [])) (fun t9 k9 => XS.ifNo X76.here hx rfl (hb hby at_280) rfl ((if0 _ _).trans (teq (dcmpV_eq (hkp 1 (by decide)) (hkp 1 (by decide) ▸ (hx4.2 1 (by decide)).2) _)).2) k9) ?_
              refine own_st (T' := T76) (g' := (mkF m 284 #[.val (.int p1), .val (.int p2), .val (.int p3), .val (.int p4), .val (.int p5), .val (.int p6), .val (.int (Int32.ofNat (2 + 1))), .val (.int ds), .val (.int (Int32.ofNat jj)), .val (.int (Int32.ofNat pl)), .val (.ref b1), .val (.double (FP.i2d p6)), .second, .val (.ref b10), .val (.int (1 : Int32))] [(.int (1 : Int32))])) (fun t9 k9 => XS.iconst X76.here hx rfl (hb hby at_283) k9) ?_
              refine own_st (T' := T76) (g' := (mkF m 288 #[.val (.int p1), .val (.int p2), .val (.int p3), .val (.int p4), .val (.int p5), .val (.int p6), .val (.int (Int32.ofNat (2 + 1))), .val (.int ds), .val (.int (Int32.ofNat jj)), .val (.int (Int32.ofNat pl)), .val (.ref b1), .val (.double (FP.i2d p6)), .second, .val (.ref b10), .val (.int (1 : Int32))] [(.int (1 : Int32))])) (fun t9 k9 => XS.goto X76.here hx rfl (pc0 := 284) (pc' := 288) rfl (hb hby at_284) (by decide) (by decide) k9) ?_
              refine own_st (T' := T76) (g' := (mkF m 290 #[.val (.int p1), .val (.int p2), .val (.int p3), .val (.int p4), .val (.int p5), .val (.int p6), .val (.int (Int32.ofNat (2 + 1))), .val (.int ds), .val (.int (Int32.ofNat jj)), .val (.int (Int32.ofNat pl)), .val (.ref b1), .val (.double (FP.i2d p6)), .second, .val (.ref b10), .val (.int (1 : Int32))] [])) (fun t9 k9 => XS.istore X76.here hx rfl (hb hby at_288) rfl (l' := #[.val (.int p1), .val (.int p2), .val (.int p3), .val (.int p4), .val (.int p5), .val (.int p6), .val (.int (Int32.ofNat (2 + 1))), .val (.int ds), .val (.int (Int32.ofNat jj)), .val (.int (Int32.ofNat pl)), .val (.ref b1), .val (.double (FP.i2d p6)), .second, .val (.ref b10), .val (.int (1 : Int32))]) rfl k9) ?_
              refine own_st (T' := T76) (g' := (mkF m 292 #[.val (.int p1), .val (.int p2), .val (.int p3), .val (.int p4), .val (.int p5), .val (.int p6), .val (.int (Int32.ofNat (2 + 1))), .val (.int ds), .val (.int (Int32.ofNat jj)), .val (.int (Int32.ofNat pl)), .val (.ref b1), .val (.double (FP.i2d p6)), .second, .val (.ref b10), .val (.int (1 : Int32))] [(.int (Int32.ofNat (2 + 1)))])) (fun t9 k9 => XS.iload X76.here hx rfl (hb hby at_290) rfl k9) ?_
              refine own_st (T' := T76) (g' := (mkF m 293 #[.val (.int p1), .val (.int p2), .val (.int p3), .val (.int p4), .val (.int p5), .val (.int p6), .val (.int (Int32.ofNat (2 + 1))), .val (.int ds), .val (.int (Int32.ofNat jj)), .val (.int (Int32.ofNat pl)), .val (.ref b1), .val (.double (FP.i2d p6)), .second, .val (.ref b10), .val (.int (1 : Int32))] [(.int (2 : Int32)), (.int (Int32.ofNat (2 + 1)))])) (fun t9 k9 => XS.iconst X76.here hx rfl (hb hby at_292) k9) ?_
              refine own_st (T' := T76) (g' := (mkF m 296 #[.val (.int p1), .val (.int p2), .val (.int p3), .val (.int p4), .val (.int p5), .val (.int p6), .val (.int (Int32.ofNat (2 + 1))), .val (.int ds), .val (.int (Int32.ofNat jj)), .val (.int (Int32.ofNat pl)), .val (.ref b1), .val (.double (FP.i2d p6)), .second, .val (.ref b10), .val (.int (1 : Int32))] [])) (fun t9 k9 => XS.icmpNo X76.here hx rfl (hb hby at_293) rfl (tlt (own_lt (i := 2) (by omega) (by omega))).2.2.2 k9) ?_
              refine own_st (T' := T76) (g' := (mkF m 298 #[.val (.int p1), .val (.int p2), .val (.int p3), .val (.int p4), .val (.int p5), .val (.int p6), .val (.int (Int32.ofNat (2 + 1))), .val (.int ds), .val (.int (Int32.ofNat jj)), .val (.int (Int32.ofNat pl)), .val (.ref b1), .val (.double (FP.i2d p6)), .second, .val (.ref b10), .val (.int (1 : Int32))] [(.int (1 : Int32))])) (fun t9 k9 => XS.iload X76.here hx rfl (hb hby at_296) rfl k9) ?_
              refine own_st (T' := T76) (g' := (mkF m 301 #[.val (.int p1), .val (.int p2), .val (.int p3), .val (.int p4), .val (.int p5), .val (.int p6), .val (.int (Int32.ofNat (2 + 1))), .val (.int ds), .val (.int (Int32.ofNat jj)), .val (.int (Int32.ofNat pl)), .val (.ref b1), .val (.double (FP.i2d p6)), .second, .val (.ref b10), .val (.int (1 : Int32))] [])) (fun t9 k9 => XS.ifNo X76.here hx rfl (hb hby at_298) rfl ((if0 _ _).trans (feq (by decide)).1) k9) ?_
              refine own_st (T' := T76) (g' := (mkF m 303 #[.val (.int p1), .val (.int p2), .val (.int p3), .val (.int p4), .val (.int p5), .val (.int p6), .val (.int (Int32.ofNat (2 + 1))), .val (.int ds), .val (.int (Int32.ofNat jj)), .val (.int (Int32.ofNat pl)), .val (.ref b1), .val (.double (FP.i2d p6)), .second, .val (.ref b10), .val (.int (1 : Int32))] [(.ref b10)])) (fun t9 k9 => XS.aload X76.here hx rfl (hb hby at_301) rfl rfl k9) ?_
              refine own_st (T' := T76) (g' := (mkF m 304 #[.val (.int p1), .val (.int p2), .val (.int p3), .val (.int p4), .val (.int p5), .val (.int p6), .val (.int (Int32.ofNat (2 + 1))), .val (.int ds), .val (.int (Int32.ofNat jj)), .val (.int (Int32.ofNat pl)), .val (.ref b1), .val (.double (FP.i2d p6)), .second, .val (.ref b10), .val (.int (1 : Int32))] [(.int (2 : Int32)), (.ref b10)])) (fun t9 k9 => XS.iconst X76.here hx rfl (hb hby at_303) k9) ?_
              obtain ⟨cq78, kq78, qa78, qb78, qc78⟩ := isOf hZ e76 Eex
              obtain ⟨_, _, ⟨T78, L78, k78, n78⟩, -, X78, ⟨Lc78, hQ78, l78, y78, z78⟩, st78⟩ := X76.virtualBack hx (y := (⟨"com/example/shelfwright/shelfwright/packers/FirstFit", "key", "(I)D"⟩ : MethodName)) (z := (⟨"com/example/shelfwright/shelfwright/packers/FirstFit", "key", "(I)D"⟩ : MethodName)) hown (mvT hZ (hw _ (List.mem_of_getElem? (i := 27) rfl))) (mvT hZ (hw _ (List.mem_of_getElem? (i := 28) rfl))) (notFace_of_selects (args := #[]) (mvT hZ (hw _ (List.mem_of_getElem? (i := 30) rfl)))) (mvT hZ (hw _ (List.mem_of_getElem? (i := 30) rfl))) (mvT hZ (hw _ (List.mem_of_getElem? (i := 29) rfl))) (by decide) (own_back (W := 0) (rm5 l Z a0 hw b10 dd kd vq fq cq 2 h73 n0 Z73 FlargestKey9x Fcapacity9x Vd9x hq hcq (by omega)) hZ (hw _ (List.mem_of_getElem? (i := 31) rfl)) (hw _ (List.mem_of_getElem? (i := 3) rfl)) (by decide) (by decide)) qa78 qc78 (g := (mkF m 304 #[.val (.int p1), .val (.int p2), .val (.int p3), .val (.int p4), .val (.int p5), .val (.int p6), .val (.int (Int32.ofNat (2 + 1))), .val (.int ds), .val (.int (Int32.ofNat jj)), .val (.int (Int32.ofNat pl)), .val (.ref b1), .val (.double (FP.i2d p6)), .second, .val (.ref b10), .val (.int (1 : Int32))] [(.int (2 : Int32)), (.ref b10)])) rfl (by rw [hml]; rfl) (Steps.refl _) (argsL := [(.int (2 : Int32))]) (rest := []) (lenOf pd_3 rfl) rfl (by show 2 * 0 + _ ≤ _; exact Nat.le_of_eq rfl) (hb hby at_304) (fun _ _ => ⟨rfl, e76, (Nat.le_of_ble_eq_true rfl), (Nat.le_of_ble_eq_true rfl)⟩)
              dsimp only [Pt.U, Pt.locs, Pt.cells, Pt.slots] at X78 l78 y78 z78 st78 hQ78
              subst l78 y78 z78
              obtain ⟨rfl, Nq78, he78⟩ := hQ78
              have N78 := Fr.app N76 Nq78
              have e78 : T78.heap = h73 := he78
              refine own_st (T' := T78) (g' := (mkF m 307 #[.val (.int p1), .val (.int p2), .val (.int p3), .val (.int p4), .val (.int p5), .val (.int p6), .val (.int (Int32.ofNat (2 + 1))), .val (.int ds), .val (.int (Int32.ofNat jj)), .val (.int (Int32.ofNat pl)), .val (.ref b1), .val (.double (FP.i2d p6)), .second, .val (.ref b10), .val (.int (1 : Int32))] [(.double (fq (cq + 2)))])) (fun t9 k9 => st78.trans k9) ?_
              refine own_st (T' := T78) (g' := (mkF m 309 #[.val (.int p1), .val (.int p2), .val (.int p3), .val (.int p4), .val (.int p5), .val (.int p6), .val (.int (Int32.ofNat (2 + 1))), .val (.int ds), .val (.int (Int32.ofNat jj)), .val (.int (Int32.ofNat pl)), .val (.ref b1), .val (.double (FP.i2d p6)), .second, .val (.ref b10), .val (.int (1 : Int32))] [(.ref b1), (.double (fq (cq + 2)))])) (fun t9 k9 => XS.aload X78.here hx rfl (hb hby at_307) rfl rfl k9) ?_
              refine own_st (T' := T78) (g' := (mkF m 310 #[.val (.int p1), .val (.int p2), .val (.int p3), .val (.int p4), .val (.int p5), .val (.int p6), .val (.int (Int32.ofNat (2 + 1))), .val (.int ds), .val (.int (Int32.ofNat jj)), .val (.int (Int32.ofNat pl)), .val (.ref b1), .val (.double (FP.i2d p6)), .second, .val (.ref b10), .val (.int (1 : Int32))] [(.int (2 : Int32)), (.ref b1), (.double (fq (cq + 2)))])) (fun t9 k9 => XS.iconst X78.here hx rfl (hb hby at_309) k9) ?_
              obtain ⟨clu79, Aru79, qu79, Su79, Nu79, Hu79, Gu79⟩ := (id Vx9x)
              have hinu79 := inb_of Su79 (j := (2 : Int32)) ⟨by decide, by decide⟩
              refine own_st (T' := T78) (g' := (mkF m 311 #[.val (.int p1), .val (.int p2), .val (.int p3), .val (.int p4), .val (.int p5), .val (.int p6), .val (.int (Int32.ofNat (2 + 1))), .val (.int ds), .val (.int (Int32.ofNat jj)), .val (.int (Int32.ofNat pl)), .val (.ref b1), .val (.double (FP.i2d p6)), .second, .val (.ref b10), .val (.int (1 : Int32))] [(.double ((fun i => if (¬ ds = 0 ∧ jj < 3 ∧ i = pl) then (FP.i2d p6) else (own_dk (FP.i2d p2) (FP.i2d p3) (FP.i2d p4) (FP.i2d p5)) i) 2)), (.double (fq (cq + 2)))])) (fun t9 k9 => X78.daload hx (j := (2 : Int32)) (v := (.double ((fun i => if (¬ ds = 0 ∧ jj < 3 ∧ i = pl) then (FP.i2d p6) else (own_dk (FP.i2d p2) (FP.i2d p3) (FP.i2d p4) (FP.i2d p5)) i) 2))) (by rw [e78]; exact Aru79.1) (State.isArrayOf_alike hZ.alike Aru79.2.1) Aru79.2.2 hinu79 (Hu79.at hinu79 (hx4.2 2 (by decide)).1) (g := (mkF m 310 #[.val (.int p1), .val (.int p2), .val (.int p3), .val (.int p4), .val (.int p5), .val (.int p6), .val (.int (Int32.ofNat (2 + 1))), .val (.int ds), .val (.int (Int32.ofNat jj)), .val (.int (Int32.ofNat pl)), .val (.ref b1), .val (.double (FP.i2d p6)), .second, .val (.ref b10), .val (.int (1 : Int32))] [(.int (2 : Int32)), (.ref b1), (.double (fq (cq + 2)))])) rfl rfl (hb hby at_310) t9 k9) ?_
              refine own_st (T' := T78) (g' := (mkF m 312 #[.val (.int p1), .val (.int p2), .val (.int p3), .val (.int p4), .val (.int p5), .val (.int p6), .val (.int (Int32.ofNat (2 + 1))), .val (.int ds), .val (.int (Int32.ofNat jj)), .val (.int (Int32.ofNat pl)), .val (.ref b1), .val (.double (FP.i2d p6)), .second, .val (.ref b10), .val (.int (1 : Int32))] [(.int (cmpValue (FP.dcmp (fq (cq + 2)) ((fun i => if (¬ ds = 0 ∧ jj < 3 ∧ i = pl) then (FP.i2d p6) else (own_dk (FP.i2d p2) (FP.i2d p3) (FP.i2d p4) (FP.i2d p5)) i) 2)) .l))])) (fun t9 k9 => XS.dcmpS X78.here hx rfl (hb hby at_311) rfl rfl k9) ?_
              refine own_st (T' := T78) (g' := (mkF m 315 #[.val (.int p1), .val (.int p2), .val (.int p3), .val (.int p4), .val (.int p5), .val (.int p6), .val (.int (Int32.ofNat (2 + 1))), .val (.int ds), .val (.int (Int32.ofNat jj)), .val (.int (Int32.ofNat pl)), .val (.ref b1), .val (.double (FP.i2d p6)), .second, .val (.ref b10), .val (.int (1 : Int32))] [])) (fun t9 k9 => XS.ifNo X78.here hx rfl (hb hby at_312) rfl ((if0 _ _).trans (teq (dcmpV_eq (hkp 2 (by decide)) (hkp 2 (by decide) ▸ (hx4.2 2 (by decide)).2) _)).2) k9) ?_
              refine own_st (T' := T78) (g' := (mkF m 316 #[.val (.int p1), .val (.int p2), .val (.int p3), .val (.int p4), .val (.int p5), .val (.int p6), .val (.int (Int32.ofNat (2 + 1))), .val (.int ds), .val (.int (Int32.ofNat jj)), .val (.int (Int32.ofNat pl)), .val (.ref b1), .val (.double (FP.i2d p6)), .second, .val (.ref b10), .val (.int (1 : Int32))] [(.int (1 : Int32))])) (fun t9 k9 => XS.iconst X78.here hx rfl (hb hby at_315) k9) ?_
              refine own_st (T' := T78) (g' := (mkF m 320 #[.val (.int p1), .val (.int p2), .val (.int p3), .val (.int p4), .val (.int p5), .val (.int p6), .val (.int (Int32.ofNat (2 + 1))), .val (.int ds), .val (.int (Int32.ofNat jj)), .val (.int (Int32.ofNat pl)), .val (.ref b1), .val (.double (FP.i2d p6)), .second, .val (.ref b10), .val (.int (1 : Int32))] [(.int (1 : Int32))])) (fun t9 k9 => XS.goto X78.here hx rfl (pc0 := 316) (pc' := 320) rfl (hb hby at_316) (by decide) (by decide) k9) ?_
              refine own_st (T' := T78) (g' := (mkF m 322 #[.val (.int p1), .val (.int p2), .val (.int p3), .val (.int p4), .val (.int p5), .val (.int p6), .val (.int (Int32.ofNat (2 + 1))), .val (.int ds), .val (.int (Int32.ofNat jj)), .val (.int (Int32.ofNat pl)), .val (.ref b1), .val (.double (FP.i2d p6)), .second, .val (.ref b10), .val (.int (1 : Int32))] [])) (fun t9 k9 => XS.istore X78.here hx rfl (hb hby at_320) rfl (l' := #[.val (.int p1), .val (.int p2), .val (.int p3), .val (.int p4), .val (.int p5), .val (.int p6), .val (.int (Int32.ofNat (2 + 1))), .val (.int ds), .val (.int (Int32.ofNat jj)), .val (.int (Int32.ofNat pl)), .val (.ref b1), .val (.double (FP.i2d p6)), .second, .val (.ref b10), .val (.int (1 : Int32))]) rfl k9) ?_
              refine own_st (T' := T78) (g' := (mkF m 324 #[.val (.int p1), .val (.int p2), .val (.int p3), .val (.int p4), .val (.int p5), .val (.int p6), .val (.int (Int32.ofNat (2 + 1))), .val (.int ds), .val (.int (Int32.ofNat jj)), .val (.int (Int32.ofNat pl)), .val (.ref b1), .val (.double (FP.i2d p6)), .second, .val (.ref b10), .val (.int (1 : Int32))] [(.int (Int32.ofNat (2 + 1)))])) (fun t9 k9 => XS.iload X78.here hx rfl (hb hby at_322) rfl k9) ?_
              refine own_st (T' := T78) (g' := (mkF m 325 #[.val (.int p1), .val (.int p2), .val (.int p3), .val (.int p4), .val (.int p5), .val (.int p6), .val (.int (Int32.ofNat (2 + 1))), .val (.int ds), .val (.int (Int32.ofNat jj)), .val (.int (Int32.ofNat pl)), .val (.ref b1), .val (.double (FP.i2d p6)), .second, .val (.ref b10), .val (.int (1 : Int32))] [(.int (3 : Int32)), (.int (Int32.ofNat (2 + 1)))])) (fun t9 k9 => XS.iconst X78.here hx rfl (hb hby at_324) k9) ?_
              refine own_st (T' := T78) (g' := (mkF m 354 #[.val (.int p1), .val (.int p2), .val (.int p3), .val (.int p4), .val (.int p5), .val (.int p6), .val (.int (Int32.ofNat (2 + 1))), .val (.int ds), .val (.int (Int32.ofNat jj)), .val (.int (Int32.ofNat pl)), .val (.ref b1), .val (.double (FP.i2d p6)), .second, .val (.ref b10), .val (.int (1 : Int32))] [])) (fun t9 k9 => XS.icmpYes X78.here hx rfl (pc0 := 325) (pc' := 354) rfl (hb hby at_325) rfl (flt (own_nlt (i := 3) (n := 3) (by omega) (by omega))).2.2.2 (by decide) (by decide) k9) ?_
              refine own_st (T' := T78) (g' := (mkF m 356 #[.val (.int p1), .val (.int p2), .val (.int p3), .val (.int p4), .val (.int p5), .val (.int p6), .val (.int (Int32.ofNat (2 + 1))), .val (.int ds), .val (.int (Int32.ofNat jj)), .val (.int (Int32.ofNat pl)), .val (.ref b1), .val (.double (FP.i2d p6)), .second, .val (.ref b10), .val (.int (1 : Int32))] [(.int (1 : Int32))])) (fun t9 k9 => XS.iload X78.here hx rfl (hb hby at_354) rfl k9) ?_
              refine own_ret (v := some (.int (1 : Int32))) hF X78 (own_some hret) hlk (fun fs hr => retN X78 hx (t := .boolean) hret (by simp) (hb hby at_356) hr) ?_ (by decide) (by decide)
              try rw [e78]
              exact ⟨rfl, N78⟩
            by_cases hd0 : ds = (0 : Int32)
            · refine own_st (T' := T72) (g' := (mkF m 237 #[.val (.int p1), .val (.int p2), .val (.int p3), .val (.int p4), .val (.int p5), .val (.int p6), .val (.int (Int32.ofNat (2 + 1))), .val (.int ds), .val (.int (Int32.ofNat jj)), .val (.int (Int32.ofNat pl)), .val (.ref b1), .val (.double (FP.i2d p6)), .second, .val (.ref b10), .unset] [])) (fun t9 k9 => XS.ifYes X72.here hx rfl (pc0 := 227) (pc' := 237) rfl (hb hby at_227) rfl ((if0 _ _).trans (teq hd0).1) (by decide) (by decide) k9) ?_
              exact jk _ _ _ _ X72 e72 N72 Z72 K72 Ee FlargestKey9 Fcapacity9 Fcount9 Vd9 Vx9 (hX.congr fun i hi => by
                    show _ = if _ then _ else _
                    rw [if_neg (fun r => r.1 hd0)])
            · refine own_st (T' := T72) (g' := (mkF m 230 #[.val (.int p1), .val (.int p2), .val (.int p3), .val (.int p4), .val (.int p5), .val (.int p6), .val (.int (Int32.ofNat (2 + 1))), .val (.int ds), .val (.int (Int32.ofNat jj)), .val (.int (Int32.ofNat pl)), .val (.ref b1), .val (.double (FP.i2d p6)), .second, .val (.ref b10), .unset] [])) (fun t9 k9 => XS.ifNo X72.here hx rfl (hb hby at_227) rfl ((if0 _ _).trans (feq hd0).1) k9) ?_
              obtain ⟨pq1, pq2⟩ := own_nat (i := pl) (by omega)
              refine own_st (T' := T72) (g' := (mkF m 232 #[.val (.int p1), .val (.int p2), .val (.int p3), .val (.int p4), .val (.int p5), .val (.int p6), .val (.int (Int32.ofNat (2 + 1))), .val (.int ds), .val (.int (Int32.ofNat jj)), .val (.int (Int32.ofNat pl)), .val (.ref b1), .val (.double (FP.i2d p6)), .second, .val (.ref b10), .unset] [(.ref b1)])) (fun t9 k9 => XS.aload X72.here hx rfl (hb hby at_230) rfl rfl k9) ?_
              refine own_st (T' := T72) (g' := (mkF m 234 #[.val (.int p1), .val (.int p2), .val (.int p3), .val (.int p4), .val (.int p5), .val (.int p6), .val (.int (Int32.ofNat (2 + 1))), .val (.int ds), .val (.int (Int32.ofNat jj)), .val (.int (Int32.ofNat pl)), .val (.ref b1), .val (.double (FP.i2d p6)), .second, .val (.ref b10), .unset] [(.int (Int32.ofNat pl)), (.ref b1)])) (fun t9 k9 => XS.iload X72.here hx rfl (hb hby at_232) rfl k9) ?_
              refine own_st (T' := T72) (g' := (mkF m 236 #[.val (.int p1), .val (.int p2), .val (.int p3), .val (.int p4), .val (.int p5), .val (.int p6), .val (.int (Int32.ofNat (2 + 1))), .val (.int ds), .val (.int (Int32.ofNat jj)), .val (.int (Int32.ofNat pl)), .val (.ref b1), .val (.double (FP.i2d p6)), .second, .val (.ref b10), .unset] [(.double (FP.i2d p6)), (.int (Int32.ofNat pl)), (.ref b1)])) (fun t9 k9 => XS.dload X72.here hx rfl (hb hby at_234) rfl k9) ?_
              obtain ⟨clu80, Aru80, qu80, Su80, Nu80, Hu80, Gu80⟩ := (id Vx9)
              obtain ⟨T81, h81, X81, e81, W81, st81⟩ := stD X72 hx hZ e72 Aru80 (j := (Int32.ofNat pl)) (inb_of Su80 ⟨pq2, own_lt (n := 4) (by omega) (by omega)⟩) (g := (mkF m 236 #[.val (.int p1), .val (.int p2), .val (.int p3), .val (.int p4), .val (.int p5), .val (.int p6), .val (.int (Int32.ofNat (2 + 1))), .val (.int ds), .val (.int (Int32.ofNat jj)), .val (.int (Int32.ofNat pl)), .val (.ref b1), .val (.double (FP.i2d p6)), .second, .val (.ref b10), .unset] [(.double (FP.i2d p6)), (.int (Int32.ofNat pl)), (.ref b1)])) rfl rfl (hb hby at_236)
              have Va81 := Arv.set Aru80 qu80 Su80 Nu80 Hu80 Gu80 rfl W81 pl pq1 (by show pl < 4; omega)
              have Ee_82 := Ee.wr W81
              have FlargestKey9_83 := FlargestKey9.other W81 (Or.inl (Ne.symm ne_b1_b10))
              have Fcapacity9_84 := Fcapacity9.other W81 (Or.inl (Ne.symm ne_b1_b10))
              have Fcount9_85 := Fcount9.other W81 (Or.inl (Ne.symm ne_b1_b10))
              have Vd9_86 := Vd9.other W81 (Ne.symm hnx)
              have K81 := K72.wr W81 (Or.inr sz_b1)
              have N81 := Fr.snoc X81 N72 g_b1
              have Z81 : n0 ≤ h81.size := by rw [W81.size]; exact Z72
              refine own_st (T' := T81) (g' := (mkF m 237 #[.val (.int p1), .val (.int p2), .val (.int p3), .val (.int p4), .val (.int p5), .val (.int p6), .val (.int (Int32.ofNat (2 + 1))), .val (.int ds), .val (.int (Int32.ofNat jj)), .val (.int (Int32.ofNat pl)), .val (.ref b1), .val (.double (FP.i2d p6)), .second, .val (.ref b10), .unset] [])) (fun t9 k9 => st81 t9 k9) ?_
              exact jk _ _ _ _ X81 e81 N81 Z81 K81 Ee_82 FlargestKey9_83 Fcapacity9_84 Fcount9_85 Vd9_86 Va81 ((hX.set pl (FP.i2d p6) (by omega) (own_i2d _)).congr fun i hi => by
                    show (if i = pl then _ else _) = if _ then _ else _
                    by_cases q : i = pl
                    · rw [if_pos q, if_pos ⟨hd0, by omega, q⟩]
                    · rw [if_neg q, if_neg (fun r => q r.2.2)])
          refine own_st (T' := T71) (g' := (mkF m 161 #[.val (.int p1), .val (.int p2), .val (.int p3), .val (.int p4), .val (.int p5), .val (.int p6), .val (.int (Int32.ofNat (2 + 1))), .val (.int ds), .val (.int (Int32.ofNat jj)), .val (.int (Int32.ofNat pl)), .val (.ref b1), .val (.double (FP.i2d p6)), .second, .val (.ref b10), .unset] [(.ref b10)])) (fun t9 k9 => XS.aload X71.here hx rfl (hb hby at_159) rfl rfl k9) ?_
          refine own_st (T' := T71) (g' := (mkF m 163 #[.val (.int p1), .val (.int p2), .val (.int p3), .val (.int p4), .val (.int p5), .val (.int p6), .val (.int (Int32.ofNat (2 + 1))), .val (.int ds), .val (.int (Int32.ofNat jj)), .val (.int (Int32.ofNat pl)), .val (.ref b1), .val (.double (FP.i2d p6)), .second, .val (.ref b10), .unset] [(.ref b1), (.ref b10)])) (fun t9 k9 => XS.aload X71.here hx rfl (hb hby at_161) rfl rfl k9) ?_
          refine own_st (T' := T71) (g' := (mkF m 164 #[.val (.int p1), .val (.int p2), .val (.int p3), .val (.int p4), .val (.int p5), .val (.int p6), .val (.int (Int32.ofNat (2 + 1))), .val (.int ds), .val (.int (Int32.ofNat jj)), .val (.int (Int32.ofNat pl)), .val (.ref b1), .val (.double (FP.i2d p6)), .second, .val (.ref b10), .unset] [(.int (2 : Int32)), (.ref b1), (.ref b10)])) (fun t9 k9 => XS.iconst X71.here hx rfl (hb hby at_163) k9) ?_
          obtain ⟨clu87, Aru87, qu87, Su87, Nu87, Hu87, Gu87⟩ := (id Vx9)
          have hinu87 := inb_of Su87 (j := (2 : Int32)) ⟨by decide, by decide⟩
          refine own_st (T' := T71) (g' := (mkF m 165 #[.val (.int p1), .val (.int p2), .val (.int p3), .val (.int p4), .val (.int p5), .val (.int p6), .val (.int (Int32.ofNat (2 + 1))), .val (.int ds), .val (.int (Int32.ofNat jj)), .val (.int (Int32.ofNat pl)), .val (.ref b1), .val (.double (FP.i2d p6)), .second, .val (.ref b10), .unset] [(.double ((own_dk (FP.i2d p2) (FP.i2d p3) (FP.i2d p4) (FP.i2d p5)) 2)), (.ref b10)])) (fun t9 k9 => X71.daload hx (j := (2 : Int32)) (v := (.double ((own_dk (FP.i2d p2) (FP.i2d p3) (FP.i2d p4) (FP.i2d p5)) 2))) (by rw [e71]; exact Aru87.1) (State.isArrayOf_alike hZ.alike Aru87.2.1) Aru87.2.2 hinu87 (Hu87.at hinu87 (hX.2 2 (by decide)).1) (g := (mkF m 164 #[.val (.int p1), .val (.int p2), .val (.int p3), .val (.int p4), .val (.int p5), .val (.int p6), .val (.int (Int32.ofNat (2 + 1))), .val (.int ds), .val (.int (Int32.ofNat jj)), .val (.int (Int32.ofNat pl)), .val (.ref b1), .val (.double (FP.i2d p6)), .second, .val (.ref b10), .unset] [(.int (2 : Int32)), (.ref b1), (.ref b10)])) rfl rfl (hb hby at_164) t9 k9) ?_
          have Kb88 := K71
          have lx := Vx9.lt
          have la := Ee.lt
          obtain ⟨cq88, kq88, qa88, qb88, qc88⟩ := isOf hZ e71 Ee
          obtain ⟨_, _, ⟨T88, L88, k88, n88⟩, -, X88, ⟨Lc88, hQ88, l88, y88, z88⟩, st88⟩ := X71.virtualBack hx (y := (⟨"com/example/shelfwright/shelfwright/packers/FirstFit", "add", "(D)I"⟩ : MethodName)) (z := (⟨"com/example/shelfwright/shelfwright/packers/FirstFit", "add", "(D)I"⟩ : MethodName)) hown (mvT hZ (hw _ (List.mem_of_getElem? (i := 15) rfl))) (mvT hZ (hw _ (List.mem_of_getElem? (i := 16) rfl))) (notFace_of_selects (args := #[]) (mvT hZ (hw _ (List.mem_of_getElem? (i := 18) rfl)))) (mvT hZ (hw _ (List.mem_of_getElem? (i := 18) rfl))) (mvT hZ (hw _ (List.mem_of_getElem? (i := 17) rfl))) (by decide) (own_back (W := 0) (rm3 l Z a0 hw b10 dd _ vq fq cq 2 ((own_dk (FP.i2d p2) (FP.i2d p3) (FP.i2d p4) (FP.i2d p5)) 2) h71 n0 Z71 Ee FlargestKey9 Fcapacity9 Fcount9 Vd9 hq (by omega) hcq (by omega) (by omega) g_b10 g_dd hna (hX.2 2 (by decide)).2) hZ (hw _ (List.mem_of_getElem? (i := 19) rfl)) (hw _ (List.mem_of_getElem? (i := 3) rfl)) (by decide) (by decide)) qa88 qc88 (g := (mkF m 165 #[.val (.int p1), .val (.int p2), .val (.int p3), .val (.int p4), .val (.int p5), .val (.int p6), .val (.int (Int32.ofNat (2 + 1))), .val (.int ds), .val (.int (Int32.ofNat jj)), .val (.int (Int32.ofNat pl)), .val (.ref b1), .val (.double (FP.i2d p6)), .second, .val (.ref b10), .unset] [(.double ((own_dk (FP.i2d p2) (FP.i2d p3) (FP.i2d p4) (FP.i2d p5)) 2)), (.ref b10)])) rfl (by rw [hml]; rfl) (Steps.refl _) (argsL := [(.double ((own_dk (FP.i2d p2) (FP.i2d p3) (FP.i2d p4) (FP.i2d p5)) 2))]) (rest := []) (lenOf pd_1 rfl) rfl (by show 2 * 0 + _ ≤ _; exact Nat.le_of_eq rfl) (hb hby at_165) (fun _ _ => ⟨rfl, e71, (Nat.le_of_ble_eq_true rfl), (Nat.le_of_ble_eq_true rfl)⟩)
          dsimp only [Pt.U, Pt.locs, Pt.cells, Pt.slots] at X88 l88 y88 z88 st88 hQ88
          subst l88 y88 z88
          obtain ⟨b88, kb88, vb88, fb88, cb88, z88, rfl, Nq88, Kq88, hd88, g_b88, hn88, Eq88, Fl88, Fc88, Fn88, Vq88, hv88, hc488, hkc88, hcc88, hkk88, hkn88⟩ := hQ88
          have N88 := Fr.app N71 Nq88
          obtain ⟨h88, e88⟩ : ∃ z, T88.heap = z := ⟨_, rfl⟩
          rw [e88] at Kq88 Eq88 Fl88 Fc88 Fn88 Vq88
          have Ee_89 := Ee.keep Kq88
          have Vx9_90 := Vx9.keep Kq88 (ninS ne_b1_b10 (ninS hnx nin0))
          have K88 := K71.trans Kq88 (allS (Or.inr sz_b10) (allS (Or.inr hsz) all0))
          have Z88 : n0 ≤ h88.size := Nat.le_trans Z71 Kq88.1
          refine own_st (T' := T88) (g' := (mkF m 168 #[.val (.int p1), .val (.int p2), .val (.int p3), .val (.int p4), .val (.int p5), .val (.int p6), .val (.int (Int32.ofNat (2 + 1))), .val (.int ds), .val (.int (Int32.ofNat jj)), .val (.int (Int32.ofNat pl)), .val (.ref b1), .val (.double (FP.i2d p6)), .second, .val (.ref b10), .unset] [(.int z88)])) (fun t9 k9 => st88.trans k9) ?_
          have hnx88 : b1 ≠ b88 := by
            rcases hd88 with q | q
            · rw [q]; exact hnx
            · exact Nat.ne_of_lt (Nat.lt_of_lt_of_le lx q)
          have hsz88 : h0.size ≤ b88 := by
            rcases hd88 with q | q
            · rw [q]; exact hsz
            · exact Nat.le_trans Kb88.1 q
          have hpw88 : cb88 = 4 := by
            have := hpow
            omega
          have hkp88 : ∀ i, i < 3 → fb88 (cb88 + i) = (if (¬ ds = 0 ∧ jj < 2 ∧ i = pl) then (FP.i2d p6) else (own_dk (FP.i2d p2) (FP.i2d p3) (FP.i2d p4) (FP.i2d p5)) i) := by
            intro i hi
            by_cases hl : i < 2
            · rw [hkk88 i hl]; exact hkp i hl
            · obtain rfl : i = 2 := by omega
              rw [hkn88, if_neg (by omega)]
          refine own_st (T' := T88) (g' := (mkF m 169 #[.val (.int p1), .val (.int p2), .val (.int p3), .val (.int p4), .val (.int p5), .val (.int p6), .val (.int (Int32.ofNat (2 + 1))), .val (.int ds), .val (.int (Int32.ofNat jj)), .val (.int (Int32.ofNat pl)), .val (.ref b1), .val (.double (FP.i2d p6)), .second, .val (.ref b10), .unset] [])) (fun t9 k9 => XS.pop X88.here hx rfl (hb hby at_168) rfl rfl k9) ?_
          refine own_st (T' := T88) (g' := (mkF m 171 #[.val (.int p1), .val (.int p2), .val (.int p3), .val (.int p4), .val (.int p5), .val (.int p6), .val (.int (Int32.ofNat (2 + 1))), .val (.int ds), .val (.int (Int32.ofNat jj)), .val (.int (Int32.ofNat pl)), .val (.ref b1), .val (.double (FP.i2d p6)), .second, .val (.ref b10), .unset] [(.int ds)])) (fun t9 k9 => XS.iload X88.here hx rfl (hb hby at_169) rfl k9) ?_
          by_cases hd0 : ds = (0 : Int32)
          · refine own_st (T' := T88) (g' := (mkF m 189 #[.val (.int p1), .val (.int p2), .val (.int p3), .val (.int p4), .val (.int p5), .val (.int p6), .val (.int (Int32.ofNat (2 + 1))), .val (.int ds), .val (.int (Int32.ofNat jj)), .val (.int (Int32.ofNat pl)), .val (.ref b1), .val (.double (FP.i2d p6)), .second, .val (.ref b10), .unset] [])) (fun t9 k9 => XS.ifYes X88.here hx rfl (pc0 := 171) (pc' := 189) rfl (hb hby at_171) rfl ((if0 _ _).trans (teq hd0).1) (by decide) (by decide) k9) ?_
            exact js3 _ _ _ _ _ _ _ _ X88 e88 N88 Z88 K88 Ee_89 Fl88 Fc88 Fn88 Vq88 Vx9_90 hv88 hc488 hkc88 hpw88 g_b88 hn88 hnx88 hsz88 (fun i hi => by rw [hkp88 i hi, if_neg (fun q => q.1 hd0), if_neg (fun q => q.1 hd0)])
          · refine own_st (T' := T88) (g' := (mkF m 174 #[.val (.int p1), .val (.int p2), .val (.int p3), .val (.int p4), .val (.int p5), .val (.int p6), .val (.int (Int32.ofNat (2 + 1))), .val (.int ds), .val (.int (Int32.ofNat jj)), .val (.int (Int32.ofNat pl)), .val (.ref b1), .val (.double (FP.i2d p6)), .second, .val (.ref b10), .unset] [])) (fun t9 k9 => XS.ifNo X88.here hx rfl (hb hby at_171) rfl ((if0 _ _).trans (feq hd0).1) k9) ?_
            refine own_st (T' := T88) (g' := (mkF m 176 #[.val (.int p1), .val (.int p2), .val (.int p3), .val (.int p4), .val (.int p5), .val (.int p6), .val (.int (Int32.ofNat (2 + 1))), .val (.int ds), .val (.int (Int32.ofNat jj)), .val (.int (Int32.ofNat pl)), .val (.ref b1), .val (.double (FP.i2d p6)), .second, .val (.ref b10), .unset] [(.int (Int32.ofNat jj))])) (fun t9 k9 => XS.iload X88.here hx rfl (hb hby at_174) rfl k9) ?_
            refine own_st (T' := T88) (g' := (mkF m 177 #[.val (.int p1), .val (.int p2), .val (.int p3), .val (.int p4), .val (.int p5), .val (.int p6), .val (.int (Int32.ofNat (2 + 1))), .val (.int ds), .val (.int (Int32.ofNat jj)), .val (.int (Int32.ofNat pl)), .val (.ref b1), .val (.double (FP.i2d p6)), .second, .val (.ref b10), .unset] [(.int (2 : Int32)), (.int (Int32.ofNat jj))])) (fun t9 k9 => XS.iconst X88.here hx rfl (hb hby at_176) k9) ?_
            by_cases hj2 : (Int32.ofNat jj) = (2 : Int32)
            · refine own_st (T' := T88) (g' := (mkF m 180 #[.val (.int p1), .val (.int p2), .val (.int p3), .val (.int p4), .val (.int p5), .val (.int p6), .val (.int (Int32.ofNat (2 + 1))), .val (.int ds), .val (.int (Int32.ofNat jj)), .val (.int (Int32.ofNat pl)), .val (.ref b1), .val (.double (FP.i2d p6)), .second, .val (.ref b10), .unset] [])) (fun t9 k9 => XS.icmpNo X88.here hx rfl (hb hby at_177) rfl (teq hj2).2 k9) ?_
              have hje : jj = 2 := own_eq' (n := 2) hj2 (by omega) (by omega)
              refine own_st (T' := T88) (g' := (mkF m 182 #[.val (.int p1), .val (.int p2), .val (.int p3), .val (.int p4), .val (.int p5), .val (.int p6), .val (.int (Int32.ofNat (2 + 1))), .val (.int ds), .val (.int (Int32.ofNat jj)), .val (.int (Int32.ofNat pl)), .val (.ref b1), .val (.double (FP.i2d p6)), .second, .val (.ref b10), .unset] [(.ref b10)])) (fun t9 k9 => XS.aload X88.here hx rfl (hb hby at_180) rfl rfl k9) ?_
              refine own_st (T' := T88) (g' := (mkF m 184 #[.val (.int p1), .val (.int p2), .val (.int p3), .val (.int p4), .val (.int p5), .val (.int p6), .val (.int (Int32.ofNat (2 + 1))), .val (.int ds), .val (.int (Int32.ofNat jj)), .val (.int (Int32.ofNat pl)), .val (.ref b1), .val (.double (FP.i2d p6)), .second, .val (.ref b10), .unset] [(.int (Int32.ofNat pl)), (.ref b10)])) (fun t9 k9 => XS.iload X88.here hx rfl (hb hby at_182) rfl k9) ?_
              refine own_st (T' := T88) (g' := (mkF m 186 #[.val (.int p1), .val (.int p2), .val (.int p3), .val (.int p4), .val (.int p5), .val (.int p6), .val (.int (Int32.ofNat (2 + 1))), .val (.int ds), .val (.int (Int32.ofNat jj)), .val (.int (Int32.ofNat pl)), .val (.ref b1), .val (.double (FP.i2d p6)), .second, .val (.ref b10), .unset] [(.double (FP.i2d p6)), (.int (Int32.ofNat pl)), (.ref b10)])) (fun t9 k9 => XS.dload X88.here hx rfl (hb hby at_184) rfl k9) ?_
              have Kb2 := K88
              obtain ⟨cq91, kq91, qa91, qb91, qc91⟩ := isOf hZ e88 Ee_89
              obtain ⟨_, _, ⟨T91, L91, k91, n91⟩, -, X91, ⟨Lc91, hQ91, l91, y91, z91⟩, st91⟩ := X88.virtualBack hx (y := (⟨"com/example/shelfwright/shelfwright/packers/FirstFit", "set", "(ID)V"⟩ : MethodName)) (z := (⟨"com/example/shelfwright/shelfwright/packers/FirstFit", "set", "(ID)V"⟩ : MethodName)) hown (mvT hZ (hw _ (List.mem_of_getElem? (i := 32) rfl))) (mvT hZ (hw _ (List.mem_of_getElem? (i := 23) rfl))) (notFace_of_selects (args := #[]) (mvT hZ (hw _ (List.mem_of_getElem? (i := 25) rfl)))) (mvT hZ (hw _ (List.mem_of_getElem? (i := 25) rfl))) (mvT hZ (hw _ (List.mem_of_getElem? (i := 24) rfl))) (by decide) (own_back (W := 0) (rm4 l Z a0 hw b10 b88 kb88 vb88 fb88 cb88 pl (FP.i2d p6) h88 n0 Z88 Fl88 Fc88 Vq88 hv88 hc488 (by omega) (own_i2d _) hn88.symm g_b88) hZ (hw _ (List.mem_of_getElem? (i := 26) rfl)) (hw _ (List.mem_of_getElem? (i := 3) rfl)) (by decide) (by decide)) qa91 qc91 (g := (mkF m 186 #[.val (.int p1), .val (.int p2), .val (.int p3), .val (.int p4), .val (.int p5), .val (.int p6), .val (.int (Int32.ofNat (2 + 1))), .val (.int ds), .val (.int (Int32.ofNat jj)), .val (.int (Int32.ofNat pl)), .val (.ref b1), .val (.double (FP.i2d p6)), .second, .val (.ref b10), .unset] [(.double (FP.i2d p6)), (.int (Int32.ofNat pl)), (.ref b10)])) rfl (by rw [hml]; rfl) (Steps.refl _) (argsL := [(.int (Int32.ofNat pl)), (.double (FP.i2d p6))]) (rest := []) (lenOf pd_2 rfl) rfl (by show 2 * 0 + _ ≤ _; exact Nat.le_of_eq rfl) (hb hby at_186) (fun _ _ => ⟨rfl, e88, (Nat.le_of_ble_eq_true rfl), (Nat.le_of_ble_eq_true rfl)⟩)
              dsimp only [Pt.U, Pt.locs, Pt.cells, Pt.slots] at X91 l91 y91 z91 st91 hQ91
              subst l91 y91 z91
              obtain ⟨vz91, fz91, rfl, Nq91, Kq91, Vq91, hz91, hkz91⟩ := hQ91
              have N91 := Fr.app N88 Nq91
              obtain ⟨h91, e91⟩ : ∃ z, T91.heap = z := ⟨_, rfl⟩
              rw [e91] at Kq91 Vq91
              have Ee_92 := Ee_89.keep Kq91
              have Vx9_93 := Vx9_90.keep Kq91 (ninS hnx88 nin0)
              have Fl88_94 := Fl88.keep Kq91 (ninS (Ne.symm hn88) nin0)
              have Fc88_95 := Fc88.keep Kq91 (ninS (Ne.symm hn88) nin0)
              have Fn88_96 := Fn88.keep Kq91 (ninS (Ne.symm hn88) nin0)
              have K91 := K88.trans Kq91 (allS (Or.inr hsz88) all0)
              have Z91 : n0 ≤ h91.size := Nat.le_trans Z88 Kq91.1
              refine own_st (T' := T91) (g' := (mkF m 189 #[.val (.int p1), .val (.int p2), .val (.int p3), .val (.int p4), .val (.int p5), .val (.int p6), .val (.int (Int32.ofNat (2 + 1))), .val (.int ds), .val (.int (Int32.ofNat jj)), .val (.int (Int32.ofNat pl)), .val (.ref b1), .val (.double (FP.i2d p6)), .second, .val (.ref b10), .unset] [])) (fun t9 k9 => st91.trans k9) ?_
              exact js3 _ _ _ _ _ _ _ _ X91 e91 N91 Z91 K91 Ee_92 Fl88_94 Fc88_95 Fn88_96 Vq91 Vx9_93 hz91 hc488 hkc88 hpw88 g_b88 hn88 hnx88 hsz88 (fun i hi => by
                    rw [hkz91 i (by omega)]
                    by_cases q : i = pl
                    · rw [if_pos q, if_pos ⟨hd0, by omega, q⟩]
                    · rw [if_neg q, hkp88 i hi, if_neg (fun r => q r.2.2), if_neg (fun r => q r.2.2)])
            · refine own_st (T' := T88) (g' := (mkF m 189 #[.val (.int p1), .val (.int p2), .val (.int p3), .val (.int p4), .val (.int p5), .val (.int p6), .val (.int (Int32.ofNat (2 + 1))), .val (.int ds), .val (.int (Int32.ofNat jj)), .val (.int (Int32.ofNat pl)), .val (.ref b1), .val (.double (FP.i2d p6)), .second, .val (.ref b10), .unset] [])) (fun t9 k9 => XS.icmpYes X88.here hx rfl (pc0 := 177) (pc' := 189) rfl (hb hby at_177) rfl (feq hj2).2 (by decide) (by decide) k9) ?_
              have hje : jj ≠ 2 := fun q => hj2 (by rw [q]; rfl)
              exact js3 _ _ _ _ _ _ _ _ X88 e88 N88 Z88 K88 Ee_89 Fl88 Fc88 Fn88 Vq88 Vx9_90 hv88 hc488 hkc88 hpw88 g_b88 hn88 hnx88 hsz88 (fun i hi => by
                    rw [hkp88 i hi]
                    by_cases r : (¬ ds = 0 ∧ jj < 2 ∧ i = pl)
                    · rw [if_pos r, if_pos ⟨r.1, by omega, r.2.2⟩]
                    · rw [if_neg r, if_neg (fun r' => r ⟨r'.1, by omega, r'.2.2⟩)])
        refine own_st (T' := T70) (g' := (mkF m 125 #[.val (.int p1), .val (.int p2), .val (.int p3), .val (.int p4), .val (.int p5), .val (.int p6), .val (.int (Int32.ofNat (2 + 1))), .val (.int ds), .val (.int (Int32.ofNat jj)), .val (.int (Int32.ofNat pl)), .val (.ref b1), .val (.double (FP.i2d p6)), .second, .val (.ref b10), .unset] [(.ref b10)])) (fun t9 k9 => XS.aload X70.here hx rfl (hb hby at_123) rfl rfl k9) ?_
        refine own_st (T' := T70) (g' := (mkF m 127 #[.val (.int p1), .val (.int p2), .val (.int p3), .val (.int p4), .val (.int p5), .val (.int p6), .val (.int (Int32.ofNat (2 + 1))), .val (.int ds), .val (.int (Int32.ofNat jj)), .val (.int (Int32.ofNat pl)), .val (.ref b1), .val (.double (FP.i2d p6)), .second, .val (.ref b10), .unset] [(.ref b1), (.ref b10)])) (fun t9 k9 => XS.aload X70.here hx rfl (hb hby at_125) rfl rfl k9) ?_
        refine own_st (T' := T70) (g' := (mkF m 128 #[.val (.int p1), .val (.int p2), .val (.int p3), .val (.int p4), .val (.int p5), .val (.int p6), .val (.int (Int32.ofNat (2 + 1))), .val (.int ds), .val (.int (Int32.ofNat jj)), .val (.int (Int32.ofNat pl)), .val (.ref b1), .val (.double (FP.i2d p6)), .second, .val (.ref b10), .unset] [(.int (1 : Int32)), (.ref b1), (.ref b10)])) (fun t9 k9 => XS.iconst X70.here hx rfl (hb hby at_127) k9) ?_
        obtain ⟨clu97, Aru97, qu97, Su97, Nu97, Hu97, Gu97⟩ := (id Vx9)
        have hinu97 := inb_of Su97 (j := (1 : Int32)) ⟨by decide, by decide⟩
        refine own_st (T' := T70) (g' := (mkF m 129 #[.val (.int p1), .val (.int p2), .val (.int p3), .val (.int p4), .val (.int p5), .val (.int p6), .val (.int (Int32.ofNat (2 + 1))), .val (.int ds), .val (.int (Int32.ofNat jj)), .val (.int (Int32.ofNat pl)), .val (.ref b1), .val (.double (FP.i2d p6)), .second, .val (.ref b10), .unset] [(.double ((own_dk (FP.i2d p2) (FP.i2d p3) (FP.i2d p4) (FP.i2d p5)) 1)), (.ref b10)])) (fun t9 k9 => X70.daload hx (j := (1 : Int32)) (v := (.double ((own_dk (FP.i2d p2) (FP.i2d p3) (FP.i2d p4) (FP.i2d p5)) 1))) (by rw [e70]; exact Aru97.1) (State.isArrayOf_alike hZ.alike Aru97.2.1) Aru97.2.2 hinu97 (Hu97.at hinu97 (hX.2 1 (by decide)).1) (g := (mkF m 128 #[.val (.int p1), .val (.int p2), .val (.int p3), .val (.int p4), .val (.int p5), .val (.int p6), .val (.int (Int32.ofNat (2 + 1))), .val (.int ds), .val (.int (Int32.ofNat jj)), .val (.int (Int32.ofNat pl)), .val (.ref b1), .val (.double (FP.i2d p6)), .second, .val (.ref b10), .unset] [(.int (1 : Int32)), (.ref b1), (.ref b10)])) rfl rfl (hb hby at_128) t9 k9) ?_
        have Kb98 := K70
        have lx := Vx9.lt
        have la := Ee.lt
        obtain ⟨cq98, kq98, qa98, qb98, qc98⟩ := isOf hZ e70 Ee
        obtain ⟨_, _, ⟨T98, L98, k98, n98⟩, -, X98, ⟨Lc98, hQ98, l98, y98, z98⟩, st98⟩ := X70.virtualBack hx (y := (⟨"com/example/shelfwright/shelfwright/packers/FirstFit", "add", "(D)I"⟩ : MethodName)) (z := (⟨"com/example/shelfwright/shelfwright/packers/FirstFit", "add", "(D)I"⟩ : MethodName)) hown (mvT hZ (hw _ (List.mem_of_getElem? (i := 15) rfl))) (mvT hZ (hw _ (List.mem_of_getElem? (i := 16) rfl))) (notFace_of_selects (args := #[]) (mvT hZ (hw _ (List.mem_of_getElem? (i := 18) rfl)))) (mvT hZ (hw _ (List.mem_of_getElem? (i := 18) rfl))) (mvT hZ (hw _ (List.mem_of_getElem? (i := 17) rfl))) (by decide) (own_back (W := 0) (rm3 l Z a0 hw b10 dd _ vq fq cq 1 ((own_dk (FP.i2d p2) (FP.i2d p3) (FP.i2d p4) (FP.i2d p5)) 1) h70 n0 Z70 Ee FlargestKey9 Fcapacity9 Fcount9 Vd9 hq (by omega) hcq (by omega) (by omega) g_b10 g_dd hna (hX.2 1 (by decide)).2) hZ (hw _ (List.mem_of_getElem? (i := 19) rfl)) (hw _ (List.mem_of_getElem? (i := 3) rfl)) (by decide) (by decide)) qa98 qc98 (g := (mkF m 129 #[.val (.int p1), .val (.int p2), .val (.int p3), .val (.int p4), .val (.int p5), .val (.int p6), .val (.int (Int32.ofNat (2 + 1))), .val (.int ds), .val (.int (Int32.ofNat jj)), .val (.int (Int32.ofNat pl)), .val (.ref b1), .val (.double (FP.i2d p6)), .second, .val (.ref b10), .unset] [(.double ((own_dk (FP.i2d p2) (FP.i2d p3) (FP.i2d p4) (FP.i2d p5)) 1)), (.ref b10)])) rfl (by rw [hml]; rfl) (Steps.refl _) (argsL := [(.double ((own_dk (FP.i2d p2) (FP.i2d p3) (FP.i2d p4) (FP.i2d p5)) 1))]) (rest := []) (lenOf pd_1 rfl) rfl (by show 2 * 0 + _ ≤ _; exact Nat.le_of_eq rfl) (hb hby at_129) (fun _ _ => ⟨rfl, e70, (Nat.le_of_ble_eq_true rfl), (Nat.le_of_ble_eq_true rfl)⟩)
        dsimp only [Pt.U, Pt.locs, Pt.cells, Pt.slots] at X98 l98 y98 z98 st98 hQ98
        subst l98 y98 z98
        obtain ⟨b98, kb98, vb98, fb98, cb98, z98, rfl, Nq98, Kq98, hd98, g_b98, hn98, Eq98, Fl98, Fc98, Fn98, Vq98, hv98, hc498, hkc98, hcc98, hkk98, hkn98⟩ := hQ98
        have N98 := Fr.app N70 Nq98
        obtain ⟨h98, e98⟩ : ∃ z, T98.heap = z := ⟨_, rfl⟩
        rw [e98] at Kq98 Eq98 Fl98 Fc98 Fn98 Vq98
        have Ee_99 := Ee.keep Kq98
        have Vx9_100 := Vx9.keep Kq98 (ninS ne_b1_b10 (ninS hnx nin0))
        have K98 := K70.trans Kq98 (allS (Or.inr sz_b10) (allS (Or.inr hsz) all0))
        have Z98 : n0 ≤ h98.size := Nat.le_trans Z70 Kq98.1
        refine own_st (T' := T98) (g' := (mkF m 132 #[.val (.int p1), .val (.int p2), .val (.int p3), .val (.int p4), .val (.int p5), .val (.int p6), .val (.int (Int32.ofNat (2 + 1))), .val (.int ds), .val (.int (Int32.ofNat jj)), .val (.int (Int32.ofNat pl)), .val (.ref b1), .val (.double (FP.i2d p6)), .second, .val (.ref b10), .unset] [(.int z98)])) (fun t9 k9 => st98.trans k9) ?_
        have hnx98 : b1 ≠ b98 := by
          rcases hd98 with q | q
          · rw [q]; exact hnx
          · exact Nat.ne_of_lt (Nat.lt_of_lt_of_le lx q)
        have hsz98 : h0.size ≤ b98 := by
          rcases hd98 with q | q
          · rw [q]; exact hsz
          · exact Nat.le_trans Kb98.1 q
        have hpw98 : cb98 = 2 := by
          have := hpow
          omega
        have hkp98 : ∀ i, i < 2 → fb98 (cb98 + i) = (if (¬ ds = 0 ∧ jj < 1 ∧ i = pl) then (FP.i2d p6) else (own_dk (FP.i2d p2) (FP.i2d p3) (FP.i2d p4) (FP.i2d p5)) i) := by
          intro i hi
          by_cases hl : i < 1
          · rw [hkk98 i hl]; exact hkp i hl
          · obtain rfl : i = 1 := by omega
            rw [hkn98, if_neg (by omega)]
        refine own_st (T' := T98) (g' := (mkF m 133 #[.val (.int p1), .val (.int p2), .val (.int p3), .val (.int p4), .val (.int p5), .val (.int p6), .val (.int (Int32.ofNat (2 + 1))), .val (.int ds), .val (.int (Int32.ofNat jj)), .val (.int (Int32.ofNat pl)), .val (.ref b1), .val (.double (FP.i2d p6)), .second, .val (.ref b10), .unset] [])) (fun t9 k9 => XS.pop X98.here hx rfl (hb hby at_132) rfl rfl k9) ?_
        refine own_st (T' := T98) (g' := (mkF m 135 #[.val (.int p1), .val (.int p2), .val (.int p3), .val (.int p4), .val (.int p5), .val (.int p6), .val (.int (Int32.ofNat (2 + 1))), .val (.int ds), .val (.int (Int32.ofNat jj)), .val (.int (Int32.ofNat pl)), .val (.ref b1), .val (.double (FP.i2d p6)), .second, .val (.ref b10), .unset] [(.int ds)])) (fun t9 k9 => XS.iload X98.here hx rfl (hb hby at_133) rfl k9) ?_
        by_cases hd0 : ds = (0 : Int32)
        · refine own_st (T' := T98) (g' := (mkF m 153 #[.val (.int p1), .val (.int p2), .val (.int p3), .val (.int p4), .val (.int p5), .val (.int p6), .val (.int (Int32.ofNat (2 + 1))), .val (.int ds), .val (.int (Int32.ofNat jj)), .val (.int (Int32.ofNat pl)), .val (.ref b1), .val (.double (FP.i2d p6)), .second, .val (.ref b10), .unset] [])) (fun t9 k9 => XS.ifYes X98.here hx rfl (pc0 := 135) (pc' := 153) rfl (hb hby at_135) rfl ((if0 _ _).trans (teq hd0).1) (by decide) (by decide) k9) ?_
          exact js2 _ _ _ _ _ _ _ _ X98 e98 N98 Z98 K98 Ee_99 Fl98 Fc98 Fn98 Vq98 Vx9_100 hv98 hc498 hkc98 hpw98 g_b98 hn98 hnx98 hsz98 (fun i hi => by rw [hkp98 i hi, if_neg (fun q => q.1 hd0), if_neg (fun q => q.1 hd0)])
        · refine own_st (T' := T98) (g' := (mkF m 138 #[.val (.int p1), .val (.int p2), .val (.int p3), .val (.int p4), .val (.int p5), .val (.int p6), .val (.int (Int32.ofNat (2 + 1))), .val (.int ds), .val (.int (Int32.ofNat jj)), .val (.int (Int32.ofNat pl)), .val (.ref b1), .val (.double (FP.i2d p6)), .second, .val (.ref b10), .unset] [])) (fun t9 k9 => XS.ifNo X98.here hx rfl (hb hby at_135) rfl ((if0 _ _).trans (feq hd0).1) k9) ?_
          refine own_st (T' := T98) (g' := (mkF m 140 #[.val (.int p1), .val (.int p2), .val (.int p3), .val (.int p4), .val (.int p5), .val (.int p6), .val (.int (Int32.ofNat (2 + 1))), .val (.int ds), .val (.int (Int32.ofNat jj)), .val (.int (Int32.ofNat pl)), .val (.ref b1), .val (.double (FP.i2d p6)), .second, .val (.ref b10), .unset] [(.int (Int32.ofNat jj))])) (fun t9 k9 => XS.iload X98.here hx rfl (hb hby at_138) rfl k9) ?_
          refine own_st (T' := T98) (g' := (mkF m 141 #[.val (.int p1), .val (.int p2), .val (.int p3), .val (.int p4), .val (.int p5), .val (.int p6), .val (.int (Int32.ofNat (2 + 1))), .val (.int ds), .val (.int (Int32.ofNat jj)), .val (.int (Int32.ofNat pl)), .val (.ref b1), .val (.double (FP.i2d p6)), .second, .val (.ref b10), .unset] [(.int (1 : Int32)), (.int (Int32.ofNat jj))])) (fun t9 k9 => XS.iconst X98.here hx rfl (hb hby at_140) k9) ?_
          by_cases hj1 : (Int32.ofNat jj) = (1 : Int32)
          · refine own_st (T' := T98) (g' := (mkF m 144 #[.val (.int p1), .val (.int p2), .val (.int p3), .val (.int p4), .val (.int p5), .val (.int p6), .val (.int (Int32.ofNat (2 + 1))), .val (.int ds), .val (.int (Int32.ofNat jj)), .val (.int (Int32.ofNat pl)), .val (.ref b1), .val (.double (FP.i2d p6)), .second, .val (.ref b10), .unset] [])) (fun t9 k9 => XS.icmpNo X98.here hx rfl (hb hby at_141) rfl (teq hj1).2 k9) ?_
            have hje : jj = 1 := own_eq' (n := 1) hj1 (by omega) (by omega)
            refine own_st (T' := T98) (g' := (mkF m 146 #[.val (.int p1), .val (.int p2), .val (.int p3), .val (.int p4), .val (.int p5), .val (.int p6), .val (.int (Int32.ofNat (2 + 1))), .val (.int ds), .val (.int (Int32.ofNat jj)), .val (.int (Int32.ofNat pl)), .val (.ref b1), .val (.double (FP.i2d p6)), .second, .val (.ref b10), .unset] [(.ref b10)])) (fun t9 k9 => XS.aload X98.here hx rfl (hb hby at_144) rfl rfl k9) ?_
            refine own_st (T' := T98) (g' := (mkF m 148 #[.val (.int p1), .val (.int p2), .val (.int p3), .val (.int p4), .val (.int p5), .val (.int p6), .val (.int (Int32.ofNat (2 + 1))), .val (.int ds), .val (.int (Int32.ofNat jj)), .val (.int (Int32.ofNat pl)), .val (.ref b1), .val (.double (FP.i2d p6)), .second, .val (.ref b10), .unset] [(.int (Int32.ofNat pl)), (.ref b10)])) (fun t9 k9 => XS.iload X98.here hx rfl (hb hby at_146) rfl k9) ?_
            refine own_st (T' := T98) (g' := (mkF m 150 #[.val (.int p1), .val (.int p2), .val (.int p3), .val (.int p4), .val (.int p5), .val (.int p6), .val (.int (Int32.ofNat (2 + 1))), .val (.int ds), .val (.int (Int32.ofNat jj)), .val (.int (Int32.ofNat pl)), .val (.ref b1), .val (.double (FP.i2d p6)), .second, .val (.ref b10), .unset] [(.double (FP.i2d p6)), (.int (Int32.ofNat pl)), (.ref b10)])) (fun t9 k9 => XS.dload X98.here hx rfl (hb hby at_148) rfl k9) ?_
            have Kb2 := K98
            obtain ⟨cq101, kq101, qa101, qb101, qc101⟩ := isOf hZ e98 Ee_99
            obtain ⟨_, _, ⟨T101, L101, k101, n101⟩, -, X101, ⟨Lc101, hQ101, l101, y101, z101⟩, st101⟩ := X98.virtualBack hx (y := (⟨"com/example/shelfwright/shelfwright/packers/FirstFit", "set", "(ID)V"⟩ : MethodName)) (z := (⟨"com/example/shelfwright/shelfwright/packers/FirstFit", "set", "(ID)V"⟩ : MethodName)) hown (mvT hZ (hw _ (List.mem_of_getElem? (i := 32) rfl))) (mvT hZ (hw _ (List.mem_of_getElem? (i := 23) rfl))) (notFace_of_selects (args := #[]) (mvT hZ (hw _ (List.mem_of_getElem? (i := 25) rfl)))) (mvT hZ (hw _ (List.mem_of_getElem? (i := 25) rfl))) (mvT hZ (hw _ (List.mem_of_getElem? (i := 24) rfl))) (by decide) (own_back (W := 0) (rm4 l Z a0 hw b10 b98 kb98 vb98 fb98 cb98 pl (FP.i2d p6) h98 n0 Z98 Fl98 Fc98 Vq98 hv98 hc498 (by omega) (own_i2d _) hn98.symm g_b98) hZ (hw _ (List.mem_of_getElem? (i := 26) rfl)) (hw _ (List.mem_of_getElem? (i := 3) rfl)) (by decide) (by decide)) qa101 qc101 (g := (mkF m 150 #[.val (.int p1), .val (.int p2), .val (.int p3), .val (.int p4), .val (.int p5), .val (.int p6), .val (.int (Int32.ofNat (2 + 1))), .val (.int ds), .val (.int (Int32.ofNat jj)), .val (.int (Int32.ofNat pl)), .val (.ref b1), .val (.double (FP.i2d p6)), .second, .val (.ref b10), .unset] [(.double (FP.i2d p6)), (.int (Int32.ofNat pl)), (.ref b10)])) rfl (by rw [hml]; rfl) (Steps.refl _) (argsL := [(.int (Int32.ofNat pl)), (.double (FP.i2d p6))]) (rest := []) (lenOf pd_2 rfl) rfl (by show 2 * 0 + _ ≤ _; exact Nat.le_of_eq rfl) (hb hby at_150) (fun _ _ => ⟨rfl, e98, (Nat.le_of_ble_eq_true rfl), (Nat.le_of_ble_eq_true rfl)⟩)
            dsimp only [Pt.U, Pt.locs, Pt.cells, Pt.slots] at X101 l101 y101 z101 st101 hQ101
            subst l101 y101 z101
            obtain ⟨vz101, fz101, rfl, Nq101, Kq101, Vq101, hz101, hkz101⟩ := hQ101
            have N101 := Fr.app N98 Nq101
            obtain ⟨h101, e101⟩ : ∃ z, T101.heap = z := ⟨_, rfl⟩
            rw [e101] at Kq101 Vq101
            have Ee_102 := Ee_99.keep Kq101
            have Vx9_103 := Vx9_100.keep Kq101 (ninS hnx98 nin0)
            have Fl98_104 := Fl98.keep Kq101 (ninS (Ne.symm hn98) nin0)
            have Fc98_105 := Fc98.keep Kq101 (ninS (Ne.symm hn98) nin0)
            have Fn98_106 := Fn98.keep Kq101 (ninS (Ne.symm hn98) nin0)
            have K101 := K98.trans Kq101 (allS (Or.inr hsz98) all0)
            have Z101 : n0 ≤ h101.size := Nat.le_trans Z98 Kq101.1
            refine own_st (T' := T101) (g' := (mkF m 153 #[.val (.int p1), .val (.int p2), .val (.int p3), .val (.int p4), .val (.int p5), .val (.int p6), .val (.int (Int32.ofNat (2 + 1))), .val (.int ds), .val (.int (Int32.ofNat jj)), .val (.int (Int32.ofNat pl)), .val (.ref b1), .val (.double (FP.i2d p6)), .second, .val (.ref b10), .unset] [])) (fun t9 k9 => st101.trans k9) ?_
            exact js2 _ _ _ _ _ _ _ _ X101 e101 N101 Z101 K101 Ee_102 Fl98_104 Fc98_105 Fn98_106 Vq101 Vx9_103 hz101 hc498 hkc98 hpw98 g_b98 hn98 hnx98 hsz98 (fun i hi => by
                  rw [hkz101 i (by omega)]
                  by_cases q : i = pl
                  · rw [if_pos q, if_pos ⟨hd0, by omega, q⟩]
                  · rw [if_neg q, hkp98 i hi, if_neg (fun r => q r.2.2), if_neg (fun r => q r.2.2)])
          · refine own_st (T' := T98) (g' := (mkF m 153 #[.val (.int p1), .val (.int p2), .val (.int p3), .val (.int p4), .val (.int p5), .val (.int p6), .val (.int (Int32.ofNat (2 + 1))), .val (.int ds), .val (.int (Int32.ofNat jj)), .val (.int (Int32.ofNat pl)), .val (.ref b1), .val (.double (FP.i2d p6)), .second, .val (.ref b10), .unset] [])) (fun t9 k9 => XS.icmpYes X98.here hx rfl (pc0 := 141) (pc' := 153) rfl (hb hby at_141) rfl (feq hj1).2 (by decide) (by decide) k9) ?_
            have hje : jj ≠ 1 := fun q => hj1 (by rw [q]; rfl)
            exact js2 _ _ _ _ _ _ _ _ X98 e98 N98 Z98 K98 Ee_99 Fl98 Fc98 Fn98 Vq98 Vx9_100 hv98 hc498 hkc98 hpw98 g_b98 hn98 hnx98 hsz98 (fun i hi => by
                  rw [hkp98 i hi]
                  by_cases r : (¬ ds = 0 ∧ jj < 1 ∧ i = pl)
                  · rw [if_pos r, if_pos ⟨r.1, by omega, r.2.2⟩]
                  · rw [if_neg r, if_neg (fun r' => r ⟨r'.1, by omega, r'.2.2⟩)])
      refine own_st (T' := T12) (g' := (mkF m 90 #[.val (.int p1), .val (.int p2), .val (.int p3), .val (.int p4), .val (.int p5), .val (.int p6), .val (.int (Int32.ofNat (2 + 1))), .val (.int ds), .val (.int (Int32.ofNat jj)), .val (.int (Int32.ofNat pl)), .val (.ref b1), .val (.double (FP.i2d p6)), .second, .val (.ref b10), .unset] [(.ref b10)])) (fun t9 k9 => XS.aload X12.here hx rfl (hb hby at_88) rfl rfl k9) ?_
      refine own_st (T' := T12) (g' := (mkF m 92 #[.val (.int p1), .val (.int p2), .val (.int p3), .val (.int p4), .val (.int p5), .val (.int p6), .val (.int (Int32.ofNat (2 + 1))), .val (.int ds), .val (.int (Int32.ofNat jj)), .val (.int (Int32.ofNat pl)), .val (.ref b1), .val (.double (FP.i2d p6)), .second, .val (.ref b10), .unset] [(.ref b1), (.ref b10)])) (fun t9 k9 => XS.aload X12.here hx rfl (hb hby at_90) rfl rfl k9) ?_
      refine own_st (T' := T12) (g' := (mkF m 93 #[.val (.int p1), .val (.int p2), .val (.int p3), .val (.int p4), .val (.int p5), .val (.int p6), .val (.int (Int32.ofNat (2 + 1))), .val (.int ds), .val (.int (Int32.ofNat jj)), .val (.int (Int32.ofNat pl)), .val (.ref b1), .val (.double (FP.i2d p6)), .second, .val (.ref b10), .unset] [(.int (0 : Int32)), (.ref b1), (.ref b10)])) (fun t9 k9 => XS.iconst X12.here hx rfl (hb hby at_92) k9) ?_
      obtain ⟨clu107, Aru107, qu107, Su107, Nu107, Hu107, Gu107⟩ := (id Va9_13)
      have hinu107 := inb_of Su107 (j := (0 : Int32)) ⟨by decide, by decide⟩
      refine own_st (T' := T12) (g' := (mkF m 94 #[.val (.int p1), .val (.int p2), .val (.int p3), .val (.int p4), .val (.int p5), .val (.int p6), .val (.int (Int32.ofNat (2 + 1))), .val (.int ds), .val (.int (Int32.ofNat jj)), .val (.int (Int32.ofNat pl)), .val (.ref b1), .val (.double (FP.i2d p6)), .second, .val (.ref b10), .unset] [(.double ((own_dk (FP.i2d p2) (FP.i2d p3) (FP.i2d p4) (FP.i2d p5)) 0)), (.ref b10)])) (fun t9 k9 => X12.daload hx (j := (0 : Int32)) (v := (.double ((own_dk (FP.i2d p2) (FP.i2d p3) (FP.i2d p4) (FP.i2d p5)) 0))) (by rw [e12]; exact Aru107.1) (State.isArrayOf_alike hZ.alike Aru107.2.1) Aru107.2.2 hinu107 (Hu107.at hinu107 (hX.2 0 (by decide)).1) (g := (mkF m 93 #[.val (.int p1), .val (.int p2), .val (.int p3), .val (.int p4), .val (.int p5), .val (.int p6), .val (.int (Int32.ofNat (2 + 1))), .val (.int ds), .val (.int (Int32.ofNat jj)), .val (.int (Int32.ofNat pl)), .val (.ref b1), .val (.double (FP.i2d p6)), .second, .val (.ref b10), .unset] [(.int (0 : Int32)), (.ref b1), (.ref b10)])) rfl rfl (hb hby at_93) t9 k9) ?_
      have Kb108 := K12
      have lx := Va9_13.lt
      have la := A10_14.lt
      obtain ⟨cq108, kq108, qa108, qb108, qc108⟩ := isOf hZ e12 A10_14
      obtain ⟨_, _, ⟨T108, L108, k108, n108⟩, -, X108, ⟨Lc108, hQ108, l108, y108, z108⟩, st108⟩ := X12.virtualBack hx (y := (⟨"com/example/shelfwright/shelfwright/packers/FirstFit", "add", "(D)I"⟩ : MethodName)) (z := (⟨"com/example/shelfwright/shelfwright/packers/FirstFit", "add", "(D)I"⟩ : MethodName)) hown (mvT hZ (hw _ (List.mem_of_getElem? (i := 15) rfl))) (mvT hZ (hw _ (List.mem_of_getElem? (i := 16) rfl))) (notFace_of_selects (args := #[]) (mvT hZ (hw _ (List.mem_of_getElem? (i := 18) rfl)))) (mvT hZ (hw _ (List.mem_of_getElem? (i := 18) rfl))) (mvT hZ (hw _ (List.mem_of_getElem? (i := 17) rfl))) (by decide) (own_back (W := 0) (rm3 l Z a0 hw b10 d12 _ vd12 (fun _ => (18442240474082181120 : UInt64)) 1 0 ((own_dk (FP.i2d p2) (FP.i2d p3) (FP.i2d p4) (FP.i2d p5)) 0) h12 n0 Z12 A10_14 Fl12 Fc12 Fn12 Vq12 hv12 (by decide) (by decide) (by omega) (by omega) g_b10 g_d12 hne0 (hX.2 0 (by decide)).2) hZ (hw _ (List.mem_of_getElem? (i := 19) rfl)) (hw _ (List.mem_of_getElem? (i := 3) rfl)) (by decide) (by decide)) qa108 qc108 (g := (mkF m 94 #[.val (.int p1), .val (.int p2), .val (.int p3), .val (.int p4), .val (.int p5), .val (.int p6), .val (.int (Int32.ofNat (2 + 1))), .val (.int ds), .val (.int (Int32.ofNat jj)), .val (.int (Int32.ofNat pl)), .val (.ref b1), .val (.double (FP.i2d p6)), .second, .val (.ref b10), .unset] [(.double ((own_dk (FP.i2d p2) (FP.i2d p3) (FP.i2d p4) (FP.i2d p5)) 0)), (.ref b10)])) rfl (by rw [hml]; rfl) (Steps.refl _) (argsL := [(.double ((own_dk (FP.i2d p2) (FP.i2d p3) (FP.i2d p4) (FP.i2d p5)) 0))]) (rest := []) (lenOf pd_1 rfl) rfl (by show 2 * 0 + _ ≤ _; exact Nat.le_of_eq rfl) (hb hby at_94) (fun _ _ => ⟨rfl, e12, (Nat.le_of_ble_eq_true rfl), (Nat.le_of_ble_eq_true rfl)⟩)
      dsimp only [Pt.U, Pt.locs, Pt.cells, Pt.slots] at X108 l108 y108 z108 st108 hQ108
      subst l108 y108 z108
      obtain ⟨b108, kb108, vb108, fb108, cb108, z108, rfl, Nq108, Kq108, hd108, g_b108, hn108, Eq108, Fl108, Fc108, Fn108, Vq108, hv108, hc4108, hkc108, hcc108, hkk108, hkn108⟩ := hQ108
      have N108 := Fr.app N12 Nq108
      obtain ⟨h108, e108⟩ : ∃ z, T108.heap = z := ⟨_, rfl⟩
      rw [e108] at Kq108 Eq108 Fl108 Fc108 Fn108 Vq108
      have Va9_109 := Va9_13.keep Kq108 (ninS ne_b1_b10 (ninS hnx0 nin0))
      have A10_110 := A10_14.keep Kq108
      have K108 := K12.trans Kq108 (allS (Or.inr sz_b10) (allS (Or.inr (Nat.le_trans Kp0.1 sz12)) all0))
      have Z108 : n0 ≤ h108.size := Nat.le_trans Z12 Kq108.1
      refine own_st (T' := T108) (g' := (mkF m 97 #[.val (.int p1), .val (.int p2), .val (.int p3), .val (.int p4), .val (.int p5), .val (.int p6), .val (.int (Int32.ofNat (2 + 1))), .val (.int ds), .val (.int (Int32.ofNat jj)), .val (.int (Int32.ofNat pl)), .val (.ref b1), .val (.double (FP.i2d p6)), .second, .val (.ref b10), .unset] [(.int z108)])) (fun t9 k9 => st108.trans k9) ?_
      have hnx108 : b1 ≠ b108 := by
        rcases hd108 with q | q
        · rw [q]; exact hnx0
        · exact Nat.ne_of_lt (Nat.lt_of_lt_of_le lx q)
      have hsz108 : h0.size ≤ b108 := by
        rcases hd108 with q | q
        · rw [q]; exact (Nat.le_trans Kp0.1 sz12)
        · exact Nat.le_trans Kb108.1 q
      have hpw108 : cb108 = 1 := by
        omega
      have hkp108 : ∀ i, i < 1 → fb108 (cb108 + i) = (if (¬ ds = 0 ∧ jj < 0 ∧ i = pl) then (FP.i2d p6) else (own_dk (FP.i2d p2) (FP.i2d p3) (FP.i2d p4) (FP.i2d p5)) i) := by
        intro i hi
        by_cases hl : i < 0
        · rw [hkk108 i hl]; exact (fun i hi => absurd hi (Nat.not_lt_zero i)) i hl
        · obtain rfl : i = 0 := by omega
          rw [hkn108, if_neg (by omega)]
      refine own_st (T' := T108) (g' := (mkF m 98 #[.val (.int p1), .val (.int p2), .val (.int p3), .val (.int p4), .val (.int p5), .val (.int p6), .val (.int (Int32.ofNat (2 + 1))), .val (.int ds), .val (.int (Int32.ofNat jj)), .val (.int (Int32.ofNat pl)), .val (.ref b1), .val (.double (FP.i2d p6)), .second, .val (.ref b10), .unset] [])) (fun t9 k9 => XS.pop X108.here hx rfl (hb hby at_97) rfl rfl k9) ?_
      refine own_st (T' := T108) (g' := (mkF m 100 #[.val (.int p1), .val (.int p2), .val (.int p3), .val (.int p4), .val (.int p5), .val (.int p6), .val (.int (Int32.ofNat (2 + 1))), .val (.int ds), .val (.int (Int32.ofNat jj)), .val (.int (Int32.ofNat pl)), .val (.ref b1), .val (.double (FP.i2d p6)), .second, .val (.ref b10), .unset] [(.int ds)])) (fun t9 k9 => XS.iload X108.here hx rfl (hb hby at_98) rfl k9) ?_
      by_cases hd0 : ds = (0 : Int32)
      · refine own_st (T' := T108) (g' := (mkF m 117 #[.val (.int p1), .val (.int p2), .val (.int p3), .val (.int p4), .val (.int p5), .val (.int p6), .val (.int (Int32.ofNat (2 + 1))), .val (.int ds), .val (.int (Int32.ofNat jj)), .val (.int (Int32.ofNat pl)), .val (.ref b1), .val (.double (FP.i2d p6)), .second, .val (.ref b10), .unset] [])) (fun t9 k9 => XS.ifYes X108.here hx rfl (pc0 := 100) (pc' := 117) rfl (hb hby at_100) rfl ((if0 _ _).trans (teq hd0).1) (by decide) (by decide) k9) ?_
        exact js1 _ _ _ _ _ _ _ _ X108 e108 N108 Z108 K108 A10_110 Fl108 Fc108 Fn108 Vq108 Va9_109 hv108 hc4108 hkc108 hpw108 g_b108 hn108 hnx108 hsz108 (fun i hi => by rw [hkp108 i hi, if_neg (fun q => q.1 hd0), if_neg (fun q => q.1 hd0)])
      · refine own_st (T' := T108) (g' := (mkF m 103 #[.val (.int p1), .val (.int p2), .val (.int p3), .val (.int p4), .val (.int p5), .val (.int p6), .val (.int (Int32.ofNat (2 + 1))), .val (.int ds), .val (.int (Int32.ofNat jj)), .val (.int (Int32.ofNat pl)), .val (.ref b1), .val (.double (FP.i2d p6)), .second, .val (.ref b10), .unset] [])) (fun t9 k9 => XS.ifNo X108.here hx rfl (hb hby at_100) rfl ((if0 _ _).trans (feq hd0).1) k9) ?_
        refine own_st (T' := T108) (g' := (mkF m 105 #[.val (.int p1), .val (.int p2), .val (.int p3), .val (.int p4), .val (.int p5), .val (.int p6), .val (.int (Int32.ofNat (2 + 1))), .val (.int ds), .val (.int (Int32.ofNat jj)), .val (.int (Int32.ofNat pl)), .val (.ref b1), .val (.double (FP.i2d p6)), .second, .val (.ref b10), .unset] [(.int (Int32.ofNat jj))])) (fun t9 k9 => XS.iload X108.here hx rfl (hb hby at_103) rfl k9) ?_
        by_cases hj0 : (Int32.ofNat jj) = (0 : Int32)
        · refine own_st (T' := T108) (g' := (mkF m 108 #[.val (.int p1), .val (.int p2), .val (.int p3), .val (.int p4), .val (.int p5), .val (.int p6), .val (.int (Int32.ofNat (2 + 1))), .val (.int ds), .val (.int (Int32.ofNat jj)), .val (.int (Int32.ofNat pl)), .val (.ref b1), .val (.double (FP.i2d p6)), .second, .val (.ref b10), .unset] [])) (fun t9 k9 => XS.ifNo X108.here hx rfl (hb hby at_105) rfl ((if0 _ _).trans (teq hj0).2) k9) ?_
          have hje : jj = 0 := own_eq' (n := 0) hj0 (by omega) (by omega)
          refine own_st (T' := T108) (g' := (mkF m 110 #[.val (.int p1), .val (.int p2), .val (.int p3), .val (.int p4), .val (.int p5), .val (.int p6), .val (.int (Int32.ofNat (2 + 1))), .val (.int ds), .val (.int (Int32.ofNat jj)), .val (.int (Int32.ofNat pl)), .val (.ref b1), .val (.double (FP.i2d p6)), .second, .val (.ref b10), .unset] [(.ref b10)])) (fun t9 k9 => XS.aload X108.here hx rfl (hb hby at_108) rfl rfl k9) ?_
          refine own_st (T' := T108) (g' := (mkF m 112 #[.val (.int p1), .val (.int p2), .val (.int p3), .val (.int p4), .val (.int p5), .val (.int p6), .val (.int (Int32.ofNat (2 + 1))), .val (.int ds), .val (.int (Int32.ofNat jj)), .val (.int (Int32.ofNat pl)), .val (.ref b1), .val (.double (FP.i2d p6)), .second, .val (.ref b10), .unset] [(.int (Int32.ofNat pl)), (.ref b10)])) (fun t9 k9 => XS.iload X108.here hx rfl (hb hby at_110) rfl k9) ?_
          refine own_st (T' := T108) (g' := (mkF m 114 #[.val (.int p1), .val (.int p2), .val (.int p3), .val (.int p4), .val (.int p5), .val (.int p6), .val (.int (Int32.ofNat (2 + 1))), .val (.int ds), .val (.int (Int32.ofNat jj)), .val (.int (Int32.ofNat pl)), .val (.ref b1), .val (.double (FP.i2d p6)), .second, .val (.ref b10), .unset] [(.double (FP.i2d p6)), (.int (Int32.ofNat pl)), (.ref b10)])) (fun t9 k9 => XS.dload X108.here hx rfl (hb hby at_112) rfl k9) ?_
          have Kb2 := K108
          obtain ⟨cq111, kq111, qa111, qb111, qc111⟩ := isOf hZ e108 A10_110
          obtain ⟨_, _, ⟨T111, L111, k111, n111⟩, -, X111, ⟨Lc111, hQ111, l111, y111, z111⟩, st111⟩ := X108.virtualBack hx (y := (⟨"com/example/shelfwright/shelfwright/packers/FirstFit", "set", "(ID)V"⟩ : MethodName)) (z := (⟨"com/example/shelfwright/shelfwright/packers/FirstFit", "set", "(ID)V"⟩ : MethodName)) hown (mvT hZ (hw _ (List.mem_of_getElem? (i := 32) rfl))) (mvT hZ (hw _ (List.mem_of_getElem? (i := 23) rfl))) (notFace_of_selects (args := #[]) (mvT hZ (hw _ (List.mem_of_getElem? (i := 25) rfl)))) (mvT hZ (hw _ (List.mem_of_getElem? (i := 25) rfl))) (mvT hZ (hw _ (List.mem_of_getElem? (i := 24) rfl))) (by decide) (own_back (W := 0) (rm4 l Z a0 hw b10 b108 kb108 vb108 fb108 cb108 pl (FP.i2d p6) h108 n0 Z108 Fl108 Fc108 Vq108 hv108 hc4108 (by omega) (own_i2d _) hn108.symm g_b108) hZ (hw _ (List.mem_of_getElem? (i := 26) rfl)) (hw _ (List.mem_of_getElem? (i := 3) rfl)) (by decide) (by decide)) qa111 qc111 (g := (mkF m 114 #[.val (.int p1), .val (.int p2), .val (.int p3), .val (.int p4), .val (.int p5), .val (.int p6), .val (.int (Int32.ofNat (2 + 1))), .val (.int ds), .val (.int (Int32.ofNat jj)), .val (.int (Int32.ofNat pl)), .val (.ref b1), .val (.double (FP.i2d p6)), .second, .val (.ref b10), .unset] [(.double (FP.i2d p6)), (.int (Int32.ofNat pl)), (.ref b10)])) rfl (by rw [hml]; rfl) (Steps.refl _) (argsL := [(.int (Int32.ofNat pl)), (.double (FP.i2d p6))]) (rest := []) (lenOf pd_2 rfl) rfl (by show 2 * 0 + _ ≤ _; exact Nat.le_of_eq rfl) (hb hby at_114) (fun _ _ => ⟨rfl, e108, (Nat.le_of_ble_eq_true rfl), (Nat.le_of_ble_eq_true rfl)⟩)
          dsimp only [Pt.U, Pt.locs, Pt.cells, Pt.slots] at X111 l111 y111 z111 st111 hQ111
          subst l111 y111 z111
          obtain ⟨vz111, fz111, rfl, Nq111, Kq111, Vq111, hz111, hkz111⟩ := hQ111
          have N111 := Fr.app N108 Nq111
          obtain ⟨h111, e111⟩ : ∃ z, T111.heap = z := ⟨_, rfl⟩
          rw [e111] at Kq111 Vq111
          have Va9_112 := Va9_109.keep Kq111 (ninS hnx108 nin0)
          have A10_113 := A10_110.keep Kq111
          have Fl108_114 := Fl108.keep Kq111 (ninS (Ne.symm hn108) nin0)
          have Fc108_115 := Fc108.keep Kq111 (ninS (Ne.symm hn108) nin0)
          have Fn108_116 := Fn108.keep Kq111 (ninS (Ne.symm hn108) nin0)
          have K111 := K108.trans Kq111 (allS (Or.inr hsz108) all0)
          have Z111 : n0 ≤ h111.size := Nat.le_trans Z108 Kq111.1
          refine own_st (T' := T111) (g' := (mkF m 117 #[.val (.int p1), .val (.int p2), .val (.int p3), .val (.int p4), .val (.int p5), .val (.int p6), .val (.int (Int32.ofNat (2 + 1))), .val (.int ds), .val (.int (Int32.ofNat jj)), .val (.int (Int32.ofNat pl)), .val (.ref b1), .val (.double (FP.i2d p6)), .second, .val (.ref b10), .unset] [])) (fun t9 k9 => st111.trans k9) ?_
          exact js1 _ _ _ _ _ _ _ _ X111 e111 N111 Z111 K111 A10_113 Fl108_114 Fc108_115 Fn108_116 Vq111 Va9_112 hz111 hc4108 hkc108 hpw108 g_b108 hn108 hnx108 hsz108 (fun i hi => by
                rw [hkz111 i (by omega)]
                by_cases q : i = pl
                · rw [if_pos q, if_pos ⟨hd0, by omega, q⟩]
                · rw [if_neg q, hkp108 i hi, if_neg (fun r => q r.2.2), if_neg (fun r => q r.2.2)])
        · refine own_st (T' := T108) (g' := (mkF m 117 #[.val (.int p1), .val (.int p2), .val (.int p3), .val (.int p4), .val (.int p5), .val (.int p6), .val (.int (Int32.ofNat (2 + 1))), .val (.int ds), .val (.int (Int32.ofNat jj)), .val (.int (Int32.ofNat pl)), .val (.ref b1), .val (.double (FP.i2d p6)), .second, .val (.ref b10), .unset] [])) (fun t9 k9 => XS.ifYes X108.here hx rfl (pc0 := 105) (pc' := 117) rfl (hb hby at_105) rfl ((if0 _ _).trans (feq hj0).2) (by decide) (by decide) k9) ?_
          have hje : jj ≠ 0 := fun q => hj0 (by rw [q]; rfl)
          exact js1 _ _ _ _ _ _ _ _ X108 e108 N108 Z108 K108 A10_110 Fl108 Fc108 Fn108 Vq108 Va9_109 hv108 hc4108 hkc108 hpw108 g_b108 hn108 hnx108 hsz108 (fun i hi => by
                rw [hkp108 i hi]
                by_cases r : (¬ ds = 0 ∧ jj < 0 ∧ i = pl)
                · rw [if_pos r, if_pos ⟨r.1, by omega, r.2.2⟩]
                · rw [if_neg r, if_neg (fun r' => r ⟨r'.1, by omega, r'.2.2⟩)])
    · show own_Go p e below F T12 (mkF m 86 #[.val (.int p1), .val (.int p2), .val (.int p3), .val (.int p4), .val (.int p5), .val (.int p6), .val (.int (Int32.ofNat (3 + 1))), .val (.int ds), .val (.int (Int32.ofNat jj)), .val (.int (Int32.ofNat pl)), .val (.ref b1), .val (.double (FP.i2d p6)), .second, .unset, .unset] [(.ref b10)])
      refine own_st (T' := T12) (g' := (mkF m 88 #[.val (.int p1), .val (.int p2), .val (.int p3), .val (.int p4), .val (.int p5), .val (.int p6), .val (.int (Int32.ofNat (3 + 1))), .val (.int ds), .val (.int (Int32.ofNat jj)), .val (.int (Int32.ofNat pl)), .val (.ref b1), .val (.double (FP.i2d p6)), .second, .val (.ref b10), .unset] [])) (fun t9 k9 => XS.astore X12.here hx rfl (hb hby at_86) rfl rfl (l' := #[.val (.int p1), .val (.int p2), .val (.int p3), .val (.int p4), .val (.int p5), .val (.int p6), .val (.int (Int32.ofNat (3 + 1))), .val (.int ds), .val (.int (Int32.ofNat jj)), .val (.int (Int32.ofNat pl)), .val (.ref b1), .val (.double (FP.i2d p6)), .second, .val (.ref b10), .unset]) rfl k9) ?_
      have js1 : ∀ (T117 : State) (L117 : List Loc) (h117 : Heap) (dd : Addr) (kd : ClassId) (vq : List Value) (fq : Nat → UInt64) (cq : Nat), Stand p l e room_1 s m #[(.int p1), (.int p2), (.int p3), (.int p4), (.int p5), (.int p6)] below meth c T117 L117 (((0 + 1 + 1 + 1) + 2)) (((0 + 4 + 3 + 2) + 10)) → T117.heap = h117 → Fr n0 L117 → (n0 ≤ h117.size) → (Keep h0 h117 []) → (Exa Z h117 b10 "com/example/shelfwright/shelfwright/packers/FirstFit") → (Fld Z h117 b10 "com/example/shelfwright/shelfwright/packers/FirstFit" "largestKey" "[D" (.ref dd)) → (Fld Z h117 b10 "com/example/shelfwright/shelfwright/packers/FirstFit" "capacity" "I" (.int (Int32.ofNat cq))) → (Fld Z h117 b10 "com/example/shelfwright/shelfwright/packers/FirstFit" "count" "I" (.int (Int32.ofNat 1))) → (Arv Z h117 dd kd .double (Int32.ofNat (2 * cq)) vq (.double 0)) → (Arv Z h117 b1 k1 .double (4 : Int32) ((((([Value.double 0, .double 0, .double 0, .double 0].set 0 (.double (FP.i2d p2))).set 1 (.double (FP.i2d p3))).set 2 (.double (FP.i2d p4))).set 3 (.double (FP.i2d p5)))) (.double 0)) → (own_D vq (2 * cq) fq) → (cq ≤ 4) → (1 ≤ cq) → (cq = 1) → (n0 ≤ dd) → (dd ≠ b10) → (b1 ≠ dd) → (h0.size ≤ dd) → (∀ i, i < 1 → fq (cq + i) = (if (¬ ds = 0 ∧ jj < 1 ∧ i = pl) then (FP.i2d p6) else (own_dk (FP.i2d p2) (FP.i2d p3) (FP.i2d p4) (FP.i2d p5)) i)) → own_Go p e below F T117 (mkF m 117 #[.val (.int p1), .val (.int p2), .val (.int p3), .val (.int p4), .val (.int p5), .val (.int p6), .val (.int (Int32.ofNat (3 + 1))), .val (.int ds), .val (.int (Int32.ofNat jj)), .val (.int (Int32.ofNat pl)), .val (.ref b1), .val (.double (FP.i2d p6)), .second, .val (.ref b10), .unset] []) := by
        intro T117 L117 h117 dd kd vq fq cq X117 e117 N117 Z117 K117 Ee FlargestKey9 Fcapacity9 Fcount9 Vd9 Vx9 hq hcq hkq hpow g_dd hna hnx hsz hkp
        refine own_st (T' := T117) (g' := (mkF m 119 #[.val (.int p1), .val (.int p2), .val (.int p3), .val (.int p4), .val (.int p5), .val (.int p6), .val (.int (Int32.ofNat (3 + 1))), .val (.int ds), .val (.int (Int32.ofNat jj)), .val (.int (Int32.ofNat pl)), .val (.ref b1), .val (.double (FP.i2d p6)), .second, .val (.ref b10), .unset] [(.int (Int32.ofNat (3 + 1)))])) (fun t9 k9 => XS.iload X117.here hx rfl (hb hby at_117) rfl k9) ?_
        refine own_st (T' := T117) (g' := (mkF m 120 #[.val (.int p1), .val (.int p2), .val (.int p3), .val (.int p4), .val (.int p5), .val (.int p6), .val (.int (Int32.ofNat (3 + 1))), .val (.int ds), .val (.int (Int32.ofNat jj)), .val (.int (Int32.ofNat pl)), .val (.ref b1), .val (.double (FP.i2d p6)), .second, .val (.ref b10), .unset] [(.int (1 : Int32)), (.int (Int32.ofNat (3 + 1)))])) (fun t9 k9 => XS.iconst X117.here hx rfl (hb hby at_119) k9) ?_
        refine own_st (T' := T117) (g' := (mkF m 123 #[.val (.int p1), .val (.int p2), .val (.int p3), .val (.int p4), .val (.int p5), .val (.int p6), .val (.int (Int32.ofNat (3 + 1))), .val (.int ds), .val (.int (Int32.ofNat jj)), .val (.int (Int32.ofNat pl)), .val (.ref b1), .val (.double (FP.i2d p6)), .second, .val (.ref b10), .unset] [])) (fun t9 k9 => XS.icmpNo X117.here hx rfl (hb hby at_120) rfl (tlt (own_lt (i := 1) (by omega) (by omega))).2.2.2 k9) ?_
        have js2 : ∀ (T118 : State) (L118 : List Loc) (h118 : Heap) (dd : Addr) (kd : ClassId) (vq : List Value) (fq : Nat → UInt64) (cq : Nat), Stand p l e room_1 s m #[(.int p1), (.int p2), (.int p3), (.int p4), (.int p5), (.int p6)] below meth c T118 L118 ((((0 + 1 + 1 + 1) + 2) + 2)) ((((0 + 4 + 3 + 2) + 10) + 10)) → T118.heap = h118 → Fr n0 L118 → (n0 ≤ h118.size) → (Keep h0 h118 []) → (Exa Z h118 b10 "com/example/shelfwright/shelfwright/packers/FirstFit") → (Fld Z h118 b10 "com/example/shelfwright/shelfwright/packers/FirstFit" "largestKey" "[D" (.ref dd)) → (Fld Z h118 b10 "com/example/shelfwright/shelfwright/packers/FirstFit" "capacity" "I" (.int (Int32.ofNat cq))) → (Fld Z h118 b10 "com/example/shelfwright/shelfwright/packers/FirstFit" "count" "I" (.int (Int32.ofNat 2))) → (Arv Z h118 dd kd .double (Int32.ofNat (2 * cq)) vq (.double 0)) → (Arv Z h118 b1 k1 .double (4 : Int32) ((((([Value.double 0, .double 0, .double 0, .double 0].set 0 (.double (FP.i2d p2))).set 1 (.double (FP.i2d p3))).set 2 (.double (FP.i2d p4))).set 3 (.double (FP.i2d p5)))) (.double 0)) → (own_D vq (2 * cq) fq) → (cq ≤ 4) → (2 ≤ cq) → (cq = 2) → (n0 ≤ dd) → (dd ≠ b10) → (b1 ≠ dd) → (h0.size ≤ dd) → (∀ i, i < 2 → fq (cq + i) = (if (¬ ds = 0 ∧ jj < 2 ∧ i = pl) then (FP.i2d p6) else (own_dk (FP.i2d p2) (FP.i2d p3) (FP.i2d p4) (FP.i2d p5)) i)) → own_Go p e below F T118 (mkF m 153 #[.val (.int p1), .val (.int p2), .val (.int p3), .val (.int p4), .val (.int p5), .val (.int p6), .val (.int (Int32.ofNat (3 + 1))), .val (.int ds), .val (.int (Int32.ofNat jj)), .val (.int (Int32.ofNat pl)), .val (.ref b1), .val (.double (FP.i2d p6)), .second, .val (.ref b10), .unset] []) := by
          intro T118 L118 h118 dd kd vq fq cq X118 e118 N118 Z118 K118 Ee FlargestKey9 Fcapacity9 Fcount9 Vd9 Vx9 hq hcq hkq hpow g_dd hna hnx hsz hkp
          refine own_st (T' := T118) (g' := (mkF m 155 #[.val (.int p1), .val (.int p2), .val (.int p3), .val (.int p4), .val (.int p5), .val (.int p6), .val (.int (Int32.ofNat (3 + 1))), .val (.int ds), .val (.int (Int32.ofNat jj)), .val (.int (Int32.ofNat pl)), .val (.ref b1), .val (.double (FP.i2d p6)), .second, .val (.ref b10), .unset] [(.int (Int32.ofNat (3 + 1)))])) (fun t9 k9 => XS.iload X118.here hx rfl (hb hby at_153) rfl k9) ?_
          refine own_st (T' := T118) (g' := (mkF m 156 #[.val (.int p1), .val (.int p2), .val (.int p3), .val (.int p4), .val (.int p5), .val (.int p6), .val (.int (Int32.ofNat (3 + 1))), .val (.int ds), .val (.int (Int32.ofNat jj)), .val (.int (Int32.ofNat pl)), .val (.ref b1), .val (.double (FP.i2d p6)), .second, .val (.ref b10), .unset] [(.int (2 : Int32)), (.int (Int32.ofNat (3 + 1)))])) (fun t9 k9 => XS.iconst X118.here hx rfl (hb hby at_155) k9) ?_
          refine own_st (T' := T118) (g' := (mkF m 159 #[.val (.int p1), .val (.int p2), .val (.int p3), .val (.int p4), .val (.int p5), .val (.int p6), .val (.int (Int32.ofNat (3 + 1))), .val (.int ds), .val (.int (Int32.ofNat jj)), .val (.int (Int32.ofNat pl)), .val (.ref b1), .val (.double (FP.i2d p6)), .second, .val (.ref b10), .unset] [])) (fun t9 k9 => XS.icmpNo X118.here hx rfl (hb hby at_156) rfl (tlt (own_lt (i := 2) (by omega) (by omega))).2.2.2 k9) ?_
          have js3 : ∀ (T119 : State) (L119 : List Loc) (h119 : Heap) (dd : Addr) (kd : ClassId) (vq : List Value) (fq : Nat → UInt64) (cq : Nat), Stand p l e room_1 s m #[(.int p1), (.int p2), (.int p3), (.int p4), (.int p5), (.int p6)] below meth c T119 L119 (((((0 + 1 + 1 + 1) + 2) + 2) + 2)) (((((0 + 4 + 3 + 2) + 10) + 10) + 10)) → T119.heap = h119 → Fr n0 L119 → (n0 ≤ h119.size) → (Keep h0 h119 []) → (Exa Z h119 b10 "com/example/shelfwright/shelfwright/packers/FirstFit") → (Fld Z h119 b10 "com/example/shelfwright/shelfwright/packers/FirstFit" "largestKey" "[D" (.ref dd)) → (Fld Z h119 b10 "com/example/shelfwright/shelfwright/packers/FirstFit" "capacity" "I" (.int (Int32.ofNat cq))) → (Fld Z h119 b10 "com/example/shelfwright/shelfwright/packers/FirstFit" "count" "I" (.int (Int32.ofNat 3))) → (Arv Z h119 dd kd .double (Int32.ofNat (2 * cq)) vq (.double 0)) → (Arv Z h119 b1 k1 .double (4 : Int32) ((((([Value.double 0, .double 0, .double 0, .double 0].set 0 (.double (FP.i2d p2))).set 1 (.double (FP.i2d p3))).set 2 (.double (FP.i2d p4))).set 3 (.double (FP.i2d p5)))) (.double 0)) → (own_D vq (2 * cq) fq) → (cq ≤ 4) → (3 ≤ cq) → (cq = 4) → (n0 ≤ dd) → (dd ≠ b10) → (b1 ≠ dd) → (h0.size ≤ dd) → (∀ i, i < 3 → fq (cq + i) = (if (¬ ds = 0 ∧ jj < 3 ∧ i = pl) then (FP.i2d p6) else (own_dk (FP.i2d p2) (FP.i2d p3) (FP.i2d p4) (FP.i2d p5)) i)) → own_Go p e below F T119 (mkF m 189 #[.val (.int p1), .val (.int p2), .val (.int p3), .val (.int p4), .val (.int p5), .val (.int p6), .val (.int (Int32.ofNat (3 + 1))), .val (.int ds), .val (.int (Int32.ofNat jj)), .val (.int (Int32.ofNat pl)), .val (.ref b1), .val (.double (FP.i2d p6)), .second, .val (.ref b10), .unset] []) := by
            intro T119 L119 h119 dd kd vq fq cq X119 e119 N119 Z119 K119 Ee FlargestKey9 Fcapacity9 Fcount9 Vd9 Vx9 hq hcq hkq hpow g_dd hna hnx hsz hkp
            refine own_st (T' := T119) (g' := (mkF m 191 #[.val (.int p1), .val (.int p2), .val (.int p3), .val (.int p4), .val (.int p5), .val (.int p6), .val (.int (Int32.ofNat (3 + 1))), .val (.int ds), .val (.int (Int32.ofNat jj)), .val (.int (Int32.ofNat pl)), .val (.ref b1), .val (.double (FP.i2d p6)), .second, .val (.ref b10), .unset] [(.int (Int32.ofNat (3 + 1)))])) (fun t9 k9 => XS.iload X119.here hx rfl (hb hby at_189) rfl k9) ?_
            refine own_st (T' := T119) (g' := (mkF m 192 #[.val (.int p1), .val (.int p2), .val (.int p3), .val (.int p4), .val (.int p5), .val (.int p6), .val (.int (Int32.ofNat (3 + 1))), .val (.int ds), .val (.int (Int32.ofNat jj)), .val (.int (Int32.ofNat pl)), .val (.ref b1), .val (.double (FP.i2d p6)), .second, .val (.ref b10), .unset] [(.int (3 : Int32)), (.int (Int32.ofNat (3 + 1)))])) (fun t9 k9 => XS.iconst X119.here hx rfl (hb hby at_191) k9) ?_
            refine own_st (T' := T119) (g' := (mkF m 195 #[.val (.int p1), .val (.int p2), .val (.int p3), .val (.int p4), .val (.int p5), .val (.int p6), .val (.int (Int32.ofNat (3 + 1))), .val (.int ds), .val (.int (Int32.ofNat jj)), .val (.int (Int32.ofNat pl)), .val (.ref b1), .val (.double (FP.i2d p6)), .second, .val (.ref b10), .unset] [])) (fun t9 k9 => XS.icmpNo X119.here hx rfl (hb hby at_192) rfl (tlt (own_lt (i := 3) (by omega) (by omega))).2.2.2 k9) ?_
            have js4 : ∀ (T120 : State) (L120 : List Loc) (h120 : Heap) (dd : Addr) (kd : ClassId) (vq : List Value) (fq : Nat → UInt64) (cq : Nat), Stand p l e room_1 s m #[(.int p1), (.int p2), (.int p3), (.int p4), (.int p5), (.int p6)] below meth c T120 L120 ((((((0 + 1 + 1 + 1) + 2) + 2) + 2) + 2)) ((((((0 + 4 + 3 + 2) + 10) + 10) + 10) + 10)) → T120.heap = h120 → Fr n0 L120 → (n0 ≤ h120.size) → (Keep h0 h120 []) → (Exa Z h120 b10 "com/example/shelfwright/shelfwright/packers/FirstFit") → (Fld Z h120 b10 "com/example/shelfwright/shelfwright/packers/FirstFit" "largestKey" "[D" (.ref dd)) → (Fld Z h120 b10 "com/example/shelfwright/shelfwright/packers/FirstFit" "capacity" "I" (.int (Int32.ofNat cq))) → (Fld Z h120 b10 "com/example/shelfwright/shelfwright/packers/FirstFit" "count" "I" (.int (Int32.ofNat 4))) → (Arv Z h120 dd kd .double (Int32.ofNat (2 * cq)) vq (.double 0)) → (Arv Z h120 b1 k1 .double (4 : Int32) ((((([Value.double 0, .double 0, .double 0, .double 0].set 0 (.double (FP.i2d p2))).set 1 (.double (FP.i2d p3))).set 2 (.double (FP.i2d p4))).set 3 (.double (FP.i2d p5)))) (.double 0)) → (own_D vq (2 * cq) fq) → (cq ≤ 4) → (4 ≤ cq) → (cq = 4) → (n0 ≤ dd) → (dd ≠ b10) → (b1 ≠ dd) → (h0.size ≤ dd) → (∀ i, i < 4 → fq (cq + i) = (if (¬ ds = 0 ∧ jj < 4 ∧ i = pl) then (FP.i2d p6) else (own_dk (FP.i2d p2) (FP.i2d p3) (FP.i2d p4) (FP.i2d p5)) i)) → own_Go p e below F T120 (mkF m 225 #[.val (.int p1), .val (.int p2), .val (.int p3), .val (.int p4), .val (.int p5), .val (.int p6), .val (.int (Int32.ofNat (3 + 1))), .val (.int ds), .val (.int (Int32.ofNat jj)), .val (.int (Int32.ofNat pl)), .val (.ref b1), .val (.double (FP.i2d p6)), .second, .val (.ref b10), .unset] []) := by
              intro T120 L120 h120 dd kd vq fq cq X120 e120 N120 Z120 K120 Ee FlargestKey9 Fcapacity9 Fcount9 Vd9 Vx9 hq hcq hkq hpow g_dd hna hnx hsz hkp
              refine own_st (T' := T120) (g' := (mkF m 227 #[.val (.int p1), .val (.int p2), .val (.int p3), .val (.int p4), .val (.int p5), .val (.int p6), .val (.int (Int32.ofNat (3 + 1))), .val (.int ds), .val (.int (Int32.ofNat jj)), .val (.int (Int32.ofNat pl)), .val (.ref b1), .val (.double (FP.i2d p6)), .second, .val (.ref b10), .unset] [(.int ds)])) (fun t9 k9 => XS.iload X120.here hx rfl (hb hby at_225) rfl k9) ?_
              have jk : ∀ (T121 : State) (L121 : List Loc) (h121 : Heap) (vx : List Value), Stand p l e room_1 s m #[(.int p1), (.int p2), (.int p3), (.int p4), (.int p5), (.int p6)] below meth c T121 L121 ((((((0 + 1 + 1 + 1) + 2) + 2) + 2) + 2)) ((((((0 + 4 + 3 + 2) + 10) + 10) + 10) + 10)) → T121.heap = h121 → Fr n0 L121 → (n0 ≤ h121.size) → (Keep h0 h121 []) → (Exa Z h121 b10 "com/example/shelfwright/shelfwright/packers/FirstFit") → (Fld Z h121 b10 "com/example/shelfwright/shelfwright/packers/FirstFit" "largestKey" "[D" (.ref dd)) → (Fld Z h121 b10 "com/example/shelfwright/shelfwright/packers/FirstFit" "capacity" "I" (.int (Int32.ofNat cq))) → (Fld Z h121 b10 "com/example/shelfwright/shelfwright/packers/FirstFit" "count" "I" (.int (Int32.ofNat 4))) → (Arv Z h121 dd kd .double (Int32.ofNat (2 * cq)) vq (.double 0)) → (Arv Z h121 b1 k1 .double (4 : Int32) vx (.double 0)) → (own_D vx 4 (fun i => if (¬ ds = 0 ∧ jj < 4 ∧ i = pl) then (FP.i2d p6) else (own_dk (FP.i2d p2) (FP.i2d p3) (FP.i2d p4) (FP.i2d p5)) i)) → own_Go p e below F T121 (mkF m 237 #[.val (.int p1), .val (.int p2), .val (.int p3), .val (.int p4), .val (.int p5), .val (.int p6), .val (.int (Int32.ofNat (3 + 1))), .val (.int ds), .val (.int (Int32.ofNat jj)), .val (.int (Int32.ofNat pl)), .val (.ref b1), .val (.double (FP.i2d p6)), .second, .val (.ref b10), .unset] []) := by
                intro T121 L121 h121 vx X121 e121 N121 Z121 K121 Eex FlargestKey9x Fcapacity9x Fcount9x Vd9x Vx9x hx4
                refine own_st (T' := T121) (g' := (mkF m 239 #[.val (.int p1), .val (.int p2), .val (.int p3), .val (.int p4), .val (.int p5), .val (.int p6), .val (.int (Int32.ofNat (3 + 1))), .val (.int ds), .val (.int (Int32.ofNat jj)), .val (.int (Int32.ofNat pl)), .val (.ref b1), .val (.double (FP.i2d p6)), .second, .val (.ref b10), .unset] [(.ref b10)])) (fun t9 k9 => XS.aload X121.here hx rfl (hb hby at_237) rfl rfl k9) ?_
                refine own_st (T' := T121) (g' := (mkF m 240 #[.val (.int p1), .val (.int p2), .val (.int p3), .val (.int p4), .val (.int p5), .val (.int p6), .val (.int (Int32.ofNat (3 + 1))), .val (.int ds), .val (.int (Int32.ofNat jj)), .val (.int (Int32.ofNat pl)), .val (.ref b1), .val (.double (FP.i2d p6)), .second, .val (.ref b10), .unset] [(.int (0 : Int32)), (.ref b10)])) (fun t9 k9 => XS.iconst X121.here hx rfl (hb hby at_239) k9) ?_
                obtain ⟨cq122, kq122, qa122, qb122, qc122⟩ := isOf hZ e121 Eex
                obtain ⟨_, _, ⟨T122, L122, k122, n122⟩, -, X122, ⟨Lc122, hQ122, l122, y122, z122⟩, st122⟩ := X121.virtualBack hx (y := (⟨"com/example/shelfwright/shelfwright/packers/FirstFit", "key", "(I)D"⟩ : MethodName)) (z := (⟨"com/example/shelfwright/shelfwright/packers/FirstFit", "key", "(I)D"⟩ : MethodName)) hown (mvT hZ (hw _ (List.mem_of_getElem? (i := 27) rfl))) (mvT hZ (hw _ (List.mem_of_getElem? (i := 28) rfl))) (notFace_of_selects (args := #[]) (mvT hZ (hw _ (List.mem_of_getElem? (i := 30) rfl)))) (mvT hZ (hw _ (List.mem_of_getElem? (i := 30) rfl))) (mvT hZ (hw _ (List.mem_of_getElem? (i := 29) rfl))) (by decide) (own_back (W := 0) (rm5 l Z a0 hw b10 dd kd vq fq cq 0 h121 n0 Z121 FlargestKey9x Fcapacity9x Vd9x hq hcq (by omega)) hZ (hw _ (List.mem_of_getElem? (i := 31) rfl)) (hw _ (List.mem_of_getElem? (i := 3) rfl)) (by decide) (by decide)) qa122 qc122 (g := (mkF m 240 #[.val (.int p1), .val (.int p2), .val (.int p3), .val (.int p4), .val (.int p5), .val (.int p6), .val (.int (Int32.ofNat (3 + 1))), .val (.int ds), .val (.int (Int32.ofNat jj)), .val (.int (Int32.ofNat pl)), .val (.ref b1), .val (.double (FP.i2d p6)), .second, .val (.ref b10), .unset] [(.int (0 : Int32)), (.ref b10)])) rfl (by rw [hml]; rfl) (Steps.refl _) (argsL := [(.int (0 : Int32))]) (rest := []) (lenOf pd_3 rfl) rfl (by show 2 * 0 + _ ≤ _; exact Nat.le_of_eq rfl) (hb hby at_240) (fun _ _ => ⟨rfl, e121, (Nat.le_of_ble_eq_true rfl), (Nat.le_of_ble_eq_true rfl)⟩)
                dsimp only [Pt.U, Pt.locs, Pt.cells, Pt.slots] at X122 l122 y122 z122 st122 hQ122
                subst l122 y122 z122
                obtain ⟨rfl, Nq122, he122⟩ := hQ122
                have N122 := Fr.app N121 Nq122
                have e122 : T122.heap = h121 := he122
                refine own_st (T' := T122) (g' := (mkF m 243 #[.val (.int p1), .val (.int p2), .val (.int p3), .val (.int p4), .val (.int p5), .val (.int p6), .val (.int (Int32.ofNat (3 + 1))), .val (.int ds), .val (.int (Int32.ofNat jj)), .val (.int (Int32.ofNat pl)), .val (.ref b1), .val (.double (FP.i2d p6)), .second, .val (.ref b10), .unset] [(.double (fq (cq + 0)))])) (fun t9 k9 => st122.trans k9) ?_
                refine own_st (T' := T122) (g' := (mkF m 245 #[.val (.int p1), .val (.int p2), .val (.int p3), .val (.int p4), .val (.int p5), .val (.int p6), .val (.int (Int32.ofNat (3 + 1))), .val (.int ds), .val (.int (Int32.ofNat jj)), .val (.int (Int32.ofNat pl)), .val (.ref b1), .val (.double (FP.i2d p6)), .second, .val (.ref b10), .unset] [(.ref b1), (.double (fq (cq + 0)))])) (fun t9 k9 => XS.aload X122.here hx rfl (hb hby at_243) rfl rfl k9) ?_
                refine own_st (T' := T122) (g' := (mkF m 246 #[.val (.int p1), .val (.int p2), .val (.int p3), .val (.int p4), .val (.int p5), .val (.int p6), .val (.int (Int32.ofNat (3 + 1))), .val (.int ds), .val (.int (Int32.ofNat jj)), .val (.int (Int32.ofNat pl)), .val (.ref b1), .val (.double (FP.i2d p6)), .second, .val (.ref b10), .unset] [(.int (0 : Int32)), (.ref b1), (.double (fq (cq + 0)))])) (fun t9 k9 => XS.iconst X122.here hx rfl (hb hby at_245) k9) ?_
                obtain ⟨clu123, Aru123, qu123, Su123, Nu123, Hu123, Gu123⟩ := (id Vx9x)
                have hinu123 := inb_of Su123 (j := (0 : Int32)) ⟨by decide, by decide⟩
                refine own_st (T' := T122) (g' := (mkF m 247 #[.val (.int p1), .val (.int p2), .val (.int p3), .val (.int p4), .val (.int p5), .val (.int p6), .val (.int (Int32.ofNat (3 + 1))), .val (.int ds), .val (.int (Int32.ofNat jj)), .val (.int (Int32.ofNat pl)), .val (.ref b1), .val (.double (FP.i2d p6)), .second, .val (.ref b10), .unset] [(.double ((fun i => if (¬ ds = 0 ∧ jj < 4 ∧ i = pl) then (FP.i2d p6) else (own_dk (FP.i2d p2) (FP.i2d p3) (FP.i2d p4) (FP.i2d p5)) i) 0)), (.double (fq (cq + 0)))])) (fun t9 k9 => X122.daload hx (j := (0 : Int32)) (v := (.double ((fun i => if (¬ ds = 0 ∧ jj < 4 ∧ i = pl) then (FP.i2d p6) else (own_dk (FP.i2d p2) (FP.i2d p3) (FP.i2d p4) (FP.i2d p5)) i) 0))) (by rw [e122]; exact Aru123.1) (State.isArrayOf_alike hZ.alike Aru123.2.1) Aru123.2.2 hinu123 (Hu123.at hinu123 (hx4.2 0 (by decide)).1) (g := (mkF m 246 #[.val (.int p1), .val (.int p2), .val (.int p3), .val (.int p4), .val (.int p5), .val (.int p6), .val (.int (Int32.ofNat (3 + 1))), .val (.int ds), .val (.int (Int32.ofNat jj)), .val (.int (Int32.ofNat pl)), .val (.ref b1), .val (.double (FP.i2d p6)), .second, .val (.ref b10), .unset] [(.int (0 : Int32)), (.ref b1), (.double (fq (cq + 0)))])) rfl rfl (hb hby at_246) t9 k9) ?_
                refine own_st (T' := T122) (g' := (mkF m 248 #[.val (.int p1), .val (.int p2), .val (.int p3), .val (.int p4), .val (.int p5), .val (.int p6), .val (.int (Int32.ofNat (3 + 1))), .val (.int ds), .val (.int (Int32.ofNat jj)), .val (.int (Int32.ofNat pl)), .val (.ref b1), .val (.double (FP.i2d p6)), .second, .val (.ref b10), .unset] [(.int (cmpValue (FP.dcmp (fq (cq + 0)) ((fun i => if (¬ ds = 0 ∧ jj < 4 ∧ i = pl) then (FP.i2d p6) else (own_dk (FP.i2d p2) (FP.i2d p3) (FP.i2d p4) (FP.i2d p5)) i) 0)) .l))])) (fun t9 k9 => XS.dcmpS X122.here hx rfl (hb hby at_247) rfl rfl k9) ?_
                refine own_st (T' := T122) (g' := (mkF m 251 #[.val (.int p1), .val (.int p2), .val (.int p3), .val (.int p4), .val (.int p5), .val (.int p6), .val (.int (Int32.ofNat (3 + 1))), .val (.int ds), .val (.int (Int32.ofNat jj)), .val (.int (Int32.ofNat pl)), .val (.ref b1), .val (.double (FP.i2d p6)), .second, .val (.ref b10), .unset] [])) (fun t9 k9 => XS.ifNo X122.here hx rfl (hb hby at_248) rfl ((if0 _ _).trans (teq (dcmpV_eq (hkp 0 (by decide)) (hkp 0 (by decide) ▸ (hx4.2 0 (by decide)).2) _)).2) k9) ?_
                refine own_st (T' := T122) (g' := (mkF m 252 #[.val (.int p1), .val (.int p2), .val (.int p3), .val (.int p4), .val (.int p5), .val (.int p6), .val (.int (Int32.ofNat (3 + 1))), .val (.int ds), .val (.int (Int32.ofNat jj)), .val (.int (Int32.ofNat pl)), .val (.ref b1), .val (.double (FP.i2d p6)), .second, .val (.ref b10), .unset] [(.int (1 : Int32))])) (fun t9 k9 => XS.iconst X122.here hx rfl (hb hby at_251) k9) ?_
                refine own_st (T' := T122) (g' := (mkF m 256 #[.val (.int p1), .val (.int p2), .val (.int p3), .val (.int p4), .val (.int p5), .val (.int p6), .val (.int (Int32.ofNat (3 + 1))), .val (.int ds), .val (.int (Int32.ofNat jj)), .val (.int (Int32.ofNat pl)), .val (.ref b1), .val (.double (FP.i2d p6)), .second, .val (.ref b10), .unset] [(.int (1 : Int32))])) (fun t9 k9 => XS.goto X122.here hx rfl (pc0 := 252) (pc' := 256) rfl (hb hby at_252) (by decide) (by decide) k9) ?_
                refine own_st (T' := T122) (g' := (mkF m 258 #[.val (.int p1), .val (.int p2), .val (.int p3), .val (.int p4), .val (.int p5), .val (.int p6), .val (.int (Int32.ofNat (3 + 1))), .val (.int ds), .val (.int (Int32.ofNat jj)), .val (.int (Int32.ofNat pl)), .val (.ref b1), .val (.double (FP.i2d p6)), .second, .val (.ref b10), .val (.int (1 : Int32))] [])) (fun t9 k9 => XS.istore X122.here hx rfl (hb hby at_256) rfl (l' := #[.val (.int p1), .val (.int p2), .val (.int p3), .val (.int p4), .val (.int p5), .val (.int p6), .val (.int (Int32.ofNat (3 + 1))), .val (.int ds), .val (.int (Int32.ofNat jj)), .val (.int (Int32.ofNat pl)), .val (.ref b1), .val (.double (FP.i2d p6)), .second, .val (.ref b10), .val (.int (1 : Int32))]) rfl k9) ?_
                refine own_st (T' := T122) (g' := (mkF m 260 #[.val (.int p1), .val (.int p2), .val (.int p3), .val (.int p4), .val (.int p5), .val (.int p6), .val (.int (Int32.ofNat (3 + 1))), .val (.int ds), .val (.int (Int32.ofNat jj)), .val (.int (Int32.ofNat pl)), .val (.ref b1), .val (.double (FP.i2d p6)), .second, .val (.ref b10), .val (.int (1 : Int32))] [(.int (Int32.ofNat (3 + 1)))])) (fun t9 k9 => XS.iload X122.here hx rfl (hb hby at_258) rfl k9) ?_
                refine own_st (T' := T122) (g' := (mkF m 261 #[.val (.int p1), .val (.int p2), .val (.int p3), .val (.int p4), .val (.int p5), .val (.int p6), .val (.int (Int32.ofNat (3 + 1))), .val (.int ds), .val (.int (Int32.ofNat jj)), .val (.int (Int32.ofNat pl)), .val (.ref b1), .val (.double (FP.i2d p6)), .second, .val (.ref b10), .val (.int (1 : Int32))] [(.int (1 : Int32)), (.int (Int32.ofNat (3 + 1)))])) (fun t9 k9 => XS.iconst X122.here hx rfl (hb hby at_260) k9) ?_
                refine own_st (T' := T122) (g' := (mkF m 264 #[.val (.int p1), .val (.int p2), .val (.int p3), .val (.int p4), .val (.int p5), .val (.int p6), .val (.int (Int32.ofNat (3 + 1))), .val (.int ds), .val (.int (Int32.ofNat jj)), .val (.int (Int32.ofNat pl)), .val (.ref b1), .val (.double (FP.i2d p6)), .second, .val (.ref b10), .val (.int (1 : Int32))] [])) (fun t9 k9 => XS.icmpNo X122.here hx rfl (hb hby at_261) rfl (tlt (own_lt (i := 1) (by omega) (by omega))).2.2.2 k9) ?_
                refine own_st (T' := T122) (g' := (mkF m 266 #[.val (.int p1), .val (.int p2), .val (.int p3), .val (.int p4), .val (.int p5), .val (.int p6), .val (.int (Int32.ofNat (3 + 1))), .val (.int ds), .val (.int (Int32.ofNat jj)), .val (.int (Int32.ofNat pl)), .val (.ref b1), .val (.double (FP.i2d p6)), .second, .val (.ref b10), .val (.int (1 : Int32))] [(.int (1 : Int32))])) (fun t9 k9 => XS.iload X122.here hx rfl (hb hby at_264) rfl k9) ?_
                refine own_st (T' := T122) (g' := (mkF m 269 #[.val (.int p1), .val (.int p2), .val (.int p3), .val (.int p4), .val (.int p5), .val (.int p6), .val (.int (Int32.ofNat (3 + 1))), .val (.int ds), .val (.int (Int32.ofNat jj)), .val (.int (Int32.ofNat pl)), .val (.ref b1), .val (.double (FP.i2d p6)), .second, .val (.ref b10), .val (.int (1 : Int32))] [])) (fun t9 k9 => XS.ifNo X122.here hx rfl (hb hby at_266) rfl ((if0 _ _).trans (feq (by decide)).1) k9) ?_
                refine own_st (T' := T122) (g' := (mkF m 271 #[.val (.int p1), .val (.int p2), .val (.int p3), .val (.int p4), .val (.int p5), .val (.int p6), .val (.int (Int32.ofNat (3 + 1))), .val (.int ds), .val (.int (Int32.ofNat jj)), .val (.int (Int32.ofNat pl)), .val (.ref b1), .val (.double (FP.i2d p6)), .second, .val (.ref b10), .val (.int (1 : Int32))] [(.ref b10)])) (fun t9 k9 => XS.aload X122.here hx rfl (hb hby at_269) rfl rfl k9) ?_
                refine own_st (T' := T122) (g' := (mkF m 272 #[.val (.int p1), .val (.int p2), .val (.int p3), .val (.int p4), .val (.int p5), .val (.int p6), .val (.int (Int32.ofNat (3 + 1))), .val (.int ds), .val (.int (Int32.ofNat jj)), .val (.int (Int32.ofNat pl)), .val (.ref b1), .val (.double (FP.i2d p6)), .second, .val (.ref b10), .val (.int (1 : Int32))] [(.int (1 : Int32)), (.ref b10)])) (fun t9 k9 => XS.iconst X122.here hx rfl (hb hby at_271) k9) ?_
                obtain ⟨cq124, kq124, qa124, qb124, qc124⟩ := isOf hZ e122 Eex
                obtain ⟨_, _, ⟨T124, L124, k124, n124⟩, -, X124, ⟨Lc124, hQ124, l124, y124, z124⟩, st124⟩ := X122.virtualBack hx (y := (⟨"com/example/shelfwright/shelfwright/packers/FirstFit", "key", "(I)D"⟩ : MethodName)) (z := (⟨"com/example/shelfwright/shelfwright/packers/FirstFit", "key", "(I)D"⟩ : MethodName)) hown (mvT hZ (hw _ (List.mem_of_getElem? (i := 27) rfl))) (mvT hZ (hw _ (List.mem_of_getElem? (i := 28) rfl))) (notFace_of_selects (args := #[]) (mvT hZ (hw _ (List.mem_of_getElem? (i := 30) rfl)))) (mvT hZ (hw _ (List.mem_of_getElem? (i := 30) rfl))) (mvT hZ (hw _ (List.mem_of_getElem? (i := 29) rfl))) (by decide) (own_back (W := 0) (rm5 l Z a0 hw b10 dd kd vq fq cq 1 h121 n0 Z121 FlargestKey9x Fcapacity9x Vd9x hq hcq (by omega)) hZ (hw _ (List.mem_of_getElem? (i := 31) rfl)) (hw _ (List.mem_of_getElem? (i := 3) rfl)) (by decide) (by decide)) qa124 qc124 (g := (mkF m 272 #[.val (.int p1), .val (.int p2), .val (.int p3), .val (.int p4), .val (.int p5), .val (.int p6), .val (.int (Int32.ofNat (3 + 1))), .val (.int ds), .val (.int (Int32.ofNat jj)), .val (.int (Int32.ofNat pl)), .val (.ref b1), .val (.double (FP.i2d p6)), .second, .val (.ref b10), .val (.int (1 : Int32))] [(.int (1 : Int32)), (.ref b10)])) rfl (by rw [hml]; rfl) (Steps.refl _) (argsL := [(.int (1 : Int32))]) (rest := []) (lenOf pd_3 rfl) rfl (by show 2 * 0 + _ ≤ _; exact Nat.le_of_eq rfl) (hb hby at_272) (fun _ _ => ⟨rfl, e122, (Nat.le_of_ble_eq_true rfl), (Nat.le_of_ble_eq_true rfl)⟩)
                dsimp only [Pt.U, Pt.locs, Pt.cells, Pt.slots] at X124 l124 y124 z124 st124 hQ124
                subst l124 y124 z124
                obtain ⟨rfl, Nq124, he124⟩ := hQ124
                have N124 := Fr.app N122 Nq124
                have e124 : T124.heap = h121 := he124
                refine own_st (T' := T124) (g' := (mkF m 275 #[.val (.int p1), .val (.int p2), .val (.int p3), .val (.int p4), .val (.int p5), .val (.int p6), .val (.int (Int32.ofNat (3 + 1))), .val (.int ds), .val (.int (Int32.ofNat jj)), .val (.int (Int32.ofNat pl)), .val (.ref b1), .val (.double (FP.i2d p6)), .second, .val (.ref b10), .val (.int (1 : Int32))] [(.double (fq (cq + 1)))])) (fun t9 k9 => st124.trans k9) ?_
                refine own_st (T' := T124) (g' := (mkF m 277 #[.val (.int p1), .val (.int p2), .val (.int p3), .val (.int p4), .val (.int p5), .val (.int p6), .val (.int (Int32.ofNat (3 + 1))), .val (.int ds), .val (.int (Int32.ofNat jj)), .val (.int (Int32.ofNat pl)), .val (.ref b1), .val (.double (FP.i2d p6)), .second, .val (.ref b10), .val (.int (1 : Int32))] [(.ref b1), (.double (fq (cq + 1)))])) (fun t9 k9 => XS.aload X124.here hx rfl (hb hby at_275) rfl rfl k9) ?_
                refine own_st (T' := T124) (g' := (mkF m 278 #[.val (.int p1), .val (.int p2), .val (.int p3), .val (.int p4), .val (.int p5), .val (.int p6), .val (.int (Int32.ofNat (3 + 1))), .val (.int ds), .val (.int (Int32.ofNat jj)), .val (.int (Int32.ofNat pl)), .val (.ref b1), .val (.double (FP.i2d p6)), .second, .val (.ref b10), .val (.int (1 : Int32))] [(.int (1 : Int32)), (.ref b1), (.double (fq (cq + 1)))])) (fun t9 k9 => XS.iconst X124.here hx rfl (hb hby at_277) k9) ?_
                obtain ⟨clu125, Aru125, qu125, Su125, Nu125, Hu125, Gu125⟩ := (id Vx9x)
                have hinu125 := inb_of Su125 (j := (1 : Int32)) ⟨by decide, by decide⟩
                refine own_st (T' := T124) (g' := (mkF m 279 #[.val (.int p1), .val (.int p2), .val (.int p3), .val (.int p4), .val (.int p5), .val (.int p6), .val (.int (Int32.ofNat (3 + 1))), .val (.int ds), .val (.int (Int32.ofNat jj)), .val (.int (Int32.ofNat pl)), .val (.ref b1), .val (.double (FP.i2d p6)), .second, .val (.ref b10), .val (.int (1 : Int32))] [(.double ((fun i => if (¬ ds = 0 ∧ jj < 4 ∧ i = pl) then (FP.i2d p6) else (own_dk (FP.i2d p2) (FP.i2d p3) (FP.i2d p4) (FP.i2d p5)) i) 1)), (.double (fq (cq + 1)))])) (fun t9 k9 => X124.daload hx (j := (1 : Int32)) (v := (.double ((fun i => if (¬ ds = 0 ∧ jj < 4 ∧ i = pl) then (FP.i2d p6) else (own_dk (FP.i2d p2) (FP.i2d p3) (FP.i2d p4) (FP.i2d p5)) i) 1))) (by rw [e124]; exact Aru125.1) (State.isArrayOf_alike hZ.alike Aru125.2.1) Aru125.2.2 hinu125 (Hu125.at hinu125 (hx4.2 1 (by decide)).1) (g := (mkF m 278 #[.val (.int p1), .val (.int p2), .val (.int p3), .val (.int p4), .val (.int p5), .val (.int p6), .val (.int (Int32.ofNat (3 + 1))), .val (.int ds), .val (.int (Int32.ofNat jj)), .val (.int (Int32.ofNat pl)), .val (.ref b1), .val (.double (FP.i2d p6)), .second, .val (.ref b10), .val (.int (1 : Int32))] [(.int (1 : Int32)), (.ref b1), (.double (fq (cq + 1)))])) rfl rfl (hb hby at_278) t9 k9) ?_
                refine own_st (T' := T124) (g' := (mkF m 280 #[.val (.int p1), .val (.int p2), .val (.int p3), .val (.int p4), .val (.int p5), .val (.int p6), .val (.int (Int32.ofNat (3 + 1))), .val (.int ds), .val (.int (Int32.ofNat jj)), .val (.int (Int32.ofNat pl)), .val (.ref b1), .val (.double (FP.i2d p6)), .second, .val (.ref b10), .val (.int (1 : Int32))] [(.int (cmpValue (FP.dcmp (fq (cq + 1)) ((fun i => if (¬ ds = 0 ∧ jj < 4 ∧ i = pl) then (FP.i2d p6) else (own_dk (FP.i2d p2) (FP.i2d p3) (FP.i2d p4) (FP.i2d p5)) i) 1)) .l))])) (fun t9 k9 => XS.dcmpS X124.here hx rfl (hb hby at_279) rfl rfl k9) ?_
                refine own_st (T' := T124) (g' := (mkF m 283 #[.val (.int p1), .val (.int p2), .val (.int p3), .val (.int p4), .val (.int p5), .val (.int p6), .val (.int (Int32.ofNat (3 + 1))), .val (.int ds), .val (.int (Int32.ofNat jj)), .val (.int (Int32.ofNat pl)), .val (.ref b1), .val (.double (FP.i2d p6)), .second, .val (.ref b10), .val (.int (1 : Int32))] [])) (fun t9 k9 => XS.ifNo X124.here hx rfl (hb hby at_280) rfl ((if0 _ _).trans (teq (dcmpV_eq (hkp 1 (by decide)) (hkp 1 (by decide) ▸ (hx4.2 1 (by decide)).2) _)).2) k9) ?_
                refine own_st (T' := T124) (g' := (mkF m 284 #[.val (.int p1), .val (.int p2), .val (.int p3), .val (.int p4), .val (.int p5), .val (.int p6), .val (.int (Int32.ofNat (3 + 1))), .val (.int ds), .val (.int (Int32.ofNat jj)), .val (.int (Int32.ofNat pl)), .val (.ref b1), .val (.double (FP.i2d p6)), .second, .val (.ref b10), .val (.int (1 : Int32))] [(.int (1 : Int32))])) (fun t9 k9 => XS.iconst X124.here hx rfl (hb hby at_283) k9) ?_
                refine own_st (T' := T124) (g' := (mkF m 288 #[.val (.int p1), .val (.int p2), .val (.int p3), .val (.int p4), .val (.int p5), .val (.int p6), .val (.int (Int32.ofNat (3 + 1))), .val (.int ds), .val (.int (Int32.ofNat jj)), .val (.int (Int32.ofNat pl)), .val (.ref b1), .val (.double (FP.i2d p6)), .second, .val (.ref b10), .val (.int (1 : Int32))] [(.int (1 : Int32))])) (fun t9 k9 => XS.goto X124.here hx rfl (pc0 := 284) (pc' := 288) rfl (hb hby at_284) (by decide) (by decide) k9) ?_
                refine own_st (T' := T124) (g' := (mkF m 290 #[.val (.int p1), .val (.int p2), .val (.int p3), .val (.int p4), .val (.int p5), .val (.int p6), .val (.int (Int32.ofNat (3 + 1))), .val (.int ds), .val (.int (Int32.ofNat jj)), .val (.int (Int32.ofNat pl)), .val (.ref b1), .val (.double (FP.i2d p6)), .second, .val (.ref b10), .val (.int (1 : Int32))] [])) (fun t9 k9 => XS.istore X124.here hx rfl (hb hby at_288) rfl (l' := #[.val (.int p1), .val (.int p2), .val (.int p3), .val (.int p4), .val (.int p5), .val (.int p6), .val (.int (Int32.ofNat (3 + 1))), .val (.int ds), .val (.int (Int32.ofNat jj)), .val (.int (Int32.ofNat pl)), .val (.ref b1), .val (.double (FP.i2d p6)), .second, .val (.ref b10), .val (.int (1 : Int32))]) rfl k9) ?_
                refine own_st (T' := T124) (g' := (mkF m 292 #[.val (.int p1), .val (.int p2), .val (.int p3), .val (.int p4), .val (.int p5), .val (.int p6), .val (.int (Int32.ofNat (3 + 1))), .val (.int ds), .val (.int (Int32.ofNat jj)), .val (.int (Int32.ofNat pl)), .val (.ref b1), .val (.double (FP.i2d p6)), .second, .val (.ref b10), .val (.int (1 : Int32))] [(.int (Int32.ofNat (3 + 1)))])) (fun t9 k9 => XS.iload X124.here hx rfl (hb hby at_290) rfl k9) ?_
                refine own_st (T' := T124) (g' := (mkF m 293 #[.val (.int p1), .val (.int p2), .val (.int p3), .val (.int p4), .val (.int p5), .val (.int p6), .val (.int (Int32.ofNat (3 + 1))), .val (.int ds), .val (.int (Int32.ofNat jj)), .val (.int (Int32.ofNat pl)), .val (.ref b1), .val (.double (FP.i2d p6)), .second, .val (.ref b10), .val (.int (1 : Int32))] [(.int (2 : Int32)), (.int (Int32.ofNat (3 + 1)))])) (fun t9 k9 => XS.iconst X124.here hx rfl (hb hby at_292) k9) ?_
                refine own_st (T' := T124) (g' := (mkF m 296 #[.val (.int p1), .val (.int p2), .val (.int p3), .val (.int p4), .val (.int p5), .val (.int p6), .val (.int (Int32.ofNat (3 + 1))), .val (.int ds), .val (.int (Int32.ofNat jj)), .val (.int (Int32.ofNat pl)), .val (.ref b1), .val (.double (FP.i2d p6)), .second, .val (.ref b10), .val (.int (1 : Int32))] [])) (fun t9 k9 => XS.icmpNo X124.here hx rfl (hb hby at_293) rfl (tlt (own_lt (i := 2) (by omega) (by omega))).2.2.2 k9) ?_
                refine own_st (T' := T124) (g' := (mkF m 298 #[.val (.int p1), .val (.int p2), .val (.int p3), .val (.int p4), .val (.int p5), .val (.int p6), .val (.int (Int32.ofNat (3 + 1))), .val (.int ds), .val (.int (Int32.ofNat jj)), .val (.int (Int32.ofNat pl)), .val (.ref b1), .val (.double (FP.i2d p6)), .second, .val (.ref b10), .val (.int (1 : Int32))] [(.int (1 : Int32))])) (fun t9 k9 => XS.iload X124.here hx rfl (hb hby at_296) rfl k9) ?_
                refine own_st (T' := T124) (g' := (mkF m 301 #[.val (.int p1), .val (.int p2), .val (.int p3), .val (.int p4), .val (.int p5), .val (.int p6), .val (.int (Int32.ofNat (3 + 1))), .val (.int ds), .val (.int (Int32.ofNat jj)), .val (.int (Int32.ofNat pl)), .val (.ref b1), .val (.double (FP.i2d p6)), .second, .val (.ref b10), .val (.int (1 : Int32))] [])) (fun t9 k9 => XS.ifNo X124.here hx rfl (hb hby at_298) rfl ((if0 _ _).trans (feq (by decide)).1) k9) ?_
                refine own_st (T' := T124) (g' := (mkF m 303 #[.val (.int p1), .val (.int p2), .val (.int p3), .val (.int p4), .val (.int p5), .val (.int p6), .val (.int (Int32.ofNat (3 + 1))), .val (.int ds), .val (.int (Int32.ofNat jj)), .val (.int (Int32.ofNat pl)), .val (.ref b1), .val (.double (FP.i2d p6)), .second, .val (.ref b10), .val (.int (1 : Int32))] [(.ref b10)])) (fun t9 k9 => XS.aload X124.here hx rfl (hb hby at_301) rfl rfl k9) ?_
                refine own_st (T' := T124) (g' := (mkF m 304 #[.val (.int p1), .val (.int p2), .val (.int p3), .val (.int p4), .val (.int p5), .val (.int p6), .val (.int (Int32.ofNat (3 + 1))), .val (.int ds), .val (.int (Int32.ofNat jj)), .val (.int (Int32.ofNat pl)), .val (.ref b1), .val (.double (FP.i2d p6)), .second, .val (.ref b10), .val (.int (1 : Int32))] [(.int (2 : Int32)), (.ref b10)])) (fun t9 k9 => XS.iconst X124.here hx rfl (hb hby at_303) k9) ?_
                obtain ⟨cq126, kq126, qa126, qb126, qc126⟩ := isOf hZ e124 Eex
                obtain ⟨_, _, ⟨T126, L126, k126, n126⟩, -, X126, ⟨Lc126, hQ126, l126, y126, z126⟩, st126⟩ := X124.virtualBack hx (y := (⟨"com/example/shelfwright/shelfwright/packers/FirstFit", "key", "(I)D"⟩ : MethodName)) (z := (⟨"com/example/shelfwright/shelfwright/packers/FirstFit", "key", "(I)D"⟩ : MethodName)) hown (mvT hZ (hw _ (List.mem_of_getElem? (i := 27) rfl))) (mvT hZ (hw _ (List.mem_of_getElem? (i := 28) rfl))) (notFace_of_selects (args := #[]) (mvT hZ (hw _ (List.mem_of_getElem? (i := 30) rfl)))) (mvT hZ (hw _ (List.mem_of_getElem? (i := 30) rfl))) (mvT hZ (hw _ (List.mem_of_getElem? (i := 29) rfl))) (by decide) (own_back (W := 0) (rm5 l Z a0 hw b10 dd kd vq fq cq 2 h121 n0 Z121 FlargestKey9x Fcapacity9x Vd9x hq hcq (by omega)) hZ (hw _ (List.mem_of_getElem? (i := 31) rfl)) (hw _ (List.mem_of_getElem? (i := 3) rfl)) (by decide) (by decide)) qa126 qc126 (g := (mkF m 304 #[.val (.int p1), .val (.int p2), .val (.int p3), .val (.int p4), .val (.int p5), .val (.int p6), .val (.int (Int32.ofNat (3 + 1))), .val (.int ds), .val (.int (Int32.ofNat jj)), .val (.int (Int32.ofNat pl)), .val (.ref b1), .val (.double (FP.i2d p6)), .second, .val (.ref b10), .val (.int (1 : Int32))] [(.int (2 : Int32)), (.ref b10)])) rfl (by rw [hml]; rfl) (Steps.refl _) (argsL := [(.int (2 : Int32))]) (rest := []) (lenOf pd_3 rfl) rfl (by show 2 * 0 + _ ≤ _; exact Nat.le_of_eq rfl) (hb hby at_304) (fun _ _ => ⟨rfl, e124, (Nat.le_of_ble_eq_true rfl), (Nat.le_of_ble_eq_true rfl)⟩)
                dsimp only [Pt.U, Pt.locs, Pt.cells, Pt.slots] at X126 l126 y126 z126 st126 hQ126
                subst l126 y126 z126
                obtain ⟨rfl, Nq126, he126⟩ := hQ126
                have N126 := Fr.app N124 Nq126
                have e126 : T126.heap = h121 := he126
                refine own_st (T' := T126) (g' := (mkF m 307 #[.val (.int p1), .val (.int p2), .val (.int p3), .val (.int p4), .val (.int p5), .val (.int p6), .val (.int (Int32.ofNat (3 + 1))), .val (.int ds), .val (.int (Int32.ofNat jj)), .val (.int (Int32.ofNat pl)), .val (.ref b1), .val (.double (FP.i2d p6)), .second, .val (.ref b10), .val (.int (1 : Int32))] [(.double (fq (cq + 2)))])) (fun t9 k9 => st126.trans k9) ?_
                refine own_st (T' := T126) (g' := (mkF m 309 #[.val (.int p1), .val (.int p2), .val (.int p3), .val (.int p4), .val (.int p5), .val (.int p6), .val (.int (Int32.ofNat (3 + 1))), .val (.int ds), .val (.int (Int32.ofNat jj)), .val (.int (Int32.ofNat pl)), .val (.ref b1), .val (.double (FP.i2d p6)), .second, .val (.ref b10), .val (.int (1 : Int32))] [(.ref b1), (.double (fq (cq + 2)))])) (fun t9 k9 => XS.aload X126.here hx rfl (hb hby at_307) rfl rfl k9) ?_
                refine own_st (T' := T126) (g' := (mkF m 310 #[.val (.int p1), .val (.int p2), .val (.int p3), .val (.int p4), .val (.int p5), .val (.int p6), .val (.int (Int32.ofNat (3 + 1))), .val (.int ds), .val (.int (Int32.ofNat jj)), .val (.int (Int32.ofNat pl)), .val (.ref b1), .val (.double (FP.i2d p6)), .second, .val (.ref b10), .val (.int (1 : Int32))] [(.int (2 : Int32)), (.ref b1), (.double (fq (cq + 2)))])) (fun t9 k9 => XS.iconst X126.here hx rfl (hb hby at_309) k9) ?_
                obtain ⟨clu127, Aru127, qu127, Su127, Nu127, Hu127, Gu127⟩ := (id Vx9x)
                have hinu127 := inb_of Su127 (j := (2 : Int32)) ⟨by decide, by decide⟩
                refine own_st (T' := T126) (g' := (mkF m 311 #[.val (.int p1), .val (.int p2), .val (.int p3), .val (.int p4), .val (.int p5), .val (.int p6), .val (.int (Int32.ofNat (3 + 1))), .val (.int ds), .val (.int (Int32.ofNat jj)), .val (.int (Int32.ofNat pl)), .val (.ref b1), .val (.double (FP.i2d p6)), .second, .val (.ref b10), .val (.int (1 : Int32))] [(.double ((fun i => if (¬ ds = 0 ∧ jj < 4 ∧ i = pl) then (FP.i2d p6) else (own_dk (FP.i2d p2) (FP.i2d p3) (FP.i2d p4) (FP.i2d p5)) i) 2)), (.double (fq (cq + 2)))])) (fun t9 k9 => X126.daload hx (j := (2 : Int32)) (v := (.double ((fun i => if (¬ ds = 0 ∧ jj < 4 ∧ i = pl) then (FP.i2d p6) else (own_dk (FP.i2d p2) (FP.i2d p3) (FP.i2d p4) (FP.i2d p5)) i) 2))) (by rw [e126]; exact Aru127.1) (State.isArrayOf_alike hZ.alike Aru127.2.1) Aru127.2.2 hinu127 (Hu127.at hinu127 (hx4.2 2 (by decide)).1) (g := (mkF m 310 #[.val (.int p1), .val (.int p2), .val (.int p3), .val (.int p4), .val (.int p5), .val (.int p6), .val (.int (Int32.ofNat (3 + 1))), .val (.int ds), .val (.int (Int32.ofNat jj)), .val (.int (Int32.ofNat pl)), .val (.ref b1), .val (.double (FP.i2d p6)), .second, .val (.ref b10), .val (.int (1 : Int32))] [(.int (2 : Int32)), (.ref b1), (.double (fq (cq + 2)))])) rfl rfl (hb hby at_310) t9 k9) ?_
                refine own_st (T' := T126) (g' := (mkF m 312 #[.val (.int p1), .val (.int p2), .val (.int p3), .val (.int p4), .val (.int p5), .val (.int p6), .val (.int (Int32.ofNat (3 + 1))), .val (.int ds), .val (.int (Int32.ofNat jj)), .val (.int (Int32.ofNat pl)), .val (.ref b1), .val (.double (FP.i2d p6)), .second, .val (.ref b10), .val (.int (1 : Int32))] [(.int (cmpValue (FP.dcmp (fq (cq + 2)) ((fun i => if (¬ ds = 0 ∧ jj < 4 ∧ i = pl) then (FP.i2d p6) else (own_dk (FP.i2d p2) (FP.i2d p3) (FP.i2d p4) (FP.i2d p5)) i) 2)) .l))])) (fun t9 k9 => XS.dcmpS X126.here hx rfl (hb hby at_311) rfl rfl k9) ?_
                refine own_st (T' := T126) (g' := (mkF m 315 #[.val (.int p1), .val (.int p2), .val (.int p3), .val (.int p4), .val (.int p5), .val (.int p6), .val (.int (Int32.ofNat (3 + 1))), .val (.int ds), .val (.int (Int32.ofNat jj)), .val (.int (Int32.ofNat pl)), .val (.ref b1), .val (.double (FP.i2d p6)), .second, .val (.ref b10), .val (.int (1 : Int32))] [])) (fun t9 k9 => XS.ifNo X126.here hx rfl (hb hby at_312) rfl ((if0 _ _).trans (teq (dcmpV_eq (hkp 2 (by decide)) (hkp 2 (by decide) ▸ (hx4.2 2 (by decide)).2) _)).2) k9) ?_
                refine own_st (T' := T126) (g' := (mkF m 316 #[.val (.int p1), .val (.int p2), .val (.int p3), .val (.int p4), .val (.int p5), .val (.int p6), .val (.int (Int32.ofNat (3 + 1))), .val (.int ds), .val (.int (Int32.ofNat jj)), .val (.int (Int32.ofNat pl)), .val (.ref b1), .val (.double (FP.i2d p6)), .second, .val (.ref b10), .val (.int (1 : Int32))] [(.int (1 : Int32))])) (fun t9 k9 => XS.iconst X126.here hx rfl (hb hby at_315) k9) ?_
                refine own_st (T' := T126) (g' := (mkF m 320 #[.val (.int p1), .val (.int p2), .val (.int p3), .val (.int p4), .val (.int p5), .val (.int p6), .val (.int (Int32.ofNat (3 + 1))), .val (.int ds), .val (.int (Int32.ofNat jj)), .val (.int (Int32.ofNat pl)), .val (.ref b1), .val (.double (FP.i2d p6)), .second, .val (.ref b10), .val (.int (1 : Int32))] [(.int (1 : Int32))])) (fun t9 k9 => XS.goto X126.here hx rfl (pc0 := 316) (pc' := 320) rfl (hb hby at_316) (by decide) (by decide) k9) ?_
                refine own_st (T' := T126) (g' := (mkF m 322 #[.val (.int p1), .val (.int p2), .val (.int p3), .val (.int p4), .val (.int p5), .val (.int p6), .val (.int (Int32.ofNat (3 + 1))), .val (.int ds), .val (.int (Int32.ofNat jj)), .val (.int (Int32.ofNat pl)), .val (.ref b1), .val (.double (FP.i2d p6)), .second, .val (.ref b10), .val (.int (1 : Int32))] [])) (fun t9 k9 => XS.istore X126.here hx rfl (hb hby at_320) rfl (l' := #[.val (.int p1), .val (.int p2), .val (.int p3), .val (.int p4), .val (.int p5), .val (.int p6), .val (.int (Int32.ofNat (3 + 1))), .val (.int ds), .val (.int (Int32.ofNat jj)), .val (.int (Int32.ofNat pl)), .val (.ref b1), .val (.double (FP.i2d p6)), .second, .val (.ref b10), .val (.int (1 : Int32))]) rfl k9) ?_
                refine own_st (T' := T126) (g' := (mkF m 324 #[.val (.int p1), .val (.int p2), .val (.int p3), .val (.int p4), .val (.int p5), .val (.int p6), .val (.int (Int32.ofNat (3 + 1))), .val (.int ds), .val (.int (Int32.ofNat jj)), .val (.int (Int32.ofNat pl)), .val (.ref b1), .val (.double (FP.i2d p6)), .second, .val (.ref b10), .val (.int (1 : Int32))] [(.int (Int32.ofNat (3 + 1)))])) (fun t9 k9 => XS.iload X126.here hx rfl (hb hby at_322) rfl k9) ?_
                refine own_st (T' := T126) (g' := (mkF m 325 #[.val (.int p1), .val (.int p2), .val (.int p3), .val (.int p4), .val (.int p5), .val (.int p6), .val (.int (Int32.ofNat (3 + 1))), .val (.int ds), .val (.int (Int32.ofNat jj)), .val (.int (Int32.ofNat pl)), .val (.ref b1), .val (.double (FP.i2d p6)), .second, .val (.ref b10), .val (.int (1 : Int32))] [(.int (3 : Int32)), (.int (Int32.ofNat (3 + 1)))])) (fun t9 k9 => XS.iconst X126.here hx rfl (hb hby at_324) k9) ?_
                refine own_st (T' := T126) (g' := (mkF m 328 #[.val (.int p1), .val (.int p2), .val (.int p3), .val (.int p4), .val (.int p5), .val (.int p6), .val (.int (Int32.ofNat (3 + 1))), .val (.int ds), .val (.int (Int32.ofNat jj)), .val (.int (Int32.ofNat pl)), .val (.ref b1), .val (.double (FP.i2d p6)), .second, .val (.ref b10), .val (.int (1 : Int32))] [])) (fun t9 k9 => XS.icmpNo X126.here hx rfl (hb hby at_325) rfl (tlt (own_lt (i := 3) (by omega) (by omega))).2.2.2 k9) ?_
                refine own_st (T' := T126) (g' := (mkF m 330 #[.val (.int p1), .val (.int p2), .val (.int p3), .val (.int p4), .val (.int p5), .val (.int p6), .val (.int (Int32.ofNat (3 + 1))), .val (.int ds), .val (.int (Int32.ofNat jj)), .val (.int (Int32.ofNat pl)), .val (.ref b1), .val (.double (FP.i2d p6)), .second, .val (.ref b10), .val (.int (1 : Int32))] [(.int (1 : Int32))])) (fun t9 k9 => XS.iload X126.here hx rfl (hb hby at_328) rfl k9) ?_
                refine own_st (T' := T126) (g' := (mkF m 333 #[.val (.int p1), .val (.int p2), .val (.int p3), .val (.int p4), .val (.int p5), .val (.int p6), .val (.int (Int32.ofNat (3 + 1))), .val (.int ds), .val (.int (Int32.ofNat jj)), .val (.int (Int32.ofNat pl)), .val (.ref b1), .val (.double (FP.i2d p6)), .second, .val (.ref b10), .val (.int (1 : Int32))] [])) (fun t9 k9 => XS.ifNo X126.here hx rfl (hb hby at_330) rfl ((if0 _ _).trans (feq (by decide)).1) k9) ?_
                refine own_st (T' := T126) (g' := (mkF m 335 #[.val (.int p1), .val (.int p2), .val (.int p3), .val (.int p4), .val (.int p5), .val (.int p6), .val (.int (Int32.ofNat (3 + 1))), .val (.int ds), .val (.int (Int32.ofNat jj)), .val (.int (Int32.ofNat pl)), .val (.ref b1), .val (.double (FP.i2d p6)), .second, .val (.ref b10), .val (.int (1 : Int32))] [(.ref b10)])) (fun t9 k9 => XS.aload X126.here hx rfl (hb hby at_333) rfl rfl k9) ?_
                refine own_st (T' := T126) (g' := (mkF m 336 #[.val (.int p1), .val (.int p2), .val (.int p3), .val (.int p4), .val (.int p5), .val (.int p6), .val (.int (Int32.ofNat (3 + 1))), .val (.int ds), .val (.int (Int32.ofNat jj)), .val (.int (Int32.ofNat pl)), .val (.ref b1), .val (.double (FP.i2d p6)), .second, .val (.ref b10), .val (.int (1 : Int32))] [(.int (3 : Int32)), (.ref b10)])) (fun t9 k9 => XS.iconst X126.here hx rfl (hb hby at_335) k9) ?_
                obtain ⟨cq128, kq128, qa128, qb128, qc128⟩ := isOf hZ e126 Eex
                obtain ⟨_, _, ⟨T128, L128, k128, n128⟩, -, X128, ⟨Lc128, hQ128, l128, y128, z128⟩, st128⟩ := X126.virtualBack hx (y := (⟨"com/example/shelfwright/shelfwright/packers/FirstFit", "key", "(I)D"⟩ : MethodName)) (z := (⟨"com/example/shelfwright/shelfwright/packers/FirstFit", "key", "(I)D"⟩ : MethodName)) hown (mvT hZ (hw _ (List.mem_of_getElem? (i := 27) rfl))) (mvT hZ (hw _ (List.mem_of_getElem? (i := 28) rfl))) (notFace_of_selects (args := #[]) (mvT hZ (hw _ (List.mem_of_getElem? (i := 30) rfl)))) (mvT hZ (hw _ (List.mem_of_getElem? (i := 30) rfl))) (mvT hZ (hw _ (List.mem_of_getElem? (i := 29) rfl))) (by decide) (own_back (W := 0) (rm5 l Z a0 hw b10 dd kd vq fq cq 3 h121 n0 Z121 FlargestKey9x Fcapacity9x Vd9x hq hcq (by omega)) hZ (hw _ (List.mem_of_getElem? (i := 31) rfl)) (hw _ (List.mem_of_getElem? (i := 3) rfl)) (by decide) (by decide)) qa128 qc128 (g := (mkF m 336 #[.val (.int p1), .val (.int p2), .val (.int p3), .val (.int p4), .val (.int p5), .val (.int p6), .val (.int (Int32.ofNat (3 + 1))), .val (.int ds), .val (.int (Int32.ofNat jj)), .val (.int (Int32.ofNat pl)), .val (.ref b1), .val (.double (FP.i2d p6)), .second, .val (.ref b10), .val (.int (1 : Int32))] [(.int (3 : Int32)), (.ref b10)])) rfl (by rw [hml]; rfl) (Steps.refl _) (argsL := [(.int (3 : Int32))]) (rest := []) (lenOf pd_3 rfl) rfl (by show 2 * 0 + _ ≤ _; exact Nat.le_of_eq rfl) (hb hby at_336) (fun _ _ => ⟨rfl, e126, (Nat.le_of_ble_eq_true rfl), (Nat.le_of_ble_eq_true rfl)⟩)
                dsimp only [Pt.U, Pt.locs, Pt.cells, Pt.slots] at X128 l128 y128 z128 st128 hQ128
                subst l128 y128 z128
                obtain ⟨rfl, Nq128, he128⟩ := hQ128
                have N128 := Fr.app N126 Nq128
                have e128 : T128.heap = h121 := he128
                refine own_st (T' := T128) (g' := (mkF m 339 #[.val (.int p1), .val (.int p2), .val (.int p3), .val (.int p4), .val (.int p5), .val (.int p6), .val (.int (Int32.ofNat (3 + 1))), .val (.int ds), .val (.int (Int32.ofNat jj)), .val (.int (Int32.ofNat pl)), .val (.ref b1), .val (.double (FP.i2d p6)), .second, .val (.ref b10), .val (.int (1 : Int32))] [(.double (fq (cq + 3)))])) (fun t9 k9 => st128.trans k9) ?_
                refine own_st (T' := T128) (g' := (mkF m 341 #[.val (.int p1), .val (.int p2), .val (.int p3), .val (.int p4), .val (.int p5), .val (.int p6), .val (.int (Int32.ofNat (3 + 1))), .val (.int ds), .val (.int (Int32.ofNat jj)), .val (.int (Int32.ofNat pl)), .val (.ref b1), .val (.double (FP.i2d p6)), .second, .val (.ref b10), .val (.int (1 : Int32))] [(.ref b1), (.double (fq (cq + 3)))])) (fun t9 k9 => XS.aload X128.here hx rfl (hb hby at_339) rfl rfl k9) ?_
                refine own_st (T' := T128) (g' := (mkF m 342 #[.val (.int p1), .val (.int p2), .val (.int p3), .val (.int p4), .val (.int p5), .val (.int p6), .val (.int (Int32.ofNat (3 + 1))), .val (.int ds), .val (.int (Int32.ofNat jj)), .val (.int (Int32.ofNat pl)), .val (.ref b1), .val (.double (FP.i2d p6)), .second, .val (.ref b10), .val (.int (1 : Int32))] [(.int (3 : Int32)), (.ref b1), (.double (fq (cq + 3)))])) (fun t9 k9 => XS.iconst X128.here hx rfl (hb hby at_341) k9) ?_
                obtain ⟨clu129, Aru129, qu129, Su129, Nu129, Hu129, Gu129⟩ := (id Vx9x)
                have hinu129 := inb_of Su129 (j := (3 : Int32)) ⟨by decide, by decide⟩
                refine own_st (T' := T128) (g' := (mkF m 343 #[.val (.int p1), .val (.int p2), .val (.int p3), .val (.int p4), .val (.int p5), .val (.int p6), .val (.int (Int32.ofNat (3 + 1))), .val (.int ds), .val (.int (Int32.ofNat jj)), .val (.int (Int32.ofNat pl)), .val (.ref b1), .val (.double (FP.i2d p6)), .second, .val (.ref b10), .val (.int (1 : Int32))] [(.double ((fun i => if (¬ ds = 0 ∧ jj < 4 ∧ i = pl) then (FP.i2d p6) else (own_dk (FP.i2d p2) (FP.i2d p3) (FP.i2d p4) (FP.i2d p5)) i) 3)), (.double (fq (cq + 3)))])) (fun t9 k9 => X128.daload hx (j := (3 : Int32)) (v := (.double ((fun i => if (¬ ds = 0 ∧ jj < 4 ∧ i = pl) then (FP.i2d p6) else (own_dk (FP.i2d p2) (FP.i2d p3) (FP.i2d p4) (FP.i2d p5)) i) 3))) (by rw [e128]; exact Aru129.1) (State.isArrayOf_alike hZ.alike Aru129.2.1) Aru129.2.2 hinu129 (Hu129.at hinu129 (hx4.2 3 (by decide)).1) (g := (mkF m 342 #[.val (.int p1), .val (.int p2), .val (.int p3), .val (.int p4), .val (.int p5), .val (.int p6), .val (.int (Int32.ofNat (3 + 1))), .val (.int ds), .val (.int (Int32.ofNat jj)), .val (.int (Int32.ofNat pl)), .val (.ref b1), .val (.double (FP.i2d p6)), .second, .val (.ref b10), .val (.int (1 : Int32))] [(.int (3 : Int32)), (.ref b1), (.double (fq (cq + 3)))])) rfl rfl (hb hby at_342) t9 k9) ?_
                refine own_st (T' := T128) (g' := (mkF m 344 #[.val (.int p1), .val (.int p2), .val (.int p3), .val (.int p4), .val (.int p5), .val (.int p6), .val (.int (Int32.ofNat (3 + 1))), .val (.int ds), .val (.int (Int32.ofNat jj)), .val (.int (Int32.ofNat pl)), .val (.ref b1), .val (.double (FP.i2d p6)), .second, .val (.ref b10), .val (.int (1 : Int32))] [(.int (cmpValue (FP.dcmp (fq (cq + 3)) ((fun i => if (¬ ds = 0 ∧ jj < 4 ∧ i = pl) then (FP.i2d p6) else (own_dk (FP.i2d p2) (FP.i2d p3) (FP.i2d p4) (FP.i2d p5)) i) 3)) .l))])) (fun t9 k9 => XS.dcmpS X128.here hx rfl (hb hby at_343) rfl rfl k9) ?_
                refine own_st (T' := T128) (g' := (mkF m 347 #[.val (.int p1), .val (.int p2), .val (.int p3), .val (.int p4), .val (.int p5), .val (.int p6), .val (.int (Int32.ofNat (3 + 1))), .val (.int ds), .val (.int (Int32.ofNat jj)), .val (.int (Int32.ofNat pl)), .val (.ref b1), .val (.double (FP.i2d p6)), .second, .val (.ref b10), .val (.int (1 : Int32))] [])) (fun t9 k9 => XS.ifNo X128.here hx rfl (hb hby at_344) rfl ((if0 _ _).trans (teq (dcmpV_eq (hkp 3 (by decide)) (hkp 3 (by decide) ▸ (hx4.2 3 (by decide)).2) _)).2) k9) ?_
                refine own_st (T' := T128) (g' := (mkF m 348 #[.val (.int p1), .val (.int p2), .val (.int p3), .val (.int p4), .val (.int p5), .val (.int p6), .val (.int (Int32.ofNat (3 + 1))), .val (.int ds), .val (.int (Int32.ofNat jj)), .val (.int (Int32.ofNat pl)), .val (.ref b1), .val (.double (FP.i2d p6)), .second, .val (.ref b10), .val (.int (1 : Int32))] [(.int (1 : Int32))])) (fun t9 k9 => XS.iconst X128.here hx rfl (hb hby at_347) k9) ?_
                refine own_st (T' := T128) (g' := (mkF m 352 #[.val (.int p1), .val (.int p2), .val (.int p3), .val (.int p4), .val (.int p5), .val (.int p6), .val (.int (Int32.ofNat (3 + 1))), .val (.int ds), .val (.int (Int32.ofNat jj)), .val (.int (Int32.ofNat pl)), .val (.ref b1), .val (.double (FP.i2d p6)), .second, .val (.ref b10), .val (.int (1 : Int32))] [(.int (1 : Int32))])) (fun t9 k9 => XS.goto X128.here hx rfl (pc0 := 348) (pc' := 352) rfl (hb hby at_348) (by decide) (by decide) k9) ?_
                refine own_st (T' := T128) (g' := (mkF m 354 #[.val (.int p1), .val (.int p2), .val (.int p3), .val (.int p4), .val (.int p5), .val (.int p6), .val (.int (Int32.ofNat (3 + 1))), .val (.int ds), .val (.int (Int32.ofNat jj)), .val (.int (Int32.ofNat pl)), .val (.ref b1), .val (.double (FP.i2d p6)), .second, .val (.ref b10), .val (.int (1 : Int32))] [])) (fun t9 k9 => XS.istore X128.here hx rfl (hb hby at_352) rfl (l' := #[.val (.int p1), .val (.int p2), .val (.int p3), .val (.int p4), .val (.int p5), .val (.int p6), .val (.int (Int32.ofNat (3 + 1))), .val (.int ds), .val (.int (Int32.ofNat jj)), .val (.int (Int32.ofNat pl)), .val (.ref b1), .val (.double (FP.i2d p6)), .second, .val (.ref b10), .val (.int (1 : Int32))]) rfl k9) ?_
                refine own_st (T' := T128) (g' := (mkF m 356 #[.val (.int p1), .val (.int p2), .val (.int p3), .val (.int p4), .val (.int p5), .val (.int p6), .val (.int (Int32.ofNat (3 + 1))), .val (.int ds), .val (.int (Int32.ofNat jj)), .val (.int (Int32.ofNat pl)), .val (.ref b1), .val (.double (FP.i2d p6)), .second, .val (.ref b10), .val (.int (1 : Int32))] [(.int (1 : Int32))])) (fun t9 k9 => XS.iload X128.here hx rfl (hb hby at_354) rfl k9) ?_
                refine own_ret (v := some (.int (1 : Int32))) hF X128 (own_some hret) hlk (fun fs hr => retN X128 hx (t := .boolean) hret (by simp) (hb hby at_356) hr) ?_ (by decide) (by decide)
                try rw [e128]
                exact ⟨rfl, N128⟩
              by_cases hd0 : ds = (0 : Int32)
              · refine own_st (T' := T120) (g' := (mkF m 237 #[.val (.int p1), .val (.int p2), .val (.int p3), .val (.int p4), .val (.int p5), .val (.int p6), .val (.int (Int32.ofNat (3 + 1))), .val (.int ds), .val (.int (Int32.ofNat jj)), .val (.int (Int32.ofNat pl)), .val (.ref b1), .val (.double (FP.i2d p6)), .second, .val (.ref b10), .unset] [])) (fun t9 k9 => XS.ifYes X120.here hx rfl (pc0 := 227) (pc' := 237) rfl (hb hby at_227) rfl ((if0 _ _).trans (teq hd0).1) (by decide) (by decide) k9) ?_
                exact jk _ _ _ _ X120 e120 N120 Z120 K120 Ee FlargestKey9 Fcapacity9 Fcount9 Vd9 Vx9 (hX.congr fun i hi => by
                      show _ = if _ then _ else _
                      rw [if_neg (fun r => r.1 hd0)])
              · refine own_st (T' := T120) (g' := (mkF m 230 #[.val (.int p1), .val (.int p2), .val (.int p3), .val (.int p4), .val (.int p5), .val (.int p6), .val (.int (Int32.ofNat (3 + 1))), .val (.int ds), .val (.int (Int32.ofNat jj)), .val (.int (Int32.ofNat pl)), .val (.ref b1), .val (.double (FP.i2d p6)), .second, .val (.ref b10), .unset] [])) (fun t9 k9 => XS.ifNo X120.here hx rfl (hb hby at_227) rfl ((if0 _ _).trans (feq hd0).1) k9) ?_
                obtain ⟨pq1, pq2⟩ := own_nat (i := pl) (by omega)
                refine own_st (T' := T120) (g' := (mkF m 232 #[.val (.int p1), .val (.int p2), .val (.int p3), .val (.int p4), .val (.int p5), .val (.int p6), .val (.int (Int32.ofNat (3 + 1))), .val (.int ds), .val (.int (Int32.ofNat jj)), .val (.int (Int32.ofNat pl)), .val (.ref b1), .val (.double (FP.i2d p6)), .second, .val (.ref b10), .unset] [(.ref b1)])) (fun t9 k9 => XS.aload X120.here hx rfl (hb hby at_230) rfl rfl k9) ?_
                refine own_st (T' := T120) (g' := (mkF m 234 #[.val (.int p1), .val (.int p2), .val (.int p3), .val (.int p4), .val (.int p5), .val (.int p6), .val (.int (Int32.ofNat (3 + 1))), .val (.int ds), .val (.int (Int32.ofNat jj)), .val (.int (Int32.ofNat pl)), .val (.ref b1), .val (.double (FP.i2d p6)), .second, .val (.ref b10), .unset] [(.int (Int32.ofNat pl)), (.ref b1)])) (fun t9 k9 => XS.iload X120.here hx rfl (hb hby at_232) rfl k9) ?_
                refine own_st (T' := T120) (g' := (mkF m 236 #[.val (.int p1), .val (.int p2), .val (.int p3), .val (.int p4), .val (.int p5), .val (.int p6), .val (.int (Int32.ofNat (3 + 1))), .val (.int ds), .val (.int (Int32.ofNat jj)), .val (.int (Int32.ofNat pl)), .val (.ref b1), .val (.double (FP.i2d p6)), .second, .val (.ref b10), .unset] [(.double (FP.i2d p6)), (.int (Int32.ofNat pl)), (.ref b1)])) (fun t9 k9 => XS.dload X120.here hx rfl (hb hby at_234) rfl k9) ?_
                obtain ⟨clu130, Aru130, qu130, Su130, Nu130, Hu130, Gu130⟩ := (id Vx9)
                obtain ⟨T131, h131, X131, e131, W131, st131⟩ := stD X120 hx hZ e120 Aru130 (j := (Int32.ofNat pl)) (inb_of Su130 ⟨pq2, own_lt (n := 4) (by omega) (by omega)⟩) (g := (mkF m 236 #[.val (.int p1), .val (.int p2), .val (.int p3), .val (.int p4), .val (.int p5), .val (.int p6), .val (.int (Int32.ofNat (3 + 1))), .val (.int ds), .val (.int (Int32.ofNat jj)), .val (.int (Int32.ofNat pl)), .val (.ref b1), .val (.double (FP.i2d p6)), .second, .val (.ref b10), .unset] [(.double (FP.i2d p6)), (.int (Int32.ofNat pl)), (.ref b1)])) rfl rfl (hb hby at_236)
                have Va131 := Arv.set Aru130 qu130 Su130 Nu130 Hu130 Gu130 rfl W131 pl pq1 (by show pl < 4; omega)
                have Ee_132 := Ee.wr W131
                have FlargestKey9_133 := FlargestKey9.other W131 (Or.inl (Ne.symm ne_b1_b10))
                have Fcapacity9_134 := Fcapacity9.other W131 (Or.inl (Ne.symm ne_b1_b10))
                have Fcount9_135 := Fcount9.other W131 (Or.inl (Ne.symm ne_b1_b10))
                have Vd9_136 := Vd9.other W131 (Ne.symm hnx)
                have K131 := K120.wr W131 (Or.inr sz_b1)
                have N131 := Fr.snoc X131 N120 g_b1
                have Z131 : n0 ≤ h131.size := by rw [W131.size]; exact Z120
                refine own_st (T' := T131) (g' := (mkF m 237 #[.val (.int p1), .val (.int p2), .val (.int p3), .val (.int p4), .val (.int p5), .val (.int p6), .val (.int (Int32.ofNat (3 + 1))), .val (.int ds), .val (.int (Int32.ofNat jj)), .val (.int (Int32.ofNat pl)), .val (.ref b1), .val (.double (FP.i2d p6)), .second, .val (.ref b10), .unset] [])) (fun t9 k9 => st131 t9 k9) ?_
                exact jk _ _ _ _ X131 e131 N131 Z131 K131 Ee_132 FlargestKey9_133 Fcapacity9_134 Fcount9_135 Vd9_136 Va131 ((hX.set pl (FP.i2d p6) (by omega) (own_i2d _)).congr fun i hi => by
                      show (if i = pl then _ else _) = if _ then _ else _
                      by_cases q : i = pl
                      · rw [if_pos q, if_pos ⟨hd0, by omega, q⟩]
                      · rw [if_neg q, if_neg (fun r => q r.2.2)])
            refine own_st (T' := T119) (g' := (mkF m 197 #[.val (.int p1), .val (.int p2), .val (.int p3), .val (.int p4), .val (.int p5), .val (.int p6), .val (.int (Int32.ofNat (3 + 1))), .val (.int ds), .val (.int (Int32.ofNat jj)), .val (.int (Int32.ofNat pl)), .val (.ref b1), .val (.double (FP.i2d p6)), .second, .val (.ref b10), .unset] [(.ref b10)])) (fun t9 k9 => XS.aload X119.here hx rfl (hb hby at_195) rfl rfl k9) ?_
            refine own_st (T' := T119) (g' := (mkF m 199 #[.val (.int p1), .val (.int p2), .val (.int p3), .val (.int p4), .val (.int p5), .val (.int p6), .val (.int (Int32.ofNat (3 + 1))), .val (.int ds), .val (.int (Int32.ofNat jj)), .val (.int (Int32.ofNat pl)), .val (.ref b1), .val (.double (FP.i2d p6)), .second, .val (.ref b10), .unset] [(.ref b1), (.ref b10)])) (fun t9 k9 => XS.aload X119.here hx rfl (hb hby at_197) rfl rfl k9) ?_
            refine own_st (T' := T119) (g' := (mkF m 200 #[.val (.int p1), .val (.int p2), .val (.int p3), .val (.int p4), .val (.int p5), .val (.int p6), .val (.int (Int32.ofNat (3 + 1))), .val (.int ds), .val (.int (Int32.ofNat jj)), .val (.int (Int32.ofNat pl)), .val (.ref b1), .val (.double (FP.i2d p6)), .second, .val (.ref b10), .unset] [(.int (3 : Int32)), (.ref b1), (.ref b10)])) (fun t9 k9 => XS.iconst X119.here hx rfl (hb hby at_199) k9) ?_
            obtain ⟨clu137, Aru137, qu137, Su137, Nu137, Hu137, Gu137⟩ := (id Vx9)
            have hinu137 := inb_of Su137 (j := (3 : Int32)) ⟨by decide, by decide⟩
            refine own_st (T' := T119) (g' := (mkF m 201 #[.val (.int p1), .val (.int p2), .val (.int p3), .val (.int p4), .val (.int p5), .val (.int p6), .val (.int (Int32.ofNat (3 + 1))), .val (.int ds), .val (.int (Int32.ofNat jj)), .val (.int (Int32.ofNat pl)), .val (.ref b1), .val (.double (FP.i2d p6)), .second, .val (.ref b10), .unset] [(.double ((own_dk (FP.i2d p2) (FP.i2d p3) (FP.i2d p4) (FP.i2d p5)) 3)), (.ref b10)])) (fun t9 k9 => X119.daload hx (j := (3 : Int32)) (v := (.double ((own_dk (FP.i2d p2) (FP.i2d p3) (FP.i2d p4) (FP.i2d p5)) 3))) (by rw [e119]; exact Aru137.1) (State.isArrayOf_alike hZ.alike Aru137.2.1) Aru137.2.2 hinu137 (Hu137.at hinu137 (hX.2 3 (by decide)).1) (g := (mkF m 200 #[.val (.int p1), .val (.int p2), .val (.int p3), .val (.int p4), .val (.int p5), .val (.int p6), .val (.int (Int32.ofNat (3 + 1))), .val (.int ds), .val (.int (Int32.ofNat jj)), .val (.int (Int32.ofNat pl)), .val (.ref b1), .val (.double (FP.i2d p6)), .second, .val (.ref b10), .unset] [(.int (3 : Int32)), (.ref b1), (.ref b10)])) rfl rfl (hb hby at_200) t9 k9) ?_
            have Kb138 := K119
            have lx := Vx9.lt
            have la := Ee.lt
            obtain ⟨cq138, kq138, qa138, qb138, qc138⟩ := isOf hZ e119 Ee
            obtain ⟨_, _, ⟨T138, L138, k138, n138⟩, -, X138, ⟨Lc138, hQ138, l138, y138, z138⟩, st138⟩ := X119.virtualBack hx (y := (⟨"com/example/shelfwright/shelfwright/packers/FirstFit", "add", "(D)I"⟩ : MethodName)) (z := (⟨"com/example/shelfwright/shelfwright/packers/FirstFit", "add", "(D)I"⟩ : MethodName)) hown (mvT hZ (hw _ (List.mem_of_getElem? (i := 15) rfl))) (mvT hZ (hw _ (List.mem_of_getElem? (i := 16) rfl))) (notFace_of_selects (args := #[]) (mvT hZ (hw _ (List.mem_of_getElem? (i := 18) rfl)))) (mvT hZ (hw _ (List.mem_of_getElem? (i := 18) rfl))) (mvT hZ (hw _ (List.mem_of_getElem? (i := 17) rfl))) (by decide) (own_back (W := 0) (rm3 l Z a0 hw b10 dd _ vq fq cq 3 ((own_dk (FP.i2d p2) (FP.i2d p3) (FP.i2d p4) (FP.i2d p5)) 3) h119 n0 Z119 Ee FlargestKey9 Fcapacity9 Fcount9 Vd9 hq (by omega) hcq (by omega) (by omega) g_b10 g_dd hna (hX.2 3 (by decide)).2) hZ (hw _ (List.mem_of_getElem? (i := 19) rfl)) (hw _ (List.mem_of_getElem? (i := 3) rfl)) (by decide) (by decide)) qa138 qc138 (g := (mkF m 201 #[.val (.int p1), .val (.int p2), .val (.int p3), .val (.int p4), .val (.int p5), .val (.int p6), .val (.int (Int32.ofNat (3 + 1))), .val (.int ds), .val (.int (Int32.ofNat jj)), .val (.int (Int32.ofNat pl)), .val (.ref b1), .val (.double (FP.i2d p6)), .second, .val (.ref b10), .unset] [(.double ((own_dk (FP.i2d p2) (FP.i2d p3) (FP.i2d p4) (FP.i2d p5)) 3)), (.ref b10)])) rfl (by rw [hml]; rfl) (Steps.refl _) (argsL := [(.double ((own_dk (FP.i2d p2) (FP.i2d p3) (FP.i2d p4) (FP.i2d p5)) 3))]) (rest := []) (lenOf pd_1 rfl) rfl (by show 2 * 0 + _ ≤ _; exact Nat.le_of_eq rfl) (hb hby at_201) (fun _ _ => ⟨rfl, e119, (Nat.le_of_ble_eq_true rfl), (Nat.le_of_ble_eq_true rfl)⟩)
            dsimp only [Pt.U, Pt.locs, Pt.cells, Pt.slots] at X138 l138 y138 z138 st138 hQ138
            subst l138 y138 z138
            obtain ⟨b138, kb138, vb138, fb138, cb138, z138, rfl, Nq138, Kq138, hd138, g_b138, hn138, Eq138, Fl138, Fc138, Fn138, Vq138, hv138, hc4138, hkc138, hcc138, hkk138, hkn138⟩ := hQ138
            have N138 := Fr.app N119 Nq138
            obtain ⟨h138, e138⟩ : ∃ z, T138.heap = z := ⟨_, rfl⟩
            rw [e138] at Kq138 Eq138 Fl138 Fc138 Fn138 Vq138
            have Ee_139 := Ee.keep Kq138
            have Vx9_140 := Vx9.keep Kq138 (ninS ne_b1_b10 (ninS hnx nin0))
            have K138 := K119.trans Kq138 (allS (Or.inr sz_b10) (allS (Or.inr hsz) all0))
            have Z138 : n0 ≤ h138.size := Nat.le_trans Z119 Kq138.1
            refine own_st (T' := T138) (g' := (mkF m 204 #[.val (.int p1), .val (.int p2), .val (.int p3), .val (.int p4), .val (.int p5), .val (.int p6), .val (.int (Int32.ofNat (3 + 1))), .val (.int ds), .val (.int (Int32.ofNat jj)), .val (.int (Int32.ofNat pl)), .val (.ref b1), .val (.double (FP.i2d p6)), .second, .val (.ref b10), .unset] [(.int z138)])) (fun t9 k9 => st138.trans k9) ?_
            have hnx138 : b1 ≠ b138 := by
              rcases hd138 with q | q
              · rw [q]; exact hnx
              · exact Nat.ne_of_lt (Nat.lt_of_lt_of_le lx q)
            have hsz138 : h0.size ≤ b138 := by
              rcases hd138 with q | q
              · rw [q]; exact hsz
              · exact Nat.le_trans Kb138.1 q
            have hpw138 : cb138 = 4 := by
              have := hpow
              omega
            have hkp138 : ∀ i, i < 4 → fb138 (cb138 + i) = (if (¬ ds = 0 ∧ jj < 3 ∧ i = pl) then (FP.i2d p6) else (own_dk (FP.i2d p2) (FP.i2d p3) (FP.i2d p4) (FP.i2d p5)) i) := by
              intro i hi
              by_cases hl : i < 3
              · rw [hkk138 i hl]; exact hkp i hl
              · obtain rfl : i = 3 := by omega
                rw [hkn138, if_neg (by omega)]
            refine own_st (T' := T138) (g' := (mkF m 205 #[.val (.int p1), .val (.int p2), .val (.int p3), .val (.int p4), .val (.int p5), .val (.int p6), .val (.int (Int32.ofNat (3 + 1))), .val (.int ds), .val (.int (Int32.ofNat jj)), .val (.int (Int32.ofNat pl)), .val (.ref b1), .val (.double (FP.i2d p6)), .second, .val (.ref b10), .unset] [])) (fun t9 k9 => XS.pop X138.here hx rfl (hb hby at_204) rfl rfl k9) ?_
            refine own_st (T' := T138) (g' := (mkF m 207 #[.val (.int p1), .val (.int p2), .val (.int p3), .val (.int p4), .val (.int p5), .val (.int p6), .val (.int (Int32.ofNat (3 + 1))), .val (.int ds), .val (.int (Int32.ofNat jj)), .val (.int (Int32.ofNat pl)), .val (.ref b1), .val (.double (FP.i2d p6)), .second, .val (.ref b10), .unset] [(.int ds)])) (fun t9 k9 => XS.iload X138.here hx rfl (hb hby at_205) rfl k9) ?_
            by_cases hd0 : ds = (0 : Int32)
            · refine own_st (T' := T138) (g' := (mkF m 225 #[.val (.int p1), .val (.int p2), .val (.int p3), .val (.int p4), .val (.int p5), .val (.int p6), .val (.int (Int32.ofNat (3 + 1))), .val (.int ds), .val (.int (Int32.ofNat jj)), .val (.int (Int32.ofNat pl)), .val (.ref b1), .val (.double (FP.i2d p6)), .second, .val (.ref b10), .unset] [])) (fun t9 k9 => XS.ifYes X138.here hx rfl (pc0 := 207) (pc' := 225) rfl (hb hby at_207) rfl ((if0 _ _).trans (teq hd0).1) (by decide) (by decide) k9) ?_
              exact js4 _ _ _ _ _ _ _ _ X138 e138 N138 Z138 K138 Ee_139 Fl138 Fc138 Fn138 Vq138 Vx9_140 hv138 hc4138 hkc138 hpw138 g_b138 hn138 hnx138 hsz138 (fun i hi => by rw [hkp138 i hi, if_neg (fun q => q.1 hd0), if_neg (fun q => q.1 hd0)])
            · refine own_st (T' := T138) (g' := (mkF m 210 #[.val (.int p1), .val (.int p2), .val (.int p3), .val (.int p4), .val (.int p5), .val (.int p6), .val (.int (Int32.ofNat (3 + 1))), .val (.int ds), .val (.int (Int32.ofNat jj)), .val (.int (Int32.ofNat pl)), .val (.ref b1), .val (.double (FP.i2d p6)), .second, .val (.ref b10), .unset] [])) (fun t9 k9 => XS.ifNo X138.here hx rfl (hb hby at_207) rfl ((if0 _ _).trans (feq hd0).1) k9) ?_
              refine own_st (T' := T138) (g' := (mkF m 212 #[.val (.int p1), .val (.int p2), .val (.int p3), .val (.int p4), .val (.int p5), .val (.int p6), .val (.int (Int32.ofNat (3 + 1))), .val (.int ds), .val (.int (Int32.ofNat jj)), .val (.int (Int32.ofNat pl)), .val (.ref b1), .val (.double (FP.i2d p6)), .second, .val (.ref b10), .unset] [(.int (Int32.ofNat jj))])) (fun t9 k9 => XS.iload X138.here hx rfl (hb hby at_210) rfl k9) ?_
              refine own_st (T' := T138) (g' := (mkF m 213 #[.val (.int p1), .val (.int p2), .val (.int p3), .val (.int p4), .val (.int p5), .val (.int p6), .val (.int (Int32.ofNat (3 + 1))), .val (.int ds), .val (.int (Int32.ofNat jj)), .val (.int (Int32.ofNat pl)), .val (.ref b1), .val (.double (FP.i2d p6)), .second, .val (.ref b10), .unset] [(.int (3 : Int32)), (.int (Int32.ofNat jj))])) (fun t9 k9 => XS.iconst X138.here hx rfl (hb hby at_212) k9) ?_
              by_cases hj3 : (Int32.ofNat jj) = (3 : Int32)
              · refine own_st (T' := T138) (g' := (mkF m 216 #[.val (.int p1), .val (.int p2), .val (.int p3), .val (.int p4), .val (.int p5), .val (.int p6), .val (.int (Int32.ofNat (3 + 1))), .val (.int ds), .val (.int (Int32.ofNat jj)), .val (.int (Int32.ofNat pl)), .val (.ref b1), .val (.double (FP.i2d p6)), .second, .val (.ref b10), .unset] [])) (fun t9 k9 => XS.icmpNo X138.here hx rfl (hb hby at_213) rfl (teq hj3).2 k9) ?_
                have hje : jj = 3 := own_eq' (n := 3) hj3 (by omega) (by omega)
                refine own_st (T' := T138) (g' := (mkF m 218 #[.val (.int p1), .val (.int p2), .val (.int p3), .val (.int p4), .val (.int p5), .val (.int p6), .val (.int (Int32.ofNat (3 + 1))), .val (.int ds), .val (.int (Int32.ofNat jj)), .val (.int (Int32.ofNat pl)), .val (.ref b1), .val (.double (FP.i2d p6)), .second, .val (.ref b10), .unset] [(.ref b10)])) (fun t9 k9 => XS.aload X138.here hx rfl (hb hby at_216) rfl rfl k9) ?_
                refine own_st (T' := T138) (g' := (mkF m 220 #[.val (.int p1), .val (.int p2), .val (.int p3), .val (.int p4), .val (.int p5), .val (.int p6), .val (.int (Int32.ofNat (3 + 1))), .val (.int ds), .val (.int (Int32.ofNat jj)), .val (.int (Int32.ofNat pl)), .val (.ref b1), .val (.double (FP.i2d p6)), .second, .val (.ref b10), .unset] [(.int (Int32.ofNat pl)), (.ref b10)])) (fun t9 k9 => XS.iload X138.here hx rfl (hb hby at_218) rfl k9) ?_
                refine own_st (T' := T138) (g' := (mkF m 222 #[.val (.int p1), .val (.int p2), .val (.int p3), .val (.int p4), .val (.int p5), .val (.int p6), .val (.int (Int32.ofNat (3 + 1))), .val (.int ds), .val (.int (Int32.ofNat jj)), .val (.int (Int32.ofNat pl)), .val (.ref b1), .val (.double (FP.i2d p6)), .second, .val (.ref b10), .unset] [(.double (FP.i2d p6)), (.int (Int32.ofNat pl)), (.ref b10)])) (fun t9 k9 => XS.dload X138.here hx rfl (hb hby at_220) rfl k9) ?_
                have Kb2 := K138
                obtain ⟨cq141, kq141, qa141, qb141, qc141⟩ := isOf hZ e138 Ee_139
                obtain ⟨_, _, ⟨T141, L141, k141, n141⟩, -, X141, ⟨Lc141, hQ141, l141, y141, z141⟩, st141⟩ := X138.virtualBack hx (y := (⟨"com/example/shelfwright/shelfwright/packers/FirstFit", "set", "(ID)V"⟩ : MethodName)) (z := (⟨"com/example/shelfwright/shelfwright/packers/FirstFit", "set", "(ID)V"⟩ : MethodName)) hown (mvT hZ (hw _ (List.mem_of_getElem? (i := 32) rfl))) (mvT hZ (hw _ (List.mem_of_getElem? (i := 23) rfl))) (notFace_of_selects (args := #[]) (mvT hZ (hw _ (List.mem_of_getElem? (i := 25) rfl)))) (mvT hZ (hw _ (List.mem_of_getElem? (i := 25) rfl))) (mvT hZ (hw _ (List.mem_of_getElem? (i := 24) rfl))) (by decide) (own_back (W := 0) (rm4 l Z a0 hw b10 b138 kb138 vb138 fb138 cb138 pl (FP.i2d p6) h138 n0 Z138 Fl138 Fc138 Vq138 hv138 hc4138 (by omega) (own_i2d _) hn138.symm g_b138) hZ (hw _ (List.mem_of_getElem? (i := 26) rfl)) (hw _ (List.mem_of_getElem? (i := 3) rfl)) (by decide) (by decide)) qa141 qc141 (g := (mkF m 222 #[.val (.int p1), .val (.int p2), .val (.int p3), .val (.int p4), .val (.int p5), .val (.int p6), .val (.int (Int32.ofNat (3 + 1))), .val (.int ds), .val (.int (Int32.ofNat jj)), .val (.int (Int32.ofNat pl)), .val (.ref b1), .val (.double (FP.i2d p6)), .second, .val (.ref b10), .unset] [(.double (FP.i2d p6)), (.int (Int32.ofNat pl)), (.ref b10)])) rfl (by rw [hml]; rfl) (Steps.refl _) (argsL := [(.int (Int32.ofNat pl)), (.double (FP.i2d p6))]) (rest := []) (lenOf pd_2 rfl) rfl (by show 2 * 0 + _ ≤ _; exact Nat.le_of_eq rfl) (hb hby at_222) (fun _ _ => ⟨rfl, e138, (Nat.le_of_ble_eq_true rfl), (Nat.le_of_ble_eq_true rfl)⟩)
                dsimp only [Pt.U, Pt.locs, Pt.cells, Pt.slots] at X141 l141 y141 z141 st141 hQ141
                subst l141 y141 z141
                obtain ⟨vz141, fz141, rfl, Nq141, Kq141, Vq141, hz141, hkz141⟩ := hQ141
                have N141 := Fr.app N138 Nq141
                obtain ⟨h141, e141⟩ : ∃ z, T141.heap = z := ⟨_, rfl⟩
                rw [e141] at Kq141 Vq141
                have Ee_142 := Ee_139.keep Kq141
                have Vx9_143 := Vx9_140.keep Kq141 (ninS hnx138 nin0)
                have Fl138_144 := Fl138.keep Kq141 (ninS (Ne.symm hn138) nin0)
                have Fc138_145 := Fc138.keep Kq141 (ninS (Ne.symm hn138) nin0)
                have Fn138_146 := Fn138.keep Kq141 (ninS (Ne.symm hn138) nin0)
                have K141 := K138.trans Kq141 (allS (Or.inr hsz138) all0)
                have Z141 : n0 ≤ h141.size := Nat.le_trans Z138 Kq141.1
                refine own_st (T' := T141) (g' := (mkF m 225 #[.val (.int p1), .val (.int p2), .val (.int p3), .val (.int p4), .val (.int p5), .val (.int p6), .val (.int (Int32.ofNat (3 + 1))), .val (.int ds), .val (.int (Int32.ofNat jj)), .val (.int (Int32.ofNat pl)), .val (.ref b1), .val (.double (FP.i2d p6)), .second, .val (.ref b10), .unset] [])) (fun t9 k9 => st141.trans k9) ?_
                exact js4 _ _ _ _ _ _ _ _ X141 e141 N141 Z141 K141 Ee_142 Fl138_144 Fc138_145 Fn138_146 Vq141 Vx9_143 hz141 hc4138 hkc138 hpw138 g_b138 hn138 hnx138 hsz138 (fun i hi => by
                      rw [hkz141 i (by omega)]
                      by_cases q : i = pl
                      · rw [if_pos q, if_pos ⟨hd0, by omega, q⟩]
                      · rw [if_neg q, hkp138 i hi, if_neg (fun r => q r.2.2), if_neg (fun r => q r.2.2)])
              · refine own_st (T' := T138) (g' := (mkF m 225 #[.val (.int p1), .val (.int p2), .val (.int p3), .val (.int p4), .val (.int p5), .val (.int p6), .val (.int (Int32.ofNat (3 + 1))), .val (.int ds), .val (.int (Int32.ofNat jj)), .val (.int (Int32.ofNat pl)), .val (.ref b1), .val (.double (FP.i2d p6)), .second, .val (.ref b10), .unset] [])) (fun t9 k9 => XS.icmpYes X138.here hx rfl (pc0 := 213) (pc' := 225) rfl (hb hby at_213) rfl (feq hj3).2 (by decide) (by decide) k9) ?_
                have hje : jj ≠ 3 := fun q => hj3 (by rw [q]; rfl)
                exact js4 _ _ _ _ _ _ _ _ X138 e138 N138 Z138 K138 Ee_139 Fl138 Fc138 Fn138 Vq138 Vx9_140 hv138 hc4138 hkc138 hpw138 g_b138 hn138 hnx138 hsz138 (fun i hi => by
                      rw [hkp138 i hi]
                      by_cases r : (¬ ds = 0 ∧ jj < 3 ∧ i = pl)
                      · rw [if_pos r, if_pos ⟨r.1, by omega, r.2.2⟩]
                      · rw [if_neg r, if_neg (fun r' => r ⟨r'.1, by omega, r'.2.2⟩)])
          refine own_st (T' := T118) (g' := (mkF m 161 #[.val (.int p1), .val (.int p2), .val (.int p3), .val (.int p4), .val (.int p5), .val (.int p6), .val (.int (Int32.ofNat (3 + 1))), .val (.int ds), .val (.int (Int32.ofNat jj)), .val (.int (Int32.ofNat pl)), .val (.ref b1), .val (.double (FP.i2d p6)), .second, .val (.ref b10), .unset] [(.ref b10)])) (fun t9 k9 => XS.aload X118.here hx rfl (hb hby at_159) rfl rfl k9) ?_
          refine own_st (T' := T118) (g' := (mkF m 163 #[.val (.int p1), .val (.int p2), .val (.int p3), .val (.int p4), .val (.int p5), .val (.int p6), .val (.int (Int32.ofNat (3 + 1))), .val (.int ds), .val (.int (Int32.ofNat jj)), .val (.int (Int32.ofNat pl)), .val (.ref b1), .val (.double (FP.i2d p6)), .second, .val (.ref b10), .unset] [(.ref b1), (.ref b10)])) (fun t9 k9 => XS.aload X118.here hx rfl (hb hby at_161) rfl rfl k9) ?_
          refine own_st (T' := T118) (g' := (mkF m 164 #[.val (.int p1), .val (.int p2), .val (.int p3), .val (.int p4), .val (.int p5), .val (.int p6), .val (.int (Int32.ofNat (3 + 1))), .val (.int ds), .val (.int (Int32.ofNat jj)), .val (.int (Int32.ofNat pl)), .val (.ref b1), .val (.double (FP.i2d p6)), .second, .val (.ref b10), .unset] [(.int (2 : Int32)), (.ref b1), (.ref b10)])) (fun t9 k9 => XS.iconst X118.here hx rfl (hb hby at_163) k9) ?_
          obtain ⟨clu147, Aru147, qu147, Su147, Nu147, Hu147, Gu147⟩ := (id Vx9)
          have hinu147 := inb_of Su147 (j := (2 : Int32)) ⟨by decide, by decide⟩
          refine own_st (T' := T118) (g' := (mkF m 165 #[.val (.int p1), .val (.int p2), .val (.int p3), .val (.int p4), .val (.int p5), .val (.int p6), .val (.int (Int32.ofNat (3 + 1))), .val (.int ds), .val (.int (Int32.ofNat jj)), .val (.int (Int32.ofNat pl)), .val (.ref b1), .val (.double (FP.i2d p6)), .second, .val (.ref b10), .unset] [(.double ((own_dk (FP.i2d p2) (FP.i2d p3) (FP.i2d p4) (FP.i2d p5)) 2)), (.ref b10)])) (fun t9 k9 => X118.daload hx (j := (2 : Int32)) (v := (.double ((own_dk (FP.i2d p2) (FP.i2d p3) (FP.i2d p4) (FP.i2d p5)) 2))) (by rw [e118]; exact Aru147.1) (State.isArrayOf_alike hZ.alike Aru147.2.1) Aru147.2.2 hinu147 (Hu147.at hinu147 (hX.2 2 (by decide)).1) (g := (mkF m 164 #[.val (.int p1), .val (.int p2), .val (.int p3), .val (.int p4), .val (.int p5), .val (.int p6), .val (.int (Int32.ofNat (3 + 1))), .val (.int ds), .val (.int (Int32.ofNat jj)), .val (.int (Int32.ofNat pl)), .val (.ref b1), .val (.double (FP.i2d p6)), .second, .val (.ref b10), .unset] [(.int (2 : Int32)), (.ref b1), (.ref b10)])) rfl rfl (hb hby at_164) t9 k9) ?_
          have Kb148 := K118
          have lx := Vx9.lt
          have la := Ee.lt
          obtain ⟨cq148, kq148, qa148, qb148, qc148⟩ := isOf hZ e118 Ee
          obtain ⟨_, _, ⟨T148, L148, k148, n148⟩, -, X148, ⟨Lc148, hQ148, l148, y148, z148⟩, st148⟩ := X118.virtualBack hx (y := (⟨"com/example/shelfwright/shelfwright/packers/FirstFit", "add", "(D)I"⟩ : MethodName)) (z := (⟨"com/example/shelfwright/shelfwright/packers/FirstFit", "add", "(D)I"⟩ : MethodName)) hown (mvT hZ (hw _ (List.mem_of_getElem? (i := 15) rfl))) (mvT hZ (hw _ (List.mem_of_getElem? (i := 16) rfl))) (notFace_of_selects (args := #[]) (mvT hZ (hw _ (List.mem_of_getElem? (i := 18) rfl)))) (mvT hZ (hw _ (List.mem_of_getElem? (i := 18) rfl))) (mvT hZ (hw _ (List.mem_of_getElem? (i := 17) rfl))) (by decide) (own_back (W := 0) (rm3 l Z a0 hw b10 dd _ vq fq cq 2 ((own_dk (FP.i2d p2) (FP.i2d p3) (FP.i2d p4) (FP.i2d p5)) 2) h118 n0 Z118 Ee FlargestKey9 Fcapacity9 Fcount9 Vd9 hq (by omega) hcq (by omega) (by omega) g_b10 g_dd hna (hX.2 2 (by decide)).2) hZ (hw _ (List.mem_of_getElem? (i := 19) rfl)) (hw _ (List.mem_of_getElem? (i := 3) rfl)) (by decide) (by decide)) qa148 qc148 (g := (mkF m 165 #[.val (.int p1), .val (.int p2), .val (.int p3), .val (.int p4), .val (.int p5), .val (.int p6), .val (.int (Int32.ofNat (3 + 1))), .val (.int ds), .val (.int (Int32.ofNat jj)), .val (.int (Int32.ofNat pl)), .val (.ref b1), .val (.double (FP.i2d p6)), .second, .val (.ref b10), .unset] [(.double ((own_dk (FP.i2d p2) (FP.i2d p3) (FP.i2d p4) (FP.i2d p5)) 2)), (.ref b10)])) rfl (by rw [hml]; rfl) (Steps.refl _) (argsL := [(.double ((own_dk (FP.i2d p2) (FP.i2d p3) (FP.i2d p4) (FP.i2d p5)) 2))]) (rest := []) (lenOf pd_1 rfl) rfl (by show 2 * 0 + _ ≤ _; exact Nat.le_of_eq rfl) (hb hby at_165) (fun _ _ => ⟨rfl, e118, (Nat.le_of_ble_eq_true rfl), (Nat.le_of_ble_eq_true rfl)⟩)
          dsimp only [Pt.U, Pt.locs, Pt.cells, Pt.slots] at X148 l148 y148 z148 st148 hQ148
          subst l148 y148 z148
          obtain ⟨b148, kb148, vb148, fb148, cb148, z148, rfl, Nq148, Kq148, hd148, g_b148, hn148, Eq148, Fl148, Fc148, Fn148, Vq148, hv148, hc4148, hkc148, hcc148, hkk148, hkn148⟩ := hQ148
          have N148 := Fr.app N118 Nq148
          obtain ⟨h148, e148⟩ : ∃ z, T148.heap = z := ⟨_, rfl⟩
          rw [e148] at Kq148 Eq148 Fl148 Fc148 Fn148 Vq148
          have Ee_149 := Ee.keep Kq148
          have Vx9_150 := Vx9.keep Kq148 (ninS ne_b1_b10 (ninS hnx nin0))
          have K148 := K118.trans Kq148 (allS (Or.inr sz_b10) (allS (Or.inr hsz) all0))
          have Z148 : n0 ≤ h148.size := Nat.le_trans Z118 Kq148.1
          refine own_st (T' := T148) (g' := (mkF m 168 #[.val (.int p1), .val (.int p2), .val (.int p3), .val (.int p4), .val (.int p5), .val (.int p6), .val (.int (Int32.ofNat (3 + 1))), .val (.int ds), .val (.int (Int32.ofNat jj)), .val (.int (Int32.ofNat pl)), .val (.ref b1), .val (.double (FP.i2d p6)), .second, .val (.ref b10), .unset] [(.int z148)])) (fun t9 k9 => st148.trans k9) ?_
          have hnx148 : b1 ≠ b148 := by
            rcases hd148 with q | q
            · rw [q]; exact hnx
            · exact Nat.ne_of_lt (Nat.lt_of_lt_of_le lx q)
          have hsz148 : h0.size ≤ b148 := by
            rcases hd148 with q | q
            · rw [q]; exact hsz
            · exact Nat.le_trans Kb148.1 q
          have hpw148 : cb148 = 4 := by
            have := hpow
            omega
          have hkp148 : ∀ i, i < 3 → fb148 (cb148 + i) = (if (¬ ds = 0 ∧ jj < 2 ∧ i = pl) then (FP.i2d p6) else (own_dk (FP.i2d p2) (FP.i2d p3) (FP.i2d p4) (FP.i2d p5)) i) := by
            intro i hi
            by_cases hl : i < 2
            · rw [hkk148 i hl]; exact hkp i hl
            · obtain rfl : i = 2 := by omega
              rw [hkn148, if_neg (by omega)]
          refine own_st (T' := T148) (g' := (mkF m 169 #[.val (.int p1), .val (.int p2), .val (.int p3), .val (.int p4), .val (.int p5), .val (.int p6), .val (.int (Int32.ofNat (3 + 1))), .val (.int ds), .val (.int (Int32.ofNat jj)), .val (.int (Int32.ofNat pl)), .val (.ref b1), .val (.double (FP.i2d p6)), .second, .val (.ref b10), .unset] [])) (fun t9 k9 => XS.pop X148.here hx rfl (hb hby at_168) rfl rfl k9) ?_
          refine own_st (T' := T148) (g' := (mkF m 171 #[.val (.int p1), .val (.int p2), .val (.int p3), .val (.int p4), .val (.int p5), .val (.int p6), .val (.int (Int32.ofNat (3 + 1))), .val (.int ds), .val (.int (Int32.ofNat jj)), .val (.int (Int32.ofNat pl)), .val (.ref b1), .val (.double (FP.i2d p6)), .second, .val (.ref b10), .unset] [(.int ds)])) (fun t9 k9 => XS.iload X148.here hx rfl (hb hby at_169) rfl k9) ?_
          by_cases hd0 : ds = (0 : Int32)
          · refine own_st (T' := T148) (g' := (mkF m 189 #[.val (.int p1), .val (.int p2), .val (.int p3), .val (.int p4), .val (.int p5), .val (.int p6), .val (.int (Int32.ofNat (3 + 1))), .val (.int ds), .val (.int (Int32.ofNat jj)), .val (.int (Int32.ofNat pl)), .val (.ref b1), .val (.double (FP.i2d p6)), .second, .val (.ref b10), .unset] [])) (fun t9 k9 => XS.ifYes X148.here hx rfl (pc0 := 171) (pc' := 189) rfl (hb hby at_171) rfl ((if0 _ _).trans (teq hd0).1) (by decide) (by decide) k9) ?_
            exact js3 _ _ _ _ _ _ _ _ X148 e148 N148 Z148 K148 Ee_149 Fl148 Fc148 Fn148 Vq148 Vx9_150 hv148 hc4148 hkc148 hpw148 g_b148 hn148 hnx148 hsz148 (fun i hi => by rw [hkp148 i hi, if_neg (fun q => q.1 hd0), if_neg (fun q => q.1 hd0)])
          · refine own_st (T' := T148) (g' := (mkF m 174 #[.val (.int p1), .val (.int p2), .val (.int p3), .val (.int p4), .val (.int p5), .val (.int p6), .val (.int (Int32.ofNat (3 + 1))), .val (.int ds), .val (.int (Int32.ofNat jj)), .val (.int (Int32.ofNat pl)), .val (.ref b1), .val (.double (FP.i2d p6)), .second, .val (.ref b10), .unset] [])) (fun t9 k9 => XS.ifNo X148.here hx rfl (hb hby at_171) rfl ((if0 _ _).trans (feq hd0).1) k9) ?_
            refine own_st (T' := T148) (g' := (mkF m 176 #[.val (.int p1), .val (.int p2), .val (.int p3), .val (.int p4), .val (.int p5), .val (.int p6), .val (.int (Int32.ofNat (3 + 1))), .val (.int ds), .val (.int (Int32.ofNat jj)), .val (.int (Int32.ofNat pl)), .val (.ref b1), .val (.double (FP.i2d p6)), .second, .val (.ref b10), .unset] [(.int (Int32.ofNat jj))])) (fun t9 k9 => XS.iload X148.here hx rfl (hb hby at_174) rfl k9) ?_
            refine own_st (T' := T148) (g' := (mkF m 177 #[.val (.int p1), .val (.int p2), .val (.int p3), .val (.int p4), .val (.int p5), .val (.int p6), .val (.int (Int32.ofNat (3 + 1))), .val (.int ds), .val (.int (Int32.ofNat jj)), .val (.int (Int32.ofNat pl)), .val (.ref b1), .val (.double (FP.i2d p6)), .second, .val (.ref b10), .unset] [(.int (2 : Int32)), (.int (Int32.ofNat jj))])) (fun t9 k9 => XS.iconst X148.here hx rfl (hb hby at_176) k9) ?_
            by_cases hj2 : (Int32.ofNat jj) = (2 : Int32)
            · refine own_st (T' := T148) (g' := (mkF m 180 #[.val (.int p1), .val (.int p2), .val (.int p3), .val (.int p4), .val (.int p5), .val (.int p6), .val (.int (Int32.ofNat (3 + 1))), .val (.int ds), .val (.int (Int32.ofNat jj)), .val (.int (Int32.ofNat pl)), .val (.ref b1), .val (.double (FP.i2d p6)), .second, .val (.ref b10), .unset] [])) (fun t9 k9 => XS.icmpNo X148.here hx rfl (hb hby at_177) rfl (teq hj2).2 k9) ?_
              have hje : jj = 2 := own_eq' (n := 2) hj2 (by omega) (by omega)
              refine own_st (T' := T148) (g' := (mkF m 182 #[.val (.int p1), .val (.int p2), .val (.int p3), .val (.int p4), .val (.int p5), .val (.int p6), .val (.int (Int32.ofNat (3 + 1))), .val (.int ds), .val (.int (Int32.ofNat jj)), .val (.int (Int32.ofNat pl)), .val (.ref b1), .val (.double (FP.i2d p6)), .second, .val (.ref b10), .unset] [(.ref b10)])) (fun t9 k9 => XS.aload X148.here hx rfl (hb hby at_180) rfl rfl k9) ?_
              refine own_st (T' := T148) (g' := (mkF m 184 #[.val (.int p1), .val (.int p2), .val (.int p3), .val (.int p4), .val (.int p5), .val (.int p6), .val (.int (Int32.ofNat (3 + 1))), .val (.int ds), .val (.int (Int32.ofNat jj)), .val (.int (Int32.ofNat pl)), .val (.ref b1), .val (.double (FP.i2d p6)), .second, .val (.ref b10), .unset] [(.int (Int32.ofNat pl)), (.ref b10)])) (fun t9 k9 => XS.iload X148.here hx rfl (hb hby at_182) rfl k9) ?_
              refine own_st (T' := T148) (g' := (mkF m 186 #[.val (.int p1), .val (.int p2), .val (.int p3), .val (.int p4), .val (.int p5), .val (.int p6), .val (.int (Int32.ofNat (3 + 1))), .val (.int ds), .val (.int (Int32.ofNat jj)), .val (.int (Int32.ofNat pl)), .val (.ref b1), .val (.double (FP.i2d p6)), .second, .val (.ref b10), .unset] [(.double (FP.i2d p6)), (.int (Int32.ofNat pl)), (.ref b10)])) (fun t9 k9 => XS.dload X148.here hx rfl (hb hby at_184) rfl k9) ?_
              have Kb2 := K148
              obtain ⟨cq151, kq151, qa151, qb151, qc151⟩ := isOf hZ e148 Ee_149
              obtain ⟨_, _, ⟨T151, L151, k151, n151⟩, -, X151, ⟨Lc151, hQ151, l151, y151, z151⟩, st151⟩ := X148.virtualBack hx (y := (⟨"com/example/shelfwright/shelfwright/packers/FirstFit", "set", "(ID)V"⟩ : MethodName)) (z := (⟨"com/example/shelfwright/shelfwright/packers/FirstFit", "set", "(ID)V"⟩ : MethodName)) hown (mvT hZ (hw _ (List.mem_of_getElem? (i := 32) rfl))) (mvT hZ (hw _ (List.mem_of_getElem? (i := 23) rfl))) (notFace_of_selects (args := #[]) (mvT hZ (hw _ (List.mem_of_getElem? (i := 25) rfl)))) (mvT hZ (hw _ (List.mem_of_getElem? (i := 25) rfl))) (mvT hZ (hw _ (List.mem_of_getElem? (i := 24) rfl))) (by decide) (own_back (W := 0) (rm4 l Z a0 hw b10 b148 kb148 vb148 fb148 cb148 pl (FP.i2d p6) h148 n0 Z148 Fl148 Fc148 Vq148 hv148 hc4148 (by omega) (own_i2d _) hn148.symm g_b148) hZ (hw _ (List.mem_of_getElem? (i := 26) rfl)) (hw _ (List.mem_of_getElem? (i := 3) rfl)) (by decide) (by decide)) qa151 qc151 (g := (mkF m 186 #[.val (.int p1), .val (.int p2), .val (.int p3), .val (.int p4), .val (.int p5), .val (.int p6), .val (.int (Int32.ofNat (3 + 1))), .val (.int ds), .val (.int (Int32.ofNat jj)), .val (.int (Int32.ofNat pl)), .val (.ref b1), .val (.double (FP.i2d p6)), .second, .val (.ref b10), .unset] [(.double (FP.i2d p6)), (.int (Int32.ofNat pl)), (.ref b10)])) rfl (by rw [hml]; rfl) (Steps.refl _) (argsL := [(.int (Int32.ofNat pl)), (.double (FP.i2d p6))]) (rest := []) (lenOf pd_2 rfl) rfl (by show 2 * 0 + _ ≤ _; exact Nat.le_of_eq rfl) (hb hby at_186) (fun _ _ => ⟨rfl, e148, (Nat.le_of_ble_eq_true rfl), (Nat.le_of_ble_eq_true rfl)⟩)
              dsimp only [Pt.U, Pt.locs, Pt.cells, Pt.slots] at X151 l151 y151 z151 st151 hQ151
              subst l151 y151 z151
              obtain ⟨vz151, fz151, rfl, Nq151, Kq151, Vq151, hz151, hkz151⟩ := hQ151
              have N151 := Fr.app N148 Nq151
              obtain ⟨h151, e151⟩ : ∃ z, T151.heap = z := ⟨_, rfl⟩
              rw [e151] at Kq151 Vq151
              have Ee_152 := Ee_149.keep Kq151
              have Vx9_153 := Vx9_150.keep Kq151 (ninS hnx148 nin0)
              have Fl148_154 := Fl148.keep Kq151 (ninS (Ne.symm hn148) nin0)
              have Fc148_155 := Fc148.keep Kq151 (ninS (Ne.symm hn148) nin0)
              have Fn148_156 := Fn148.keep Kq151 (ninS (Ne.symm hn148) nin0)
              have K151 := K148.trans Kq151 (allS (Or.inr hsz148) all0)
              have Z151 : n0 ≤ h151.size := Nat.le_trans Z148 Kq151.1
              refine own_st (T' := T151) (g' := (mkF m 189 #[.val (.int p1), .val (.int p2), .val (.int p3), .val (.int p4), .val (.int p5), .val (.int p6), .val (.int (Int32.ofNat (3 + 1))), .val (.int ds), .val (.int (Int32.ofNat jj)), .val (.int (Int32.ofNat pl)), .val (.ref b1), .val (.double (FP.i2d p6)), .second, .val (.ref b10), .unset] [])) (fun t9 k9 => st151.trans k9) ?_
              exact js3 _ _ _ _ _ _ _ _ X151 e151 N151 Z151 K151 Ee_152 Fl148_154 Fc148_155 Fn148_156 Vq151 Vx9_153 hz151 hc4148 hkc148 hpw148 g_b148 hn148 hnx148 hsz148 (fun i hi => by
                    rw [hkz151 i (by omega)]
                    by_cases q : i = pl
                    · rw [if_pos q, if_pos ⟨hd0, by omega, q⟩]
                    · rw [if_neg q, hkp148 i hi, if_neg (fun r => q r.2.2), if_neg (fun r => q r.2.2)])
            · refine own_st (T' := T148) (g' := (mkF m 189 #[.val (.int p1), .val (.int p2), .val (.int p3), .val (.int p4), .val (.int p5), .val (.int p6), .val (.int (Int32.ofNat (3 + 1))), .val (.int ds), .val (.int (Int32.ofNat jj)), .val (.int (Int32.ofNat pl)), .val (.ref b1), .val (.double (FP.i2d p6)), .second, .val (.ref b10), .unset] [])) (fun t9 k9 => XS.icmpYes X148.here hx rfl (pc0 := 177) (pc' := 189) rfl (hb hby at_177) rfl (feq hj2).2 (by decide) (by decide) k9) ?_
              have hje : jj ≠ 2 := fun q => hj2 (by rw [q]; rfl)
              exact js3 _ _ _ _ _ _ _ _ X148 e148 N148 Z148 K148 Ee_149 Fl148 Fc148 Fn148 Vq148 Vx9_150 hv148 hc4148 hkc148 hpw148 g_b148 hn148 hnx148 hsz148 (fun i hi => by
                    rw [hkp148 i hi]
                    by_cases r : (¬ ds = 0 ∧ jj < 2 ∧ i = pl)
                    · rw [if_pos r, if_pos ⟨r.1, by omega, r.2.2⟩]
                    · rw [if_neg r, if_neg (fun r' => r ⟨r'.1, by omega, r'.2.2⟩)])
        refine own_st (T' := T117) (g' := (mkF m 125 #[.val (.int p1), .val (.int p2), .val (.int p3), .val (.int p4), .val (.int p5), .val (.int p6), .val (.int (Int32.ofNat (3 + 1))), .val (.int ds), .val (.int (Int32.ofNat jj)), .val (.int (Int32.ofNat pl)), .val (.ref b1), .val (.double (FP.i2d p6)), .second, .val (.ref b10), .unset] [(.ref b10)])) (fun t9 k9 => XS.aload X117.here hx rfl (hb hby at_123) rfl rfl k9) ?_
        refine own_st (T' := T117) (g' := (mkF m 127 #[.val (.int p1), .val (.int p2), .val (.int p3), .val (.int p4), .val (.int p5), .val (.int p6), .val (.int (Int32.ofNat (3 + 1))), .val (.int ds), .val (.int (Int32.ofNat jj)), .val (.int (Int32.ofNat pl)), .val (.ref b1), .val (.double (FP.i2d p6)), .second, .val (.ref b10), .unset] [(.ref b1), (.ref b10)])) (fun t9 k9 => XS.aload X117.here hx rfl (hb hby at_125) rfl rfl k9) ?_
        refine own_st (T' := T117) (g' := (mkF m 128 #[.val (.int p1), .val (.int p2), .val (.int p3), .val (.int p4), .val (.int p5), .val (.int p6), .val (.int (Int32.ofNat (3 + 1))), .val (.int ds), .val (.int (Int32.ofNat jj)), .val (.int (Int32.ofNat pl)), .val (.ref b1), .val (.double (FP.i2d p6)), .second, .val (.ref b10), .unset] [(.int (1 : Int32)), (.ref b1), (.ref b10)])) (fun t9 k9 => XS.iconst X117.here hx rfl (hb hby at_127) k9) ?_
        obtain ⟨clu157, Aru157, qu157, Su157, Nu157, Hu157, Gu157⟩ := (id Vx9)
        have hinu157 := inb_of Su157 (j := (1 : Int32)) ⟨by decide, by decide⟩
        refine own_st (T' := T117) (g' := (mkF m 129 #[.val (.int p1), .val (.int p2), .val (.int p3), .val (.int p4), .val (.int p5), .val (.int p6), .val (.int (Int32.ofNat (3 + 1))), .val (.int ds), .val (.int (Int32.ofNat jj)), .val (.int (Int32.ofNat pl)), .val (.ref b1), .val (.double (FP.i2d p6)), .second, .val (.ref b10), .unset] [(.double ((own_dk (FP.i2d p2) (FP.i2d p3) (FP.i2d p4) (FP.i2d p5)) 1)), (.ref b10)])) (fun t9 k9 => X117.daload hx (j := (1 : Int32)) (v := (.double ((own_dk (FP.i2d p2) (FP.i2d p3) (FP.i2d p4) (FP.i2d p5)) 1))) (by rw [e117]; exact Aru157.1) (State.isArrayOf_alike hZ.alike Aru157.2.1) Aru157.2.2 hinu157 (Hu157.at hinu157 (hX.2 1 (by decide)).1) (g := (mkF m 128 #[.val (.int p1), .val (.int p2), .val (.int p3), .val (.int p4), .val (.int p5), .val (.int p6), .val (.int (Int32.ofNat (3 + 1))), .val (.int ds), .val (.int (Int32.ofNat jj)), .val (.int (Int32.ofNat pl)), .val (.ref b1), .val (.double (FP.i2d p6)), .second, .val (.ref b10), .unset] [(.int (1 : Int32)), (.ref b1), (.ref b10)])) rfl rfl (hb hby at_128) t9 k9) ?_
        have Kb158 := K117
        have lx := Vx9.lt
        have la := Ee.lt
        obtain ⟨cq158, kq158, qa158, qb158, qc158⟩ := isOf hZ e117 Ee
        obtain ⟨_, _, ⟨T158, L158, k158, n158⟩, -, X158, ⟨Lc158, hQ158, l158, y158, z158⟩, st158⟩ := X117.virtualBack hx (y := (⟨"com/example/shelfwright/shelfwright/packers/FirstFit", "add", "(D)I"⟩ : MethodName)) (z := (⟨"com/example/shelfwright/shelfwright/packers/FirstFit", "add", "(D)I"⟩ : MethodName)) hown (mvT hZ (hw _ (List.mem_of_getElem? (i := 15) rfl))) (mvT hZ (hw _ (List.mem_of_getElem? (i := 16) rfl))) (notFace_of_selects (args := #[]) (mvT hZ (hw _ (List.mem_of_getElem? (i := 18) rfl)))) (mvT hZ (hw _ (List.mem_of_getElem? (i := 18) rfl))) (mvT hZ (hw _ (List.mem_of_getElem? (i := 17) rfl))) (by decide) (own_back (W := 0) (rm3 l Z a0 hw b10 dd _ vq fq cq 1 ((own_dk (FP.i2d p2) (FP.i2d p3) (FP.i2d p4) (FP.i2d p5)) 1) h117 n0 Z117 Ee FlargestKey9 Fcapacity9 Fcount9 Vd9 hq (by omega) hcq (by omega) (by omega) g_b10 g_dd hna (hX.2 1 (by decide)).2) hZ (hw _ (List.mem_of_getElem? (i := 19) rfl)) (hw _ (List.mem_of_getElem? (i := 3) rfl)) (by decide) (by decide)) qa158 qc158 (g := (mkF m 129 #[.val (.int p1), .val (.int p2), .val (.int p3), .val (.int p4), .val (.int p5), .val (.int p6), .val (.int (Int32.ofNat (3 + 1))), .val (.int ds), .val (.int (Int32.ofNat jj)), .val (.int (Int32.ofNat pl)), .val (.ref b1), .val (.double (FP.i2d p6)), .second, .val (.ref b10), .unset] [(.double ((own_dk (FP.i2d p2) (FP.i2d p3) (FP.i2d p4) (FP.i2d p5)) 1)), (.ref b10)])) rfl (by rw [hml]; rfl) (Steps.refl _) (argsL := [(.double ((own_dk (FP.i2d p2) (FP.i2d p3) (FP.i2d p4) (FP.i2d p5)) 1))]) (rest := []) (lenOf pd_1 rfl) rfl (by show 2 * 0 + _ ≤ _; exact Nat.le_of_eq rfl) (hb hby at_129) (fun _ _ => ⟨rfl, e117, (Nat.le_of_ble_eq_true rfl), (Nat.le_of_ble_eq_true rfl)⟩)
        dsimp only [Pt.U, Pt.locs, Pt.cells, Pt.slots] at X158 l158 y158 z158 st158 hQ158
        subst l158 y158 z158
        obtain ⟨b158, kb158, vb158, fb158, cb158, z158, rfl, Nq158, Kq158, hd158, g_b158, hn158, Eq158, Fl158, Fc158, Fn158, Vq158, hv158, hc4158, hkc158, hcc158, hkk158, hkn158⟩ := hQ158
        have N158 := Fr.app N117 Nq158
        obtain ⟨h158, e158⟩ : ∃ z, T158.heap = z := ⟨_, rfl⟩
        rw [e158] at Kq158 Eq158 Fl158 Fc158 Fn158 Vq158
        have Ee_159 := Ee.keep Kq158
        have Vx9_160 := Vx9.keep Kq158 (ninS ne_b1_b10 (ninS hnx nin0))
        have K158 := K117.trans Kq158 (allS (Or.inr sz_b10) (allS (Or.inr hsz) all0))
        have Z158 : n0 ≤ h158.size := Nat.le_trans Z117 Kq158.1
        refine own_st (T' := T158) (g' := (mkF m 132 #[.val (.int p1), .val (.int p2), .val (.int p3), .val (.int p4), .val (.int p5), .val (.int p6), .val (.int (Int32.ofNat (3 + 1))), .val (.int ds), .val (.int (Int32.ofNat jj)), .val (.int (Int32.ofNat pl)), .val (.ref b1), .val (.double (FP.i2d p6)), .second, .val (.ref b10), .unset] [(.int z158)])) (fun t9 k9 => st158.trans k9) ?_
        have hnx158 : b1 ≠ b158 := by
          rcases hd158 with q | q
          · rw [q]; exact hnx
          · exact Nat.ne_of_lt (Nat.lt_of_lt_of_le lx q)
        have hsz158 : h0.size ≤ b158 := by
          rcases hd158 with q | q
          · rw [q]; exact hsz
          · exact Nat.le_trans Kb158.1 q
        have hpw158 : cb158 = 2 := by
          have := hpow
          omega
        have hkp158 : ∀ i, i < 2 → fb158 (cb158 + i) = (if (¬ ds = 0 ∧ jj < 1 ∧ i = pl) then (FP.i2d p6) else (own_dk (FP.i2d p2) (FP.i2d p3) (FP.i2d p4) (FP.i2d p5)) i) := by
          intro i hi
          by_cases hl : i < 1
          · rw [hkk158 i hl]; exact hkp i hl
          · obtain rfl : i = 1 := by omega
            rw [hkn158, if_neg (by omega)]
        refine own_st (T' := T158) (g' := (mkF m 133 #[.val (.int p1), .val (.int p2), .val (.int p3), .val (.int p4), .val (.int p5), .val (.int p6), .val (.int (Int32.ofNat (3 + 1))), .val (.int ds), .val (.int (Int32.ofNat jj)), .val (.int (Int32.ofNat pl)), .val (.ref b1), .val (.double (FP.i2d p6)), .second, .val (.ref b10), .unset] [])) (fun t9 k9 => XS.pop X158.here hx rfl (hb hby at_132) rfl rfl k9) ?_
        refine own_st (T' := T158) (g' := (mkF m 135 #[.val (.int p1), .val (.int p2), .val (.int p3), .val (.int p4), .val (.int p5), .val (.int p6), .val (.int (Int32.ofNat (3 + 1))), .val (.int ds), .val (.int (Int32.ofNat jj)), .val (.int (Int32.ofNat pl)), .val (.ref b1), .val (.double (FP.i2d p6)), .second, .val (.ref b10), .unset] [(.int ds)])) (fun t9 k9 => XS.iload X158.here hx rfl (hb hby at_133) rfl k9) ?_
        by_cases hd0 : ds = (0 : Int32)
        · refine own_st (T' := T158) (g' := (mkF m 153 #[.val (.int p1), .val (.int p2), .val (.int p3), .val (.int p4), .val (.int p5), .val (.int p6), .val (.int (Int32.ofNat (3 + 1))), .val (.int ds), .val (.int (Int32.ofNat jj)), .val (.int (Int32.ofNat pl)), .val (.ref b1), .val (.double (FP.i2d p6)), .second, .val (.ref b10), .unset] [])) (fun t9 k9 => XS.ifYes X158.here hx rfl (pc0 := 135) (pc' := 153) rfl (hb hby at_135) rfl ((if0 _ _).trans (teq hd0).1) (by decide) (by decide) k9) ?_
          exact js2 _ _ _ _ _ _ _ _ X158 e158 N158 Z158 K158 Ee_159 Fl158 Fc158 Fn158 Vq158 Vx9_160 hv158 hc4158 hkc158 hpw158 g_b158 hn158 hnx158 hsz158 (fun i hi => by rw [hkp158 i hi, if_neg (fun q => q.1 hd0), if_neg (fun q => q.1 hd0)])
        · refine own_st (T' := T158) (g' := (mkF m 138 #[.val (.int p1), .val (.int p2), .val (.int p3), .val (.int p4), .val (.int p5), .val (.int p6), .val (.int (Int32.ofNat (3 + 1))), .val (.int ds), .val (.int (Int32.ofNat jj)), .val (.int (Int32.ofNat pl)), .val (.ref b1), .val (.double (FP.i2d p6)), .second, .val (.ref b10), .unset] [])) (fun t9 k9 => XS.ifNo X158.here hx rfl (hb hby at_135) rfl ((if0 _ _).trans (feq hd0).1) k9) ?_
          refine own_st (T' := T158) (g' := (mkF m 140 #[.val (.int p1), .val (.int p2), .val (.int p3), .val (.int p4), .val (.int p5), .val (.int p6), .val (.int (Int32.ofNat (3 + 1))), .val (.int ds), .val (.int (Int32.ofNat jj)), .val (.int (Int32.ofNat pl)), .val (.ref b1), .val (.double (FP.i2d p6)), .second, .val (.ref b10), .unset] [(.int (Int32.ofNat jj))])) (fun t9 k9 => XS.iload X158.here hx rfl (hb hby at_138) rfl k9) ?_
          refine own_st (T' := T158) (g' := (mkF m 141 #[.val (.int p1), .val (.int p2), .val (.int p3), .val (.int p4), .val (.int p5), .val (.int p6), .val (.int (Int32.ofNat (3 + 1))), .val (.int ds), .val (.int (Int32.ofNat jj)), .val (.int (Int32.ofNat pl)), .val (.ref b1), .val (.double (FP.i2d p6)), .second, .val (.ref b10), .unset] [(.int (1 : Int32)), (.int (Int32.ofNat jj))])) (fun t9 k9 => XS.iconst X158.here hx rfl (hb hby at_140) k9) ?_
          by_cases hj1 : (Int32.ofNat jj) = (1 : Int32)
          · refine own_st (T' := T158) (g' := (mkF m 144 #[.val (.int p1), .val (.int p2), .val (.int p3), .val (.int p4), .val (.int p5), .val (.int p6), .val (.int (Int32.ofNat (3 + 1))), .val (.int ds), .val (.int (Int32.ofNat jj)), .val (.int (Int32.ofNat pl)), .val (.ref b1), .val (.double (FP.i2d p6)), .second, .val (.ref b10), .unset] [])) (fun t9 k9 => XS.icmpNo X158.here hx rfl (hb hby at_141) rfl (teq hj1).2 k9) ?_
            have hje : jj = 1 := own_eq' (n := 1) hj1 (by omega) (by omega)
            refine own_st (T' := T158) (g' := (mkF m 146 #[.val (.int p1), .val (.int p2), .val (.int p3), .val (.int p4), .val (.int p5), .val (.int p6), .val (.int (Int32.ofNat (3 + 1))), .val (.int ds), .val (.int (Int32.ofNat jj)), .val (.int (Int32.ofNat pl)), .val (.ref b1), .val (.double (FP.i2d p6)), .second, .val (.ref b10), .unset] [(.ref b10)])) (fun t9 k9 => XS.aload X158.here hx rfl (hb hby at_144) rfl rfl k9) ?_
            refine own_st (T' := T158) (g' := (mkF m 148 #[.val (.int p1), .val (.int p2), .val (.int p3), .val (.int p4), .val (.int p5), .val (.int p6), .val (.int (Int32.ofNat (3 + 1))), .val (.int ds), .val (.int (Int32.ofNat jj)), .val (.int (Int32.ofNat pl)), .val (.ref b1), .val (.double (FP.i2d p6)), .second, .val (.ref b10), .unset] [(.int (Int32.ofNat pl)), (.ref b10)])) (fun t9 k9 => XS.iload X158.here hx rfl (hb hby at_146) rfl k9) ?_
            refine own_st (T' := T158) (g' := (mkF m 150 #[.val (.int p1), .val (.int p2), .val (.int p3), .val (.int p4), .val (.int p5), .val (.int p6), .val (.int (Int32.ofNat (3 + 1))), .val (.int ds), .val (.int (Int32.ofNat jj)), .val (.int (Int32.ofNat pl)), .val (.ref b1), .val (.double (FP.i2d p6)), .second, .val (.ref b10), .unset] [(.double (FP.i2d p6)), (.int (Int32.ofNat pl)), (.ref b10)])) (fun t9 k9 => XS.dload X158.here hx rfl (hb hby at_148) rfl k9) ?_
            have Kb2 := K158
            obtain ⟨cq161, kq161, qa161, qb161, qc161⟩ := isOf hZ e158 Ee_159
            obtain ⟨_, _, ⟨T161, L161, k161, n161⟩, -, X161, ⟨Lc161, hQ161, l161, y161, z161⟩, st161⟩ := X158.virtualBack hx (y := (⟨"com/example/shelfwright/shelfwright/packers/FirstFit", "set", "(ID)V"⟩ : MethodName)) (z := (⟨"com/example/shelfwright/shelfwright/packers/FirstFit", "set", "(ID)V"⟩ : MethodName)) hown (mvT hZ (hw _ (List.mem_of_getElem? (i := 32) rfl))) (mvT hZ (hw _ (List.mem_of_getElem? (i := 23) rfl))) (notFace_of_selects (args := #[]) (mvT hZ (hw _ (List.mem_of_getElem? (i := 25) rfl)))) (mvT hZ (hw _ (List.mem_of_getElem? (i := 25) rfl))) (mvT hZ (hw _ (List.mem_of_getElem? (i := 24) rfl))) (by decide) (own_back (W := 0) (rm4 l Z a0 hw b10 b158 kb158 vb158 fb158 cb158 pl (FP.i2d p6) h158 n0 Z158 Fl158 Fc158 Vq158 hv158 hc4158 (by omega) (own_i2d _) hn158.symm g_b158) hZ (hw _ (List.mem_of_getElem? (i := 26) rfl)) (hw _ (List.mem_of_getElem? (i := 3) rfl)) (by decide) (by decide)) qa161 qc161 (g := (mkF m 150 #[.val (.int p1), .val (.int p2), .val (.int p3), .val (.int p4), .val (.int p5), .val (.int p6), .val (.int (Int32.ofNat (3 + 1))), .val (.int ds), .val (.int (Int32.ofNat jj)), .val (.int (Int32.ofNat pl)), .val (.ref b1), .val (.double (FP.i2d p6)), .second, .val (.ref b10), .unset] [(.double (FP.i2d p6)), (.int (Int32.ofNat pl)), (.ref b10)])) rfl (by rw [hml]; rfl) (Steps.refl _) (argsL := [(.int (Int32.ofNat pl)), (.double (FP.i2d p6))]) (rest := []) (lenOf pd_2 rfl) rfl (by show 2 * 0 + _ ≤ _; exact Nat.le_of_eq rfl) (hb hby at_150) (fun _ _ => ⟨rfl, e158, (Nat.le_of_ble_eq_true rfl), (Nat.le_of_ble_eq_true rfl)⟩)
            dsimp only [Pt.U, Pt.locs, Pt.cells, Pt.slots] at X161 l161 y161 z161 st161 hQ161
            subst l161 y161 z161
            obtain ⟨vz161, fz161, rfl, Nq161, Kq161, Vq161, hz161, hkz161⟩ := hQ161
            have N161 := Fr.app N158 Nq161
            obtain ⟨h161, e161⟩ : ∃ z, T161.heap = z := ⟨_, rfl⟩
            rw [e161] at Kq161 Vq161
            have Ee_162 := Ee_159.keep Kq161
            have Vx9_163 := Vx9_160.keep Kq161 (ninS hnx158 nin0)
            have Fl158_164 := Fl158.keep Kq161 (ninS (Ne.symm hn158) nin0)
            have Fc158_165 := Fc158.keep Kq161 (ninS (Ne.symm hn158) nin0)
            have Fn158_166 := Fn158.keep Kq161 (ninS (Ne.symm hn158) nin0)
            have K161 := K158.trans Kq161 (allS (Or.inr hsz158) all0)
            have Z161 : n0 ≤ h161.size := Nat.le_trans Z158 Kq161.1
            refine own_st (T' := T161) (g' := (mkF m 153 #[.val (.int p1), .val (.int p2), .val (.int p3), .val (.int p4), .val (.int p5), .val (.int p6), .val (.int (Int32.ofNat (3 + 1))), .val (.int ds), .val (.int (Int32.ofNat jj)), .val (.int (Int32.ofNat pl)), .val (.ref b1), .val (.double (FP.i2d p6)), .second, .val (.ref b10), .unset] [])) (fun t9 k9 => st161.trans k9) ?_
            exact js2 _ _ _ _ _ _ _ _ X161 e161 N161 Z161 K161 Ee_162 Fl158_164 Fc158_165 Fn158_166 Vq161 Vx9_163 hz161 hc4158 hkc158 hpw158 g_b158 hn158 hnx158 hsz158 (fun i hi => by
                  rw [hkz161 i (by omega)]
                  by_cases q : i = pl
                  · rw [if_pos q, if_pos ⟨hd0, by omega, q⟩]
                  · rw [if_neg q, hkp158 i hi, if_neg (fun r => q r.2.2), if_neg (fun r => q r.2.2)])
          · refine own_st (T' := T158) (g' := (mkF m 153 #[.val (.int p1), .val (.int p2), .val (.int p3), .val (.int p4), .val (.int p5), .val (.int p6), .val (.int (Int32.ofNat (3 + 1))), .val (.int ds), .val (.int (Int32.ofNat jj)), .val (.int (Int32.ofNat pl)), .val (.ref b1), .val (.double (FP.i2d p6)), .second, .val (.ref b10), .unset] [])) (fun t9 k9 => XS.icmpYes X158.here hx rfl (pc0 := 141) (pc' := 153) rfl (hb hby at_141) rfl (feq hj1).2 (by decide) (by decide) k9) ?_
            have hje : jj ≠ 1 := fun q => hj1 (by rw [q]; rfl)
            exact js2 _ _ _ _ _ _ _ _ X158 e158 N158 Z158 K158 Ee_159 Fl158 Fc158 Fn158 Vq158 Vx9_160 hv158 hc4158 hkc158 hpw158 g_b158 hn158 hnx158 hsz158 (fun i hi => by
                  rw [hkp158 i hi]
                  by_cases r : (¬ ds = 0 ∧ jj < 1 ∧ i = pl)
                  · rw [if_pos r, if_pos ⟨r.1, by omega, r.2.2⟩]
                  · rw [if_neg r, if_neg (fun r' => r ⟨r'.1, by omega, r'.2.2⟩)])
      refine own_st (T' := T12) (g' := (mkF m 90 #[.val (.int p1), .val (.int p2), .val (.int p3), .val (.int p4), .val (.int p5), .val (.int p6), .val (.int (Int32.ofNat (3 + 1))), .val (.int ds), .val (.int (Int32.ofNat jj)), .val (.int (Int32.ofNat pl)), .val (.ref b1), .val (.double (FP.i2d p6)), .second, .val (.ref b10), .unset] [(.ref b10)])) (fun t9 k9 => XS.aload X12.here hx rfl (hb hby at_88) rfl rfl k9) ?_
      refine own_st (T' := T12) (g' := (mkF m 92 #[.val (.int p1), .val (.int p2), .val (.int p3), .val (.int p4), .val (.int p5), .val (.int p6), .val (.int (Int32.ofNat (3 + 1))), .val (.int ds), .val (.int (Int32.ofNat jj)), .val (.int (Int32.ofNat pl)), .val (.ref b1), .val (.double (FP.i2d p6)), .second, .val (.ref b10), .unset] [(.ref b1), (.ref b10)])) (fun t9 k9 => XS.aload X12.here hx rfl (hb hby at_90) rfl rfl k9) ?_
      refine own_st (T' := T12) (g' := (mkF m 93 #[.val (.int p1), .val (.int p2), .val (.int p3), .val (.int p4), .val (.int p5), .val (.int p6), .val (.int (Int32.ofNat (3 + 1))), .val (.int ds), .val (.int (Int32.ofNat jj)), .val (.int (Int32.ofNat pl)), .val (.ref b1), .val (.double (FP.i2d p6)), .second, .val (.ref b10), .unset] [(.int (0 : Int32)), (.ref b1), (.ref b10)])) (fun t9 k9 => XS.iconst X12.here hx rfl (hb hby at_92) k9) ?_
      obtain ⟨clu167, Aru167, qu167, Su167, Nu167, Hu167, Gu167⟩ := (id Va9_13)
      have hinu167 := inb_of Su167 (j := (0 : Int32)) ⟨by decide, by decide⟩
      refine own_st (T' := T12) (g' := (mkF m 94 #[.val (.int p1), .val (.int p2), .val (.int p3), .val (.int p4), .val (.int p5), .val (.int p6), .val (.int (Int32.ofNat (3 + 1))), .val (.int ds), .val (.int (Int32.ofNat jj)), .val (.int (Int32.ofNat pl)), .val (.ref b1), .val (.double (FP.i2d p6)), .second, .val (.ref b10), .unset] [(.double ((own_dk (FP.i2d p2) (FP.i2d p3) (FP.i2d p4) (FP.i2d p5)) 0)), (.ref b10)])) (fun t9 k9 => X12.daload hx (j := (0 : Int32)) (v := (.double ((own_dk (FP.i2d p2) (FP.i2d p3) (FP.i2d p4) (FP.i2d p5)) 0))) (by rw [e12]; exact Aru167.1) (State.isArrayOf_alike hZ.alike Aru167.2.1) Aru167.2.2 hinu167 (Hu167.at hinu167 (hX.2 0 (by decide)).1) (g := (mkF m 93 #[.val (.int p1), .val (.int p2), .val (.int p3), .val (.int p4), .val (.int p5), .val (.int p6), .val (.int (Int32.ofNat (3 + 1))), .val (.int ds), .val (.int (Int32.ofNat jj)), .val (.int (Int32.ofNat pl)), .val (.ref b1), .val (.double (FP.i2d p6)), .second, .val (.ref b10), .unset] [(.int (0 : Int32)), (.ref b1), (.ref b10)])) rfl rfl (hb hby at_93) t9 k9) ?_
      have Kb168 := K12
      have lx := Va9_13.lt
      have la := A10_14.lt
      obtain ⟨cq168, kq168, qa168, qb168, qc168⟩ := isOf hZ e12 A10_14
      obtain ⟨_, _, ⟨T168, L168, k168, n168⟩, -, X168, ⟨Lc168, hQ168, l168, y168, z168⟩, st168⟩ := X12.virtualBack hx (y := (⟨"com/example/shelfwright/shelfwright/packers/FirstFit", "add", "(D)I"⟩ : MethodName)) (z := (⟨"com/example/shelfwright/shelfwright/packers/FirstFit", "add", "(D)I"⟩ : MethodName)) hown (mvT hZ (hw _ (List.mem_of_getElem? (i := 15) rfl))) (mvT hZ (hw _ (List.mem_of_getElem? (i := 16) rfl))) (notFace_of_selects (args := #[]) (mvT hZ (hw _ (List.mem_of_getElem? (i := 18) rfl)))) (mvT hZ (hw _ (List.mem_of_getElem? (i := 18) rfl))) (mvT hZ (hw _ (List.mem_of_getElem? (i := 17) rfl))) (by decide) (own_back (W := 0) (rm3 l Z a0 hw b10 d12 _ vd12 (fun _ => (18442240474082181120 : UInt64)) 1 0 ((own_dk (FP.i2d p2) (FP.i2d p3) (FP.i2d p4) (FP.i2d p5)) 0) h12 n0 Z12 A10_14 Fl12 Fc12 Fn12 Vq12 hv12 (by decide) (by decide) (by omega) (by omega) g_b10 g_d12 hne0 (hX.2 0 (by decide)).2) hZ (hw _ (List.mem_of_getElem? (i := 19) rfl)) (hw _ (List.mem_of_getElem? (i := 3) rfl)) (by decide) (by decide)) qa168 qc168 (g := (mkF m 94 #[.val (.int p1), .val (.int p2), .val (.int p3), .val (.int p4), .val (.int p5), .val (.int p6), .val (.int (Int32.ofNat (3 + 1))), .val (.int ds), .val (.int (Int32.ofNat jj)), .val (.int (Int32.ofNat pl)), .val (.ref b1), .val (.double (FP.i2d p6)), .second, .val (.ref b10), .unset] [(.double ((own_dk (FP.i2d p2) (FP.i2d p3) (FP.i2d p4) (FP.i2d p5)) 0)), (.ref b10)])) rfl (by rw [hml]; rfl) (Steps.refl _) (argsL := [(.double ((own_dk (FP.i2d p2) (FP.i2d p3) (FP.i2d p4) (FP.i2d p5)) 0))]) (rest := []) (lenOf pd_1 rfl) rfl (by show 2 * 0 + _ ≤ _; exact Nat.le_of_eq rfl) (hb hby at_94) (fun _ _ => ⟨rfl, e12, (Nat.le_of_ble_eq_true rfl), (Nat.le_of_ble_eq_true rfl)⟩)
      dsimp only [Pt.U, Pt.locs, Pt.cells, Pt.slots] at X168 l168 y168 z168 st168 hQ168
      subst l168 y168 z168
      obtain ⟨b168, kb168, vb168, fb168, cb168, z168, rfl, Nq168, Kq168, hd168, g_b168, hn168, Eq168, Fl168, Fc168, Fn168, Vq168, hv168, hc4168, hkc168, hcc168, hkk168, hkn168⟩ := hQ168
      have N168 := Fr.app N12 Nq168
      obtain ⟨h168, e168⟩ : ∃ z, T168.heap = z := ⟨_, rfl⟩
      rw [e168] at Kq168 Eq168 Fl168 Fc168 Fn168 Vq168
      have Va9_169 := Va9_13.keep Kq168 (ninS ne_b1_b10 (ninS hnx0 nin0))
      have A10_170 := A10_14.keep Kq168
      have K168 := K12.trans Kq168 (allS (Or.inr sz_b10) (allS (Or.inr (Nat.le_trans Kp0.1 sz12)) all0))
      have Z168 : n0 ≤ h168.size := Nat.le_trans Z12 Kq168.1
      refine own_st (T' := T168) (g' := (mkF m 97 #[.val (.int p1), .val (.int p2), .val (.int p3), .val (.int p4), .val (.int p5), .val (.int p6), .val (.int (Int32.ofNat (3 + 1))), .val (.int ds), .val (.int (Int32.ofNat jj)), .val (.int (Int32.ofNat pl)), .val (.ref b1), .val (.double (FP.i2d p6)), .second, .val (.ref b10), .unset] [(.int z168)])) (fun t9 k9 => st168.trans k9) ?_
      have hnx168 : b1 ≠ b168 := by
        rcases hd168 with q | q
        · rw [q]; exact hnx0
        · exact Nat.ne_of_lt (Nat.lt_of_lt_of_le lx q)
      have hsz168 : h0.size ≤ b168 := by
        rcases hd168 with q | q
        · rw [q]; exact (Nat.le_trans Kp0.1 sz12)
        · exact Nat.le_trans Kb168.1 q
      have hpw168 : cb168 = 1 := by
        omega
      have hkp168 : ∀ i, i < 1 → fb168 (cb168 + i) = (if (¬ ds = 0 ∧ jj < 0 ∧ i = pl) then (FP.i2d p6) else (own_dk (FP.i2d p2) (FP.i2d p3) (FP.i2d p4) (FP.i2d p5)) i) := by
        intro i hi
        by_cases hl : i < 0
        · rw [hkk168 i hl]; exact (fun i hi => absurd hi (Nat.not_lt_zero i)) i hl
        · obtain rfl : i = 0 := by omega
          rw [hkn168, if_neg (by omega)]
      refine own_st (T' := T168) (g' := (mkF m 98 #[.val (.int p1), .val (.int p2), .val (.int p3), .val (.int p4), .val (.int p5), .val (.int p6), .val (.int (Int32.ofNat (3 + 1))), .val (.int ds), .val (.int (Int32.ofNat jj)), .val (.int (Int32.ofNat pl)), .val (.ref b1), .val (.double (FP.i2d p6)), .second, .val (.ref b10), .unset] [])) (fun t9 k9 => XS.pop X168.here hx rfl (hb hby at_97) rfl rfl k9) ?_
      refine own_st (T' := T168) (g' := (mkF m 100 #[.val (.int p1), .val (.int p2), .val (.int p3), .val (.int p4), .val (.int p5), .val (.int p6), .val (.int (Int32.ofNat (3 + 1))), .val (.int ds), .val (.int (Int32.ofNat jj)), .val (.int (Int32.ofNat pl)), .val (.ref b1), .val (.double (FP.i2d p6)), .second, .val (.ref b10), .unset] [(.int ds)])) (fun t9 k9 => XS.iload X168.here hx rfl (hb hby at_98) rfl k9) ?_
      by_cases hd0 : ds = (0 : Int32)
      · refine own_st (T' := T168) (g' := (mkF m 117 #[.val (.int p1), .val (.int p2), .val (.int p3), .val (.int p4), .val (.int p5), .val (.int p6), .val (.int (Int32.ofNat (3 + 1))), .val (.int ds), .val (.int (Int32.ofNat jj)), .val (.int (Int32.ofNat pl)), .val (.ref b1), .val (.double (FP.i2d p6)), .second, .val (.ref b10), .unset] [])) (fun t9 k9 => XS.ifYes X168.here hx rfl (pc0 := 100) (pc' := 117) rfl (hb hby at_100) rfl ((if0 _ _).trans (teq hd0).1) (by decide) (by decide) k9) ?_
        exact js1 _ _ _ _ _ _ _ _ X168 e168 N168 Z168 K168 A10_170 Fl168 Fc168 Fn168 Vq168 Va9_169 hv168 hc4168 hkc168 hpw168 g_b168 hn168 hnx168 hsz168 (fun i hi => by rw [hkp168 i hi, if_neg (fun q => q.1 hd0), if_neg (fun q => q.1 hd0)])
      · refine own_st (T' := T168) (g' := (mkF m 103 #[.val (.int p1), .val (.int p2), .val (.int p3), .val (.int p4), .val (.int p5), .val (.int p6), .val (.int (Int32.ofNat (3 + 1))), .val (.int ds), .val (.int (Int32.ofNat jj)), .val (.int (Int32.ofNat pl)), .val (.ref b1), .val (.double (FP.i2d p6)), .second, .val (.ref b10), .unset] [])) (fun t9 k9 => XS.ifNo X168.here hx rfl (hb hby at_100) rfl ((if0 _ _).trans (feq hd0).1) k9) ?_
        refine own_st (T' := T168) (g' := (mkF m 105 #[.val (.int p1), .val (.int p2), .val (.int p3), .val (.int p4), .val (.int p5), .val (.int p6), .val (.int (Int32.ofNat (3 + 1))), .val (.int ds), .val (.int (Int32.ofNat jj)), .val (.int (Int32.ofNat pl)), .val (.ref b1), .val (.double (FP.i2d p6)), .second, .val (.ref b10), .unset] [(.int (Int32.ofNat jj))])) (fun t9 k9 => XS.iload X168.here hx rfl (hb hby at_103) rfl k9) ?_
        by_cases hj0 : (Int32.ofNat jj) = (0 : Int32)
        · refine own_st (T' := T168) (g' := (mkF m 108 #[.val (.int p1), .val (.int p2), .val (.int p3), .val (.int p4), .val (.int p5), .val (.int p6), .val (.int (Int32.ofNat (3 + 1))), .val (.int ds), .val (.int (Int32.ofNat jj)), .val (.int (Int32.ofNat pl)), .val (.ref b1), .val (.double (FP.i2d p6)), .second, .val (.ref b10), .unset] [])) (fun t9 k9 => XS.ifNo X168.here hx rfl (hb hby at_105) rfl ((if0 _ _).trans (teq hj0).2) k9) ?_
          have hje : jj = 0 := own_eq' (n := 0) hj0 (by omega) (by omega)
          refine own_st (T' := T168) (g' := (mkF m 110 #[.val (.int p1), .val (.int p2), .val (.int p3), .val (.int p4), .val (.int p5), .val (.int p6), .val (.int (Int32.ofNat (3 + 1))), .val (.int ds), .val (.int (Int32.ofNat jj)), .val (.int (Int32.ofNat pl)), .val (.ref b1), .val (.double (FP.i2d p6)), .second, .val (.ref b10), .unset] [(.ref b10)])) (fun t9 k9 => XS.aload X168.here hx rfl (hb hby at_108) rfl rfl k9) ?_
          refine own_st (T' := T168) (g' := (mkF m 112 #[.val (.int p1), .val (.int p2), .val (.int p3), .val (.int p4), .val (.int p5), .val (.int p6), .val (.int (Int32.ofNat (3 + 1))), .val (.int ds), .val (.int (Int32.ofNat jj)), .val (.int (Int32.ofNat pl)), .val (.ref b1), .val (.double (FP.i2d p6)), .second, .val (.ref b10), .unset] [(.int (Int32.ofNat pl)), (.ref b10)])) (fun t9 k9 => XS.iload X168.here hx rfl (hb hby at_110) rfl k9) ?_
          refine own_st (T' := T168) (g' := (mkF m 114 #[.val (.int p1), .val (.int p2), .val (.int p3), .val (.int p4), .val (.int p5), .val (.int p6), .val (.int (Int32.ofNat (3 + 1))), .val (.int ds), .val (.int (Int32.ofNat jj)), .val (.int (Int32.ofNat pl)), .val (.ref b1), .val (.double (FP.i2d p6)), .second, .val (.ref b10), .unset] [(.double (FP.i2d p6)), (.int (Int32.ofNat pl)), (.ref b10)])) (fun t9 k9 => XS.dload X168.here hx rfl (hb hby at_112) rfl k9) ?_
          have Kb2 := K168
          obtain ⟨cq171, kq171, qa171, qb171, qc171⟩ := isOf hZ e168 A10_170
          obtain ⟨_, _, ⟨T171, L171, k171, n171⟩, -, X171, ⟨Lc171, hQ171, l171, y171, z171⟩, st171⟩ := X168.virtualBack hx (y := (⟨"com/example/shelfwright/shelfwright/packers/FirstFit", "set", "(ID)V"⟩ : MethodName)) (z := (⟨"com/example/shelfwright/shelfwright/packers/FirstFit", "set", "(ID)V"⟩ : MethodName)) hown (mvT hZ (hw _ (List.mem_of_getElem? (i := 32) rfl))) (mvT hZ (hw _ (List.mem_of_getElem? (i := 23) rfl))) (notFace_of_selects (args := #[]) (mvT hZ (hw _ (List.mem_of_getElem? (i := 25) rfl)))) (mvT hZ (hw _ (List.mem_of_getElem? (i := 25) rfl))) (mvT hZ (hw _ (List.mem_of_getElem? (i := 24) rfl))) (by decide) (own_back (W := 0) (rm4 l Z a0 hw b10 b168 kb168 vb168 fb168 cb168 pl (FP.i2d p6) h168 n0 Z168 Fl168 Fc168 Vq168 hv168 hc4168 (by omega) (own_i2d _) hn168.symm g_b168) hZ (hw _ (List.mem_of_getElem? (i := 26) rfl)) (hw _ (List.mem_of_getElem? (i := 3) rfl)) (by decide) (by decide)) qa171 qc171 (g := (mkF m 114 #[.val (.int p1), .val (.int p2), .val (.int p3), .val (.int p4), .val (.int p5), .val (.int p6), .val (.int (Int32.ofNat (3 + 1))), .val (.int ds), .val (.int (Int32.ofNat jj)), .val (.int (Int32.ofNat pl)), .val (.ref b1), .val (.double (FP.i2d p6)), .second, .val (.ref b10), .unset] [(.double (FP.i2d p6)), (.int (Int32.ofNat pl)), (.ref b10)])) rfl (by rw [hml]; rfl) (Steps.refl _) (argsL := [(.int (Int32.ofNat pl)), (.double (FP.i2d p6))]) (rest := []) (lenOf pd_2 rfl) rfl (by show 2 * 0 + _ ≤ _; exact Nat.le_of_eq rfl) (hb hby at_114) (fun _ _ => ⟨rfl, e168, (Nat.le_of_ble_eq_true rfl), (Nat.le_of_ble_eq_true rfl)⟩)
          dsimp only [Pt.U, Pt.locs, Pt.cells, Pt.slots] at X171 l171 y171 z171 st171 hQ171
          subst l171 y171 z171
          obtain ⟨vz171, fz171, rfl, Nq171, Kq171, Vq171, hz171, hkz171⟩ := hQ171
          have N171 := Fr.app N168 Nq171
          obtain ⟨h171, e171⟩ : ∃ z, T171.heap = z := ⟨_, rfl⟩
          rw [e171] at Kq171 Vq171
          have Va9_172 := Va9_169.keep Kq171 (ninS hnx168 nin0)
          have A10_173 := A10_170.keep Kq171
          have Fl168_174 := Fl168.keep Kq171 (ninS (Ne.symm hn168) nin0)
          have Fc168_175 := Fc168.keep Kq171 (ninS (Ne.symm hn168) nin0)
          have Fn168_176 := Fn168.keep Kq171 (ninS (Ne.symm hn168) nin0)
          have K171 := K168.trans Kq171 (allS (Or.inr hsz168) all0)
          have Z171 : n0 ≤ h171.size := Nat.le_trans Z168 Kq171.1
          refine own_st (T' := T171) (g' := (mkF m 117 #[.val (.int p1), .val (.int p2), .val (.int p3), .val (.int p4), .val (.int p5), .val (.int p6), .val (.int (Int32.ofNat (3 + 1))), .val (.int ds), .val (.int (Int32.ofNat jj)), .val (.int (Int32.ofNat pl)), .val (.ref b1), .val (.double (FP.i2d p6)), .second, .val (.ref b10), .unset] [])) (fun t9 k9 => st171.trans k9) ?_
          exact js1 _ _ _ _ _ _ _ _ X171 e171 N171 Z171 K171 A10_173 Fl168_174 Fc168_175 Fn168_176 Vq171 Va9_172 hz171 hc4168 hkc168 hpw168 g_b168 hn168 hnx168 hsz168 (fun i hi => by
                rw [hkz171 i (by omega)]
                by_cases q : i = pl
                · rw [if_pos q, if_pos ⟨hd0, by omega, q⟩]
                · rw [if_neg q, hkp168 i hi, if_neg (fun r => q r.2.2), if_neg (fun r => q r.2.2)])
        · refine own_st (T' := T168) (g' := (mkF m 117 #[.val (.int p1), .val (.int p2), .val (.int p3), .val (.int p4), .val (.int p5), .val (.int p6), .val (.int (Int32.ofNat (3 + 1))), .val (.int ds), .val (.int (Int32.ofNat jj)), .val (.int (Int32.ofNat pl)), .val (.ref b1), .val (.double (FP.i2d p6)), .second, .val (.ref b10), .unset] [])) (fun t9 k9 => XS.ifYes X168.here hx rfl (pc0 := 105) (pc' := 117) rfl (hb hby at_105) rfl ((if0 _ _).trans (feq hj0).2) (by decide) (by decide) k9) ?_
          have hje : jj ≠ 0 := fun q => hj0 (by rw [q]; rfl)
          exact js1 _ _ _ _ _ _ _ _ X168 e168 N168 Z168 K168 A10_170 Fl168 Fc168 Fn168 Vq168 Va9_169 hv168 hc4168 hkc168 hpw168 g_b168 hn168 hnx168 hsz168 (fun i hi => by
                rw [hkp168 i hi]
                by_cases r : (¬ ds = 0 ∧ jj < 0 ∧ i = pl)
                · rw [if_pos r, if_pos ⟨r.1, by omega, r.2.2⟩]
                · rw [if_neg r, if_neg (fun r' => r ⟨r'.1, by omega, r'.2.2⟩)])
  by_cases hbq : (((p1.toUInt32 >>> ((2 : Int32) &&& 31).toUInt32).toInt32) &&& (1 : Int32)) = (0 : Int32)
  · refine own_st (T' := T0) (g' := (mkF m 19 #[.val (.int p1), .val (.int p2), .val (.int p3), .val (.int p4), .val (.int p5), .val (.int p6), .val (.int (Int32.ofNat (n1 + 1))), .unset, .unset, .unset, .unset, .unset, .unset, .unset, .unset] [])) (fun t9 k9 => XS.ifYes X0.here hx rfl (pc0 := 12) (pc' := 19) rfl (hb hby at_12) rfl ((if0 _ _).trans (teq hbq).1) (by decide) (by decide) k9) ?_
    refine own_st (T' := T0) (g' := (mkF m 20 #[.val (.int p1), .val (.int p2), .val (.int p3), .val (.int p4), .val (.int p5), .val (.int p6), .val (.int (Int32.ofNat (n1 + 1))), .unset, .unset, .unset, .unset, .unset, .unset, .unset, .unset] [(.int (0 : Int32))])) (fun t9 k9 => XS.iconst X0.here hx rfl (hb hby at_19) k9) ?_
    exact j20 _ (Or.inl rfl)
  · refine own_st (T' := T0) (g' := (mkF m 15 #[.val (.int p1), .val (.int p2), .val (.int p3), .val (.int p4), .val (.int p5), .val (.int p6), .val (.int (Int32.ofNat (n1 + 1))), .unset, .unset, .unset, .unset, .unset, .unset, .unset, .unset] [])) (fun t9 k9 => XS.ifNo X0.here hx rfl (hb hby at_12) rfl ((if0 _ _).trans (feq hbq).1) k9) ?_
    refine own_st (T' := T0) (g' := (mkF m 16 #[.val (.int p1), .val (.int p2), .val (.int p3), .val (.int p4), .val (.int p5), .val (.int p6), .val (.int (Int32.ofNat (n1 + 1))), .unset, .unset, .unset, .unset, .unset, .unset, .unset, .unset] [(.int (1 : Int32))])) (fun t9 k9 => XS.iconst X0.here hx rfl (hb hby at_15) k9) ?_
    refine own_st (T' := T0) (g' := (mkF m 20 #[.val (.int p1), .val (.int p2), .val (.int p3), .val (.int p4), .val (.int p5), .val (.int p6), .val (.int (Int32.ofNat (n1 + 1))), .unset, .unset, .unset, .unset, .unset, .unset, .unset, .unset] [(.int (1 : Int32))])) (fun t9 k9 => XS.goto X0.here hx rfl (pc0 := 16) (pc' := 20) rfl (hb hby at_16) (by decide) (by decide) k9) ?_
    exact j20 _ (Or.inr rfl)
set_option maxRecDepth 65536 in
set_option maxHeartbeats 40000000 in
theorem comes_1 {Post : Tables → Env → Array Value → State → Outcome → State → Prop} (hpost : ∀ tb e args s v u, (limb_1_1.after args s (.returned v) u = true ∧ limb_1_2.after args s (.returned v) u = true ∧ True) → FrameEnd s (.returned v) u (Jvm.fieldLocs frame_1_writes args s ++ Jvm.arrayLocs frame_1_arrays args s ++ Jvm.staticLocs frame_1_statics s) 24 128 → Post tb e args s (.returned v) u) :
    ArmFor flags0 classFile x code maxLocals ret World_1 tables_1 room_1 Calls_1 rest_1 Pre_1 Post := by
  intro l hfl _ _ p e ha hc hk s m args below hf hA hF happ hP
  obtain ⟨hcalls, hrest, hpre⟩ := hP
  obtain ⟨-, -, -, hnamed, -, -, -, hat⟩ := (Spec.applies_iff hf).mp happ
  obtain ⟨hg, hn⟩ := and_e (Cond.before_iff.mp (show (Jvm.Cond.and given_1 narrow_1).before args s = true from hpre))
  obtain ⟨ga0, gb0⟩ := and_e hg
  obtain ⟨ga1, gb1⟩ := and_e gb0
  obtain ⟨ga2, gb2⟩ := and_e gb1
  obtain ⟨ga3, gb3⟩ := and_e gb2
  obtain ⟨ga4, gb4⟩ := and_e gb3
  obtain ⟨ga5, gb5⟩ := and_e gb4
  obtain ⟨w0, w1, w2, w3, w4, w5, rfl⟩ : ∃ w0 w1 w2 w3 w4 w5 : Value, args = #[w0, w1, w2, w3, w4, w5] := by
    have hs : args.size = 6 := by simpa [Cond.value, given_1] using ga0
    obtain ⟨L⟩ := args
    match L, hs with
    | [w0, w1, w2, w3, w4, w5], _ => exact ⟨w0, w1, w2, w3, w4, w5, rfl⟩
  have hw := fun d (hd : d ∈ tables_1) => atoms_spec (ws := Jvm.Cond.code x code maxLocals ret :: tables_1) hat d (List.mem_cons_of_mem _ hd)
  have hfit : Fit s := fun {y c} hc i hi => by
    obtain ⟨ha, rfl⟩ := Array.getElem?_eq_some_iff.mp hc
    have q := List.all_eq_true.mp ((Array.all_eq_true_iff_forall_mem.mp hF) _ (Array.getElem_mem ha)) i (List.mem_range.mpr hi)
    simpa [Array.getElem?_eq_getElem hi] using q
  obtain ⟨i0, ei0⟩ := is_v ga1
  obtain rfl : w0 = (.int i0) := Option.some.inj ei0
  obtain ⟨i1, ei1⟩ := is_v ga2
  obtain rfl : w1 = (.int i1) := Option.some.inj ei1
  obtain ⟨i2, ei2⟩ := is_v ga3
  obtain rfl : w2 = (.int i2) := Option.some.inj ei2
  obtain ⟨i3, ei3⟩ := is_v ga4
  obtain rfl : w3 = (.int i3) := Option.some.inj ei3
  obtain ⟨i4, ei4⟩ := is_v ga5
  obtain rfl : w4 = (.int i4) := Option.some.inj ei4
  obtain ⟨i5, ei5⟩ := is_v gb5
  obtain rfl : w5 = (.int i5) := Option.some.inj ei5
  obtain ⟨n, o, h1, h2, h3, _, L, rfl, ⟨rfl, N⟩, hq⟩ := rm0 l s _ hw i0 i1 i2 i3 i4 i5 s.heap s.heap.size (Nat.le_refl _)  tables_1 p e ha hc hk s m _ below hf ((Spec.applies_iff_loose hf).mp happ).1 ⟨rfl, State.Warmed39.refl s, rfl⟩ trivial
  refine ⟨n, _, h1, h2, h3, hpost _ _ _ _ _ _ ⟨Cond.after_iff.mpr rfl, Cond.after_iff.mpr (eq_i res_at (Term.int_eval (1)) rfl), trivial⟩ ⟨hq.1, hq.2.1, (hq.2.2.sift fun y hy => Or.inr (N y hy)).mono (by decide) (by decide)⟩⟩
theorem main_1_1 : Claimed_1_1 := comes_1 fun _ _ _ _ _ _ h hF => ⟨h.1, hF⟩
theorem main_1_2 : Claimed_1_2 := comes_1 fun _ _ _ _ _ _ h hF => ⟨h.2.1, hF⟩
end Jvm.Pilot.@@N@@
namespace Jvm.Pilot.@@N@@
open Jvm Jvm.ClassFile Sem Op Lib Jvm.Free Jvm.Stand Jvm.Pilot.@@N@@.Jvm.D
/-! MADE BY PROGRAM (witnessworld.py) out of the Statement's table words and the real class files: 14 classes; the members and pool entries that the words name. The judged class is class 1, her method 1. -/
namespace start1
open Jvm.ClassFile
def u (s : String) : CpInfo := .utf8 (stringToUtf16 s)
/-- a pool by its gaps: so many unusable entries, then the entry; so many at the end -/
def gap : Nat → List CpInfo → List CpInfo
  | 0, r => r
  | n + 1, r => .unusable :: gap n r
def poolList (es : List (Nat × CpInfo)) (last : Nat) : List CpInfo := es.foldr (fun e r => gap e.1 (e.2 :: r)) (gap last [])
def pool (es : List (Nat × CpInfo)) (last : Nat) : Array CpInfo := ⟨poolList es last⟩
def fileOf (pool : Array CpInfo) (this : Nat) (attrs : Array Attribute := #[]) (ms : Array MethodInfo := #[]) (fl : Nat := 33) (sup : Nat := 0) (ifs : Array Nat := #[]) (fds : Array FieldInfo := #[]) : ClassFile where
  minorVersion := 0
  majorVersion := 65
  constantPool := pool
  accessFlags := fl
  thisClass := this
  superClass := sup
  interfaces := ifs
  fields := fds
  methods := ms
  attributes := attrs
def plain (name : String) (sup : Option ClassId) : Class where
  name := name
  kind := .ordinary
  loader := none
  accessFlags := 33
  super := sup
  interfaces := #[]
  cf := none
  fields := #[]
  methods := #[]
  instanceTypes := #[]
  staticTypes := #[]
  resolved := #[]
  callSites := []
  init := .initialized
  statics := none
  mirror := none

def pool0 : Array CpInfo := pool [(5, u "<init>"), (0, u "()V"), (1, .class_ 10), (1, u "java/lang/Object")] 113

def k0c0 : Code := { maxStack := 0, maxLocals := 1, code := object_method_1_code, exceptionTable := #[], attributes := #[] }
def k0m0 : Method := { name := "<init>", desc := "()V", sig := { parameters := [], returnType := none }, accessFlags := 1, code := some k0c0 }
/-- java/lang/Object -/
def k0 : Class := { plain "java/lang/Object" none with
  accessFlags := 33
  interfaces := #[]
  cf := some (fileOf pool0 8 #[] #[{ accessFlags := 1, nameIndex := 5, descriptorIndex := 6, attributes := #[] }] 33 0 #[] #[])
  fields := #[]
  methods := #[k0m0]
  instanceTypes := #[]
  staticTypes := #[]
  resolved := Array.replicate 124 none
  statics := none }

def pool1 : Array CpInfo := pool [(2, .class_ 4), (0, .nameAndType 5 6), (0, u "java/lang/Object"), (0, u "<init>"), (0, u "()V"), (0, .class_ 8), (0, u "com/example/shelfwright/shelfwright/packers/FirstFit"), (0, .methodref 7 3), (0, .methodref 7 11), (0, .nameAndType 12 13), (0, u "add"), (0, u "(D)I"), (0, .methodref 7 15), (0, .nameAndType 16 17), (0, u "set"), (0, u "(ID)V"), (0, .methodref 7 19), (0, .nameAndType 20 21), (0, u "key"), (0, u "(I)D"), (0, .class_ 23), (0, u "com/example/shelfwright/shelfwright/packers/FirstFitKeyPinLaw"), (2, u "law"), (0, u "(IIIIII)Z")] 5

def k1m0 : Method := { name := "<init>", desc := "()V", sig := { parameters := [], returnType := none }, accessFlags := 1, code := none }
def k1c1 : Code := { maxStack := 4, maxLocals := 15, code := code, exceptionTable := #[], attributes := #[] }
def k1m1 : Method := { name := "law", desc := "(IIIIII)Z", sig := { parameters := [.int, .int, .int, .int, .int, .int], returnType := some .boolean }, accessFlags := 9, code := some k1c1 }
/-- com/example/shelfwright/shelfwright/packers/FirstFitKeyPinLaw -/
def k1 : Class := { plain "com/example/shelfwright/shelfwright/packers/FirstFitKeyPinLaw" (some 0) with
  accessFlags := 49
  interfaces := #[]
  cf := some (fileOf pool1 22 #[] #[{ accessFlags := 1, nameIndex := 5, descriptorIndex := 6, attributes := #[] }, { accessFlags := 9, nameIndex := 26, descriptorIndex := 27, attributes := #[] }] 49 2 #[] #[])
  fields := #[]
  methods := #[k1m0, k1m1]
  instanceTypes := #[]
  staticTypes := #[]
  resolved := Array.replicate 33 none
  statics := none }

def pool2 : Array CpInfo := pool [(1, .methodref 2 3), (0, .class_ 4), (0, .nameAndType 5 6), (0, u "java/lang/Object"), (0, u "<init>"), (0, u "()V"), (2, .double 18442240474082181120), (1, .fieldref 12 13), (0, .class_ 14), (0, .nameAndType 15 16), (0, u "com/example/shelfwright/shelfwright/packers/FirstFit"), (0, u "largestKey"), (0, u "[D"), (0, .fieldref 12 18), (0, .nameAndType 19 20), (0, u "capacity"), (0, u "I"), (0, .fieldref 12 22), (0, .nameAndType 23 20), (0, u "count"), (0, .methodref 12 25), (0, .nameAndType 26 6), (0, u "grow"), (0, .methodref 12 28), (0, .nameAndType 29 30), (0, u "set"), (0, u "(ID)V"), (0, .methodref 32 33), (0, .class_ 34), (0, .nameAndType 35 36), (0, u "java/lang/Math"), (0, u "max"), (0, u "(DD)D"), (14, .methodref 52 53), (0, .class_ 54), (0, .nameAndType 55 56), (0, u "java/util/Arrays"), (0, u "copyOfRange"), (0, u "([DII)[D"), (0, .methodref 52 58), (0, .nameAndType 59 60), (0, u "fill"), (0, u "([DD)V"), (0, .methodref 62 63), (0, .class_ 64), (0, .nameAndType 65 66), (0, u "java/lang/System"), (0, u "arraycopy"), (0, u "(Ljava/lang/Object;ILjava/lang/Object;II)V"), (2, u "add"), (0, u "(D)I"), (1, u "key"), (0, u "(I)D")] 5

def k2c0 : Code := { maxStack := 6, maxLocals := 1, code := prog_77_method_1_code, exceptionTable := #[], attributes := #[] }
def k2m0 : Method := { name := "<init>", desc := "()V", sig := { parameters := [], returnType := none }, accessFlags := 0, code := some k2c0 }
def k2c1 : Code := { maxStack := 4, maxLocals := 3, code := prog_77_method_2_code, exceptionTable := #[], attributes := #[] }
def k2m1 : Method := { name := "add", desc := "(D)I", sig := { parameters := [.double], returnType := some .int }, accessFlags := 0, code := some k2c1 }
def k2c2 : Code := { maxStack := 3, maxLocals := 2, code := prog_77_method_3_code, exceptionTable := #[], attributes := #[] }
def k2m2 : Method := { name := "key", desc := "(I)D", sig := { parameters := [.int], returnType := some .double }, accessFlags := 0, code := some k2c2 }
def k2c3 : Code := { maxStack := 7, maxLocals := 5, code := prog_77_method_4_code, exceptionTable := #[], attributes := #[] }
def k2m3 : Method := { name := "set", desc := "(ID)V", sig := { parameters := [.int, .double], returnType := none }, accessFlags := 0, code := some k2c3 }
def k2c4 : Code := { maxStack := 7, maxLocals := 3, code := prog_77_method_9_code, exceptionTable := #[], attributes := #[] }
def k2m4 : Method := { name := "grow", desc := "()V", sig := { parameters := [], returnType := none }, accessFlags := 2, code := some k2c4 }
/-- com/example/shelfwright/shelfwright/packers/FirstFit -/
def k2 : Class := { plain "com/example/shelfwright/shelfwright/packers/FirstFit" (some 0) with
  accessFlags := 32
  interfaces := #[]
  cf := some (fileOf pool2 12 #[] #[{ accessFlags := 0, nameIndex := 5, descriptorIndex := 6, attributes := #[] }, { accessFlags := 0, nameIndex := 69, descriptorIndex := 70, attributes := #[] }, { accessFlags := 0, nameIndex := 72, descriptorIndex := 73, attributes := #[] }, { accessFlags := 0, nameIndex := 29, descriptorIndex := 30, attributes := #[] }, { accessFlags := 2, nameIndex := 26, descriptorIndex := 6, attributes := #[] }] 32 2 #[] #[{ accessFlags := 2, nameIndex := 15, descriptorIndex := 16, attributes := #[] }, { accessFlags := 2, nameIndex := 19, descriptorIndex := 20, attributes := #[] }, { accessFlags := 2, nameIndex := 23, descriptorIndex := 20, attributes := #[] }])
  fields := #[{ name := "largestKey", type := (.array .double), accessFlags := 2, slot := 0, constantValue := 0 }, { name := "capacity", type := .int, accessFlags := 2, slot := 1, constantValue := 0 }, { name := "count", type := .int, accessFlags := 2, slot := 2, constantValue := 0 }]
  methods := #[k2m0, k2m1, k2m2, k2m3, k2m4]
  instanceTypes := #[(.array .double), .int, .int]
  staticTypes := #[]
  resolved := Array.replicate 79 none
  statics := none }

def pool3 : Array CpInfo := pool [(2, .class_ 4), (1, u "java/lang/Object"), (0, u "<init>"), (0, u "()V"), (7, .class_ 16), (1, u "java/util/Arrays"), (57, .class_ 76), (1, u "java/util/Arrays$NaturalOrder"), (36, .class_ 115), (1, u "java/util/Arrays$LegacyMergeSort"), (1, u "Z"), (21, u "copyOfRange"), (10, .methodref 151 152), (0, .class_ 153), (0, .nameAndType 154 155), (0, u "java/lang/System"), (0, u "arraycopy"), (0, u "(Ljava/lang/Object;ILjava/lang/Object;II)V"), (148, .methodref 305 306), (0, .class_ 307), (0, .nameAndType 308 309), (0, u "java/lang/Math"), (0, u "min"), (0, u "(II)I"), (33, .methodref 14 344), (0, .nameAndType 345 346), (0, u "checkLength"), (0, u "(II)V"), (20, .methodref 14 368), (0, .nameAndType 369 370), (0, u "copyOfRangeDouble"), (0, u "([DII)[D"), (4, .class_ 376), (0, u "java/util/Arrays$ArrayList"), (68, u "$assertionsDisabled"), (269, u "MIN_ARRAY_SORT_GRAN"), (0, u "I"), (2, u "INSERTIONSORT_THRESHOLD"), (120, u "fill"), (13, u "([DD)V"), (120, .class_ 976), (0, u "java/util/Arrays$ArrayItr")] 52

def k3m0 : Method := { name := "<init>", desc := "()V", sig := { parameters := [], returnType := none }, accessFlags := 2, code := none }
def k3c1 : Code := { maxStack := 4, maxLocals := 5, code := jdk_65_method_113_code, exceptionTable := #[], attributes := #[] }
def k3m1 : Method := { name := "fill", desc := "([DD)V", sig := { parameters := [(.array .double), .double], returnType := none }, accessFlags := 9, code := some k3c1 }
def k3c2 : Code := { maxStack := 4, maxLocals := 2, code := jdk_65_method_131_code, exceptionTable := #[], attributes := #[] }
def k3m2 : Method := { name := "checkLength", desc := "(II)V", sig := { parameters := [.int, .int], returnType := none }, accessFlags := 10, code := some k3c2 }
def k3c3 : Code := { maxStack := 3, maxLocals := 3, code := jdk_65_method_144_code, exceptionTable := #[], attributes := #[] }
def k3m3 : Method := { name := "copyOfRange", desc := "([DII)[D", sig := { parameters := [(.array .double), .int, .int], returnType := some (.array .double) }, accessFlags := 9, code := some k3c3 }
def k3c4 : Code := { maxStack := 6, maxLocals := 5, code := jdk_65_method_145_code, exceptionTable := #[], attributes := #[] }
def k3m4 : Method := { name := "copyOfRangeDouble", desc := "([DII)[D", sig := { parameters := [(.array .double), .int, .int], returnType := some (.array .double) }, accessFlags := 10, code := some k3c4 }
/-- java/util/Arrays -/
def k3 : Class := { plain "java/util/Arrays" (some 0) with
  accessFlags := 49
  interfaces := #[]
  cf := some (fileOf pool3 14 #[.nestMembers #[975, 375, 113, 74]] #[{ accessFlags := 2, nameIndex := 5, descriptorIndex := 6, attributes := #[] }, { accessFlags := 9, nameIndex := 840, descriptorIndex := 854, attributes := #[] }, { accessFlags := 10, nameIndex := 345, descriptorIndex := 346, attributes := #[] }, { accessFlags := 9, nameIndex := 139, descriptorIndex := 370, attributes := #[] }, { accessFlags := 10, nameIndex := 369, descriptorIndex := 370, attributes := #[] }] 49 2 #[] #[{ accessFlags := 26, nameIndex := 715, descriptorIndex := 716, attributes := #[] }, { accessFlags := 26, nameIndex := 719, descriptorIndex := 716, attributes := #[] }, { accessFlags := 4120, nameIndex := 445, descriptorIndex := 117, attributes := #[] }])
  fields := #[{ name := "MIN_ARRAY_SORT_GRAN", type := .int, accessFlags := 26, slot := 0, constantValue := 0 }, { name := "INSERTIONSORT_THRESHOLD", type := .int, accessFlags := 26, slot := 1, constantValue := 0 }, { name := "$assertionsDisabled", type := .boolean, accessFlags := 4120, slot := 2, constantValue := 0 }]
  methods := #[k3m0, k3m1, k3m2, k3m3, k3m4]
  instanceTypes := #[]
  staticTypes := #[.int, .int, .boolean]
  resolved := Array.replicate 1029 none
  statics := none }

def pool4 : Array CpInfo := pool [(1, .class_ 2), (0, u "java/lang/Math"), (1, .class_ 6), (1, u "java/lang/Object"), (0, u "<init>"), (0, u "()V"), (43, u "(DD)D"), (45, .class_ 100), (1, u "java/lang/Math$RandomNumberGeneratorHolder"), (71, u "negativeZeroFloatBits"), (0, u "J"), (2, u "negativeZeroDoubleBits"), (21, u "max"), (2, u "min"), (43, u "$assertionsDisabled"), (0, u "Z"), (88, u "(II)I"), (2, u "twoToTheDoubleScaleDown"), (0, u "D"), (4, u "twoToTheDoubleScaleUp"), (9, u "E"), (3, u "PI"), (2, u "TAU"), (2, u "DEGREES_TO_RADIANS"), (0, u "RADIANS_TO_DEGREES")] 94

def k4m0 : Method := { name := "<init>", desc := "()V", sig := { parameters := [], returnType := none }, accessFlags := 2, code := none }
def k4c1 : Code := { maxStack := 4, maxLocals := 4, code := jdk_29_method_68_code, exceptionTable := #[], attributes := #[] }
def k4m1 : Method := { name := "max", desc := "(DD)D", sig := { parameters := [.double, .double], returnType := some .double }, accessFlags := 9, code := some k4c1 }
def k4c2 : Code := { maxStack := 2, maxLocals := 2, code := jdk_29_method_69_code, exceptionTable := #[], attributes := #[] }
def k4m2 : Method := { name := "min", desc := "(II)I", sig := { parameters := [.int, .int], returnType := some .int }, accessFlags := 9, code := some k4c2 }
/-- java/lang/Math -/
def k4 : Class := { plain "java/lang/Math" (some 0) with
  accessFlags := 49
  interfaces := #[]
  cf := some (fileOf pool4 1 #[.nestMembers #[98]] #[{ accessFlags := 2, nameIndex := 7, descriptorIndex := 8, attributes := #[] }, { accessFlags := 9, nameIndex := 198, descriptorIndex := 52, attributes := #[] }, { accessFlags := 9, nameIndex := 201, descriptorIndex := 335, attributes := #[] }] 49 4 #[] #[{ accessFlags := 25, nameIndex := 354, descriptorIndex := 339, attributes := #[] }, { accessFlags := 25, nameIndex := 358, descriptorIndex := 339, attributes := #[] }, { accessFlags := 25, nameIndex := 361, descriptorIndex := 339, attributes := #[] }, { accessFlags := 26, nameIndex := 364, descriptorIndex := 339, attributes := #[] }, { accessFlags := 26, nameIndex := 365, descriptorIndex := 339, attributes := #[] }, { accessFlags := 26, nameIndex := 172, descriptorIndex := 173, attributes := #[] }, { accessFlags := 26, nameIndex := 176, descriptorIndex := 173, attributes := #[] }, { accessFlags := 8, nameIndex := 344, descriptorIndex := 339, attributes := #[] }, { accessFlags := 8, nameIndex := 338, descriptorIndex := 339, attributes := #[] }, { accessFlags := 4120, nameIndex := 245, descriptorIndex := 246, attributes := #[] }])
  fields := #[{ name := "E", type := .double, accessFlags := 25, slot := 0, constantValue := 0 }, { name := "PI", type := .double, accessFlags := 25, slot := 1, constantValue := 0 }, { name := "TAU", type := .double, accessFlags := 25, slot := 2, constantValue := 0 }, { name := "DEGREES_TO_RADIANS", type := .double, accessFlags := 26, slot := 3, constantValue := 0 }, { name := "RADIANS_TO_DEGREES", type := .double, accessFlags := 26, slot := 4, constantValue := 0 }, { name := "negativeZeroFloatBits", type := .long, accessFlags := 26, slot := 5, constantValue := 0 }, { name := "negativeZeroDoubleBits", type := .long, accessFlags := 26, slot := 6, constantValue := 0 }, { name := "twoToTheDoubleScaleUp", type := .double, accessFlags := 8, slot := 7, constantValue := 0 }, { name := "twoToTheDoubleScaleDown", type := .double, accessFlags := 8, slot := 8, constantValue := 0 }, { name := "$assertionsDisabled", type := .boolean, accessFlags := 4120, slot := 9, constantValue := 0 }]
  methods := #[k4m0, k4m1, k4m2]
  instanceTypes := #[]
  staticTypes := #[.double, .double, .double, .double, .double, .long, .long, .double, .double, .boolean]
  resolved := Array.replicate 460 none
  statics := none }

def pool5 : Array CpInfo := pool [(2, .class_ 4), (1, u "java/lang/Object"), (0, u "<init>"), (0, u "()V"), (1, .class_ 10), (1, u "java/lang/System"), (0, u "allowSecurityManager"), (0, u "I"), (16, u "cons"), (0, u "Ljava/io/Console;"), (77, .class_ 110), (1, u "java/lang/System$CallersHolder"), (43, u "initialErrStream"), (0, u "Ljava/io/PrintStream;"), (19, u "security"), (0, u "Ljava/lang/SecurityManager;"), (31, .class_ 209), (0, u "java/lang/System$1"), (7, u "props"), (0, u "Ljava/util/Properties;"), (2, u "lineSeparator"), (0, u "Ljava/lang/String;"), (96, .class_ 321), (1, u "java/lang/System$LoggerFinder"), (5, .class_ 328), (0, u "java/lang/System$Logger"), (67, u "err"), (2, u "out"), (91, u "notSupportedJnuEncoding"), (15, u "in"), (17, u "initialIn"), (0, u "Ljava/io/InputStream;"), (35, u "bootLayer"), (0, u "Ljava/lang/ModuleLayer;"), (99, .class_ 664), (0, u "java/lang/System$2"), (9, u "NEVER"), (2, u "MAYBE"), (49, u "arraycopy"), (0, u "(Ljava/lang/Object;ILjava/lang/Object;II)V"), (72, .class_ 802), (0, u "java/lang/System$Logger$Level")] 31

def k5m0 : Method := { name := "<init>", desc := "()V", sig := { parameters := [], returnType := none }, accessFlags := 2, code := none }
def k5m1 : Method := { name := "arraycopy", desc := "(Ljava/lang/Object;ILjava/lang/Object;II)V", sig := { parameters := [(.object "java/lang/Object"), .int, (.object "java/lang/Object"), .int, .int], returnType := none }, accessFlags := 265, code := none }
/-- java/lang/System -/
def k5 : Class := { plain "java/lang/System" (some 0) with
  accessFlags := 49
  interfaces := #[]
  cf := some (fileOf pool5 8 #[.nestMembers #[319, 327, 801, 108, 663, 208]] #[{ accessFlags := 2, nameIndex := 5, descriptorIndex := 6, attributes := #[] }, { accessFlags := 265, nameIndex := 727, descriptorIndex := 728, attributes := #[] }] 49 2 #[] #[{ accessFlags := 25, nameIndex := 507, descriptorIndex := 526, attributes := #[] }, { accessFlags := 25, nameIndex := 399, descriptorIndex := 155, attributes := #[] }, { accessFlags := 25, nameIndex := 396, descriptorIndex := 155, attributes := #[] }, { accessFlags := 10, nameIndex := 525, descriptorIndex := 526, attributes := #[] }, { accessFlags := 26, nameIndex := 674, descriptorIndex := 12, attributes := #[] }, { accessFlags := 26, nameIndex := 677, descriptorIndex := 12, attributes := #[] }, { accessFlags := 10, nameIndex := 11, descriptorIndex := 12, attributes := #[] }, { accessFlags := 74, nameIndex := 175, descriptorIndex := 176, attributes := #[] }, { accessFlags := 10, nameIndex := 491, descriptorIndex := 222, attributes := #[] }, { accessFlags := 74, nameIndex := 29, descriptorIndex := 30, attributes := #[] }, { accessFlags := 74, nameIndex := 154, descriptorIndex := 155, attributes := #[] }, { accessFlags := 10, nameIndex := 217, descriptorIndex := 218, attributes := #[] }, { accessFlags := 10, nameIndex := 221, descriptorIndex := 222, attributes := #[] }, { accessFlags := 8, nameIndex := 562, descriptorIndex := 563, attributes := #[] }])
  fields := #[{ name := "in", type := (.object "java/io/InputStream"), accessFlags := 25, slot := 0, constantValue := 0 }, { name := "out", type := (.object "java/io/PrintStream"), accessFlags := 25, slot := 1, constantValue := 0 }, { name := "err", type := (.object "java/io/PrintStream"), accessFlags := 25, slot := 2, constantValue := 0 }, { name := "initialIn", type := (.object "java/io/InputStream"), accessFlags := 10, slot := 3, constantValue := 0 }, { name := "NEVER", type := .int, accessFlags := 26, slot := 4, constantValue := 0 }, { name := "MAYBE", type := .int, accessFlags := 26, slot := 5, constantValue := 0 }, { name := "allowSecurityManager", type := .int, accessFlags := 10, slot := 6, constantValue := 0 }, { name := "security", type := (.object "java/lang/SecurityManager"), accessFlags := 74, slot := 7, constantValue := 0 }, { name := "notSupportedJnuEncoding", type := (.object "java/lang/String"), accessFlags := 10, slot := 8, constantValue := 0 }, { name := "cons", type := (.object "java/io/Console"), accessFlags := 74, slot := 9, constantValue := 0 }, { name := "initialErrStream", type := (.object "java/io/PrintStream"), accessFlags := 74, slot := 10, constantValue := 0 }, { name := "props", type := (.object "java/util/Properties"), accessFlags := 10, slot := 11, constantValue := 0 }, { name := "lineSeparator", type := (.object "java/lang/String"), accessFlags := 10, slot := 12, constantValue := 0 }, { name := "bootLayer", type := (.object "java/lang/ModuleLayer"), accessFlags := 8, slot := 13, constantValue := 0 }]
  methods := #[k5m0, k5m1]
  instanceTypes := #[]
  staticTypes := #[(.object "java/io/InputStream"), (.object "java/io/PrintStream"), (.object "java/io/PrintStream"), (.object "java/io/InputStream"), .int, .int, .int, (.object "java/lang/SecurityManager"), (.object "java/lang/String"), (.object "java/io/Console"), (.object "java/io/PrintStream"), (.object "java/util/Properties"), (.object "java/lang/String"), (.object "java/lang/ModuleLayer")]
  resolved := Array.replicate 834 none
  statics := none }

def pool6 : Array CpInfo := pool [(1, u "java/lang/Cloneable"), (0, .class_ 1), (0, u "java/lang/Object"), (0, .class_ 3)] 3

/-- java/lang/Cloneable -/
def k6 : Class := { plain "java/lang/Cloneable" (some 0) with
  accessFlags := 1537
  interfaces := #[]
  cf := some (fileOf pool6 2 #[] #[] 1537 4 #[] #[])
  fields := #[]
  methods := #[]
  instanceTypes := #[]
  staticTypes := #[]
  resolved := Array.replicate 8 none
  statics := none }

def pool7 : Array CpInfo := pool [(1, u "java/io/Serializable"), (0, .class_ 1), (0, u "java/lang/Object"), (0, .class_ 3)] 3

/-- java/io/Serializable -/
def k7 : Class := { plain "java/io/Serializable" (some 0) with
  accessFlags := 1537
  interfaces := #[]
  cf := some (fileOf pool7 2 #[] #[] 1537 4 #[] #[])
  fields := #[]
  methods := #[]
  instanceTypes := #[]
  staticTypes := #[]
  resolved := Array.replicate 8 none
  statics := none }

/-- the primitive byte -/
def k8 : Class := { plain "byte" none with kind := .primitive 'B', accessFlags := 0x411 }
/-- [B -/
def k9 : Class := { plain "[B" (some 0) with kind := .array 8 .byte, interfaces := #[6, 7], accessFlags := 1041 }

/-- the primitive double -/
def k10 : Class := { plain "double" none with kind := .primitive 'D', accessFlags := 0x411 }
/-- [D -/
def k11 : Class := { plain "[D" (some 0) with kind := .array 10 .double, interfaces := #[6, 7], accessFlags := 1041 }

/-- the primitive int -/
def k12 : Class := { plain "int" none with kind := .primitive 'I', accessFlags := 0x411 }
/-- [I -/
def k13 : Class := { plain "[I" (some 0) with kind := .array 12 .int, interfaces := #[6, 7], accessFlags := 1041 }

def heap : Heap := #[]
def classes : Array Class := #[k0, k1, k2, k3, k4, k5, k6, k7, k8, k9, k10, k11, k12, k13]
def interned : List (Array UInt16 × Addr) := []
def slotsUsed : Nat := 0
def theMethod : MethodId := ⟨1, 1⟩
def args0 : Array Value := #[.int 3, .int 9, .int 3, .int 2, .int 7, .int 1]
def aboutOver (below : List Frame) : State where
  vm := { classes := classes, interned := interned.toArray }
  heap := heap
  slotsUsed := slotsUsed
  threads := #[{ frames := .invoking theMethod args0 :: below }]
def below0 : List Frame := [.native { method := ⟨0, 0⟩, args := #[] }]
def about1 : State := aboutOver below0
def p0 : Program := .bare "" "" ""
def e0 : Env := launch0.env 0 0 0
theorem w_frames : about1.frames = Frame.invoking theMethod args0 :: below0 := rfl
set_option maxRecDepth 65536 in
theorem w_args : argsFit about1.vm theMethod args0 = true := by decide +kernel
set_option maxRecDepth 65536 in
theorem w_heap : heapFits about1 = true := by decide +kernel
set_option maxRecDepth 65536 in
theorem w_runnable : about1.curStatus? = some .runnable := by decide +kernel
set_option maxRecDepth 65536 in
theorem w_alone : about1.alone = true := by decide +kernel
set_option maxRecDepth 65536 in
theorem w_named : about1.methodNamed? x = some theMethod := by decide +kernel
set_option maxRecDepth 65536 in
theorem w_hears : about1.hears theMethod below0 = true := by decide +kernel
set_option maxRecDepth 65536 in
theorem w_ripe : about1.ripe theMethod args0 below0 = true := by decide +kernel
theorem w_running : about1.status = .running := rfl
set_option maxRecDepth 65536 in
theorem w_room : about1.hasRoom e0.platform room_1 = true :=
  launch0.hasRoom_least _ room_1 (by decide +kernel) (by decide +kernel) (by decide +kernel) (by decide +kernel) (by decide +kernel) (by decide +kernel)
theorem allAtoms_all (ts : List Jvm.Cond) (a : Array Jvm.Value) (st : Jvm.State) : (allAtoms ts).before a st = ts.all (fun c => c.before a st) := by
  induction ts with
  | nil => rfl
  | cons c t ih =>
    show (Jvm.Cond.and c (allAtoms t)).before a st = _
    rw [Jvm.Cond.before_and, ih, List.all_cons]
def words1 : List Jvm.Cond := Jvm.Cond.code x code maxLocals ret :: tables_1
/-- a 'code' word, met by the world's own term for the bytes: nothing is compared byte by byte -/
theorem code_word {y : MethodName} {bytes : ByteArray} {mx : Nat} {rt : Option FieldType} {a : Array Value} {s : State} {m : MethodId} {meth : Method} {c : Code} (h1 : s.methodNamed? y = some m) (h2 : s.vm.method? m = some meth) (h3 : meth.code = some c) (h4 : c.code = bytes)
    (h5 : (c.maxLocals == mx && c.exceptionTable.isEmpty && decide (c.maxStack ≤ mostOperands) && decide (meth.sig.returnType = rt) && !meth.locks && decide (parseMethodDescriptor y.desc = some meth.sig)) = true) : (Jvm.Cond.code y bytes mx rt).before a s = true := by
  simp only [Bool.and_eq_true, beq_iff_eq, Bool.not_eq_true', decide_eq_true_eq] at h5
  obtain ⟨⟨⟨⟨⟨g1, g2⟩, g3⟩, g4⟩, g5⟩, g6⟩ := h5
  simp [Cond.before, Cond.holds, Cond.value, h1, h2, h3, h4, g1, g2, g3, g4, g5, g6]
def isCode : Jvm.Cond → Bool
  | .code _ _ _ _ => true
  | _ => false
theorem all_split {L : List Jvm.Cond} {P : Jvm.Cond → Bool} (h1 : L.all (fun c => isCode c || P c) = true) (h2 : ∀ c ∈ L.filter isCode, P c = true) : L.all P = true := by
  refine List.all_eq_true.mpr fun c hc => ?_
  have h := List.all_eq_true.mp h1 c hc
  rcases Bool.eq_false_or_eq_true (isCode c) with hi | hi
  · exact h2 c (List.mem_filter.mpr ⟨hc, hi⟩)
  · simpa [hi] using h
set_option maxRecDepth 65536 in
theorem w_c0 : (Jvm.Cond.code x code maxLocals ret).before args0 about1 = true := code_word (m := ⟨1, 1⟩) (meth := k1m1) (c := k1c1) (by decide +kernel) rfl rfl rfl (by decide +kernel)
set_option maxRecDepth 65536 in
theorem w_c1 : (Jvm.Cond.code ({ cls := "com/example/shelfwright/shelfwright/packers/FirstFit", name := "<init>", desc := "()V" } : Jvm.MethodName) prog_77_method_1_code (1 : Nat) (Option.none : Option Jvm.ClassFile.FieldType)).before args0 about1 = true := code_word (m := ⟨2, 0⟩) (meth := k2m0) (c := k2c0) (by decide +kernel) rfl rfl rfl (by decide +kernel)
set_option maxRecDepth 65536 in
theorem w_c2 : (Jvm.Cond.code ({ cls := "java/lang/Object", name := "<init>", desc := "()V" } : Jvm.MethodName) object_method_1_code (1 : Nat) (Option.none : Option Jvm.ClassFile.FieldType)).before args0 about1 = true := code_word (m := ⟨0, 0⟩) (meth := k0m0) (c := k0c0) (by decide +kernel) rfl rfl rfl (by decide +kernel)
set_option maxRecDepth 65536 in
theorem w_c3 : (Jvm.Cond.code ({ cls := "com/example/shelfwright/shelfwright/packers/FirstFit", name := "add", desc := "(D)I" } : Jvm.MethodName) prog_77_method_2_code (3 : Nat) (Option.some Jvm.ClassFile.FieldType.int)).before args0 about1 = true := code_word (m := ⟨2, 1⟩) (meth := k2m1) (c := k2c1) (by decide +kernel) rfl rfl rfl (by decide +kernel)
set_option maxRecDepth 65536 in
theorem w_c4 : (Jvm.Cond.code ({ cls := "com/example/shelfwright/shelfwright/packers/FirstFit", name := "set", desc := "(ID)V" } : Jvm.MethodName) prog_77_method_4_code (5 : Nat) (Option.none : Option Jvm.ClassFile.FieldType)).before args0 about1 = true := code_word (m := ⟨2, 3⟩) (meth := k2m3) (c := k2c3) (by decide +kernel) rfl rfl rfl (by decide +kernel)
set_option maxRecDepth 65536 in
theorem w_c5 : (Jvm.Cond.code ({ cls := "com/example/shelfwright/shelfwright/packers/FirstFit", name := "key", desc := "(I)D" } : Jvm.MethodName) prog_77_method_3_code (2 : Nat) (Option.some Jvm.ClassFile.FieldType.double)).before args0 about1 = true := code_word (m := ⟨2, 2⟩) (meth := k2m2) (c := k2c2) (by decide +kernel) rfl rfl rfl (by decide +kernel)
set_option maxRecDepth 65536 in
theorem w_c6 : (Jvm.Cond.code ({ cls := "com/example/shelfwright/shelfwright/packers/FirstFit", name := "grow", desc := "()V" } : Jvm.MethodName) prog_77_method_9_code (3 : Nat) (Option.none : Option Jvm.ClassFile.FieldType)).before args0 about1 = true := code_word (m := ⟨2, 4⟩) (meth := k2m4) (c := k2c4) (by decide +kernel) rfl rfl rfl (by decide +kernel)
set_option maxRecDepth 65536 in
theorem w_c7 : (Jvm.Cond.code ({ cls := "java/util/Arrays", name := "copyOfRange", desc := "([DII)[D" } : Jvm.MethodName) jdk_65_method_144_code (3 : Nat) (Option.some (Jvm.ClassFile.FieldType.array Jvm.ClassFile.FieldType.double))).before args0 about1 = true := code_word (m := ⟨3, 3⟩) (meth := k3m3) (c := k3c3) (by decide +kernel) rfl rfl rfl (by decide +kernel)
set_option maxRecDepth 65536 in
theorem w_c8 : (Jvm.Cond.code ({ cls := "java/util/Arrays", name := "copyOfRangeDouble", desc := "([DII)[D" } : Jvm.MethodName) jdk_65_method_145_code (5 : Nat) (Option.some (Jvm.ClassFile.FieldType.array Jvm.ClassFile.FieldType.double))).before args0 about1 = true := code_word (m := ⟨3, 4⟩) (meth := k3m4) (c := k3c4) (by decide +kernel) rfl rfl rfl (by decide +kernel)
set_option maxRecDepth 65536 in
theorem w_c9 : (Jvm.Cond.code ({ cls := "java/util/Arrays", name := "checkLength", desc := "(II)V" } : Jvm.MethodName) jdk_65_method_131_code (2 : Nat) (Option.none : Option Jvm.ClassFile.FieldType)).before args0 about1 = true := code_word (m := ⟨3, 2⟩) (meth := k3m2) (c := k3c2) (by decide +kernel) rfl rfl rfl (by decide +kernel)
set_option maxRecDepth 65536 in
theorem w_c10 : (Jvm.Cond.code ({ cls := "java/lang/Math", name := "min", desc := "(II)I" } : Jvm.MethodName) jdk_29_method_69_code (2 : Nat) (Option.some Jvm.ClassFile.FieldType.int)).before args0 about1 = true := code_word (m := ⟨4, 2⟩) (meth := k4m2) (c := k4c2) (by decide +kernel) rfl rfl rfl (by decide +kernel)
set_option maxRecDepth 65536 in
theorem w_c11 : (Jvm.Cond.code ({ cls := "java/util/Arrays", name := "fill", desc := "([DD)V" } : Jvm.MethodName) jdk_65_method_113_code (5 : Nat) (Option.none : Option Jvm.ClassFile.FieldType)).before args0 about1 = true := code_word (m := ⟨3, 1⟩) (meth := k3m1) (c := k3c1) (by decide +kernel) rfl rfl rfl (by decide +kernel)
set_option maxRecDepth 65536 in
theorem w_c12 : (Jvm.Cond.code ({ cls := "java/lang/Math", name := "max", desc := "(DD)D" } : Jvm.MethodName) jdk_29_method_68_code (4 : Nat) (Option.some Jvm.ClassFile.FieldType.double)).before args0 about1 = true := code_word (m := ⟨4, 1⟩) (meth := k4m1) (c := k4c1) (by decide +kernel) rfl rfl rfl (by decide +kernel)
def codes1 : List Jvm.Cond := [Jvm.Cond.code x code maxLocals ret, Jvm.Cond.code ({ cls := "com/example/shelfwright/shelfwright/packers/FirstFit", name := "<init>", desc := "()V" } : Jvm.MethodName) prog_77_method_1_code (1 : Nat) (Option.none : Option Jvm.ClassFile.FieldType), Jvm.Cond.code ({ cls := "java/lang/Object", name := "<init>", desc := "()V" } : Jvm.MethodName) object_method_1_code (1 : Nat) (Option.none : Option Jvm.ClassFile.FieldType), Jvm.Cond.code ({ cls := "com/example/shelfwright/shelfwright/packers/FirstFit", name := "add", desc := "(D)I" } : Jvm.MethodName) prog_77_method_2_code (3 : Nat) (Option.some Jvm.ClassFile.FieldType.int), Jvm.Cond.code ({ cls := "com/example/shelfwright/shelfwright/packers/FirstFit", name := "set", desc := "(ID)V" } : Jvm.MethodName) prog_77_method_4_code (5 : Nat) (Option.none : Option Jvm.ClassFile.FieldType), Jvm.Cond.code ({ cls := "com/example/shelfwright/shelfwright/packers/FirstFit", name := "key", desc := "(I)D" } : Jvm.MethodName) prog_77_method_3_code (2 : Nat) (Option.some Jvm.ClassFile.FieldType.double), Jvm.Cond.code ({ cls := "com/example/shelfwright/shelfwright/packers/FirstFit", name := "grow", desc := "()V" } : Jvm.MethodName) prog_77_method_9_code (3 : Nat) (Option.none : Option Jvm.ClassFile.FieldType), Jvm.Cond.code ({ cls := "java/util/Arrays", name := "copyOfRange", desc := "([DII)[D" } : Jvm.MethodName) jdk_65_method_144_code (3 : Nat) (Option.some (Jvm.ClassFile.FieldType.array Jvm.ClassFile.FieldType.double)), Jvm.Cond.code ({ cls := "java/util/Arrays", name := "copyOfRangeDouble", desc := "([DII)[D" } : Jvm.MethodName) jdk_65_method_145_code (5 : Nat) (Option.some (Jvm.ClassFile.FieldType.array Jvm.ClassFile.FieldType.double)), Jvm.Cond.code ({ cls := "java/util/Arrays", name := "checkLength", desc := "(II)V" } : Jvm.MethodName) jdk_65_method_131_code (2 : Nat) (Option.none : Option Jvm.ClassFile.FieldType), Jvm.Cond.code ({ cls := "java/lang/Math", name := "min", desc := "(II)I" } : Jvm.MethodName) jdk_29_method_69_code (2 : Nat) (Option.some Jvm.ClassFile.FieldType.int), Jvm.Cond.code ({ cls := "java/util/Arrays", name := "fill", desc := "([DD)V" } : Jvm.MethodName) jdk_65_method_113_code (5 : Nat) (Option.none : Option Jvm.ClassFile.FieldType), Jvm.Cond.code ({ cls := "java/lang/Math", name := "max", desc := "(DD)D" } : Jvm.MethodName) jdk_29_method_68_code (4 : Nat) (Option.some Jvm.ClassFile.FieldType.double)]
set_option maxRecDepth 65536 in
theorem codes_eq : words1.filter isCode = codes1 := rfl
theorem w_codes : ∀ c ∈ words1.filter isCode, c.before args0 about1 = true := by
  rw [codes_eq]
  intro c hc
  simp only [codes1, List.mem_cons, List.not_mem_nil, or_false] at hc
  rcases hc with rfl | rfl | rfl | rfl | rfl | rfl | rfl | rfl | rfl | rfl | rfl | rfl | rfl
  · exact w_c0
  · exact w_c1
  · exact w_c2
  · exact w_c3
  · exact w_c4
  · exact w_c5
  · exact w_c6
  · exact w_c7
  · exact w_c8
  · exact w_c9
  · exact w_c10
  · exact w_c11
  · exact w_c12
set_option maxRecDepth 65536 in
theorem w_t1 : (words1.take 24).all (fun c => isCode c || c.before args0 about1) = true := by decide +kernel
set_option maxRecDepth 65536 in
theorem w_t2 : ((words1.drop 24).take 24).all (fun c => isCode c || c.before args0 about1) = true := by decide +kernel
set_option maxRecDepth 65536 in
theorem w_t3 : ((words1.drop 24).drop 24).all (fun c => isCode c || c.before args0 about1) = true := by decide +kernel
theorem w_tables : (allAtoms (Jvm.Cond.code x code maxLocals ret :: tables_1)).before args0 about1 = true := by
  rw [allAtoms_all]
  show words1.all (fun c => c.before args0 about1) = true
  refine all_split ?_ w_codes
  rw [← List.take_append_drop 24 words1, List.all_append, w_t1, ← List.take_append_drop 24 (words1.drop 24), List.all_append, w_t2, w_t3]
  rfl
set_option maxRecDepth 65536 in
theorem w_case : (Jvm.Cond.and given_1 narrow_1).before args0 about1 = true := by decide +kernel
theorem w_applies : (headSpec (Jvm.Cond.code x code maxLocals ret :: tables_1) room_1).applies x e0.platform about1 = true :=
  (Spec.applies_iff w_frames).mpr ⟨w_running, w_runnable, w_alone, w_named, w_hears, w_ripe, w_room, w_tables⟩
theorem atStart : AtStart classFile x code maxLocals ret World_1 tables_1 room_1 Calls_1 rest_1 Pre_1 launch0 p0 e0 about1 theMethod args0 below0 :=
  ⟨lists_1, trivial, launch0.admits_env _ _ _, launch0.least_env, fairChoices_fair.cas, fairChoices_fair.clock, w_frames, w_args, w_heap, w_applies, trivial, trivial, w_case⟩
end start1
theorem witness_1 : WitnessClaimed_1 := ⟨start1.p0, start1.e0, start1.about1, start1.theMethod, start1.args0, start1.below0, start1.atStart⟩
end Jvm.Pilot.@@N@@
