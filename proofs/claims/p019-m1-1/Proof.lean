import JvmDerived
import JvmDerived.Pilot.@@N@@Statement
import JvmDerived.Pilot.@@N@@Code
set_option linter.unusedVariables false
set_option linter.unusedSimpArgs false
namespace Jvm.RoadKit
open Sem ClassFile Op Lib Jvm.Stand Jvm.Free Jvm.LawKit
section New
variable {p : Program} {l : Launch} {e : Env} {R : Room} {s : State} {m : MethodId} {args : Array Value} {below : List Frame} {meth : Method} {c : Code} {T : State} {locs : List Loc} {cells slots : Nat}
theorem retI (X : Stand p l e R s m args below meth c T locs cells slots) (hx : p.tables.exec = Jvm.exec) {pc : Nat} {Ls : Array Slot} {z : Int32} {rest : List Value} (hret : meth.sig.returnType = some .int) (hd : decode c.code pc = .ok (.ireturn, 1)) {fs : List Frame}
    (hl : ∀ (f : JFrame) (acts : List Action), f.method = m → f.locked = none → f.entered = [] → (doReturn e (T.setTop f) acts (some (.int z))).1 = T.setFrames fs) : Steps p.tables e below (T.setTop (mkF m pc Ls (.int z :: rest))) (T.setFrames fs) := by
  have hm' : T.vm.method? m = some meth := X.method'
  have hn : narrow .int (.int z) = .int z := rfl
  show Steps p.tables e below (T.setTop { method := m, pc := pc, locals := Ls, stack := _ :: rest, locked := none }) _
  jvm_step X.here [X.here.top, hx, hd, hm', hret, hn]
  first | (intro acts; rw [hl _ acts rfl rfl rfl]) | rw [hl _ _ rfl rfl rfl]
  exact Steps.refl _
theorem own_retA (X : Stand p l e R s m args below meth c T locs cells slots) (hx : p.tables.exec = Jvm.exec) {pc : Nat} {Ls : Array Slot} {z : Value} {ty : FieldType} {rest : List Value} (hret : meth.sig.returnType = some ty) (hty : ty.isReference = true) (hz : z.isRef = true) (hd : decode c.code pc = .ok (.areturn, 1)) {fs : List Frame}
    (hl : ∀ (f : JFrame) (acts : List Action), f.method = m → f.locked = none → f.entered = [] → (doReturn e (T.setTop f) acts (some z)).1 = T.setFrames fs) : Steps p.tables e below (T.setTop (mkF m pc Ls (z :: rest))) (T.setFrames fs) := by
  have hm' : T.vm.method? m = some meth := X.method'
  show Steps p.tables e below (T.setTop { method := m, pc := pc, locals := Ls, stack := _ :: rest, locked := none }) _
  jvm_step X.here [X.here.top, hx, hd, hm', hret, hty, hz]
  first | (intro acts; rw [hl _ acts rfl rfl rfl]) | rw [hl _ _ rfl rfl rfl]
  exact Steps.refl _
theorem own_retD (X : Stand p l e R s m args below meth c T locs cells slots) (hx : p.tables.exec = Jvm.exec) {pc : Nat} {Ls : Array Slot} {z : UInt64} {rest : List Value} (hret : meth.sig.returnType = some .double) (hd : decode c.code pc = .ok (.dreturn, 1)) {fs : List Frame}
    (hl : ∀ (f : JFrame) (acts : List Action), f.method = m → f.locked = none → f.entered = [] → (doReturn e (T.setTop f) acts (some (.double z))).1 = T.setFrames fs) : Steps p.tables e below (T.setTop (mkF m pc Ls (.double z :: rest))) (T.setFrames fs) :=
  retOut X hx hret rfl (Or.inr (Or.inr (Or.inl ⟨rfl, rfl, z, rfl⟩))) hd hl
/-- where a body is to end: it runs, it has ended, it returned v, Q says what v and the heap are -/
def own_F (s : State) (below : List Frame) (Q : Option Value → Heap → List Loc → Prop) (C S : Nat) (t : State) (o : Outcome) : Prop := t.status = .running ∧ Ended t below o ∧ ∃ v L, o = .returned v ∧ Q v t.heap L ∧ FrameEnd s o t L C S
/-- the run from T, with the frame g on top, comes to such an end -/
def own_Go (p : Program) (e : Env) (below : List Frame) (F : State → Outcome → Prop) (T : State) (g : JFrame) : Prop := ∃ t o, Steps p.tables e below (T.setTop g) t ∧ F t o
theorem own_st {F : State → Outcome → Prop} {T T' : State} {g g' : JFrame} (h : ∀ t, Steps p.tables e below (T'.setTop g') t → Steps p.tables e below (T.setTop g) t) (k : own_Go p e below F T' g') : own_Go p e below F T g := by
  obtain ⟨t, o, h1, h2⟩ := k
  exact ⟨t, o, h t h1, h2⟩
theorem own_cast {F : State → Outcome → Prop} {T : State} {g g' : JFrame} (q : g = g') (k : own_Go p e below F T g') : own_Go p e below F T g := q ▸ k
theorem own_ret {F : State → Outcome → Prop} {Q : Option Value → Heap → List Loc → Prop} {C S : Nat} {g : JFrame} {v : Option Value} (hF : F = own_F s below Q C S) (X : Stand p l e R s m args below meth c T locs cells slots) (hv : meth.sig.returnType = none → v = none) (hlk : meth.locks = false)
    (hst : ∀ fs, (∀ (f : JFrame) (acts : List Action), f.method = m → f.locked = none → f.entered = [] → (doReturn e (T.setTop f) acts v).1 = T.setFrames fs) → Steps p.tables e below (T.setTop g) (T.setFrames fs)) (hQ : Q v T.heap locs) (hc : cells ≤ C) (hs : slots ≤ S) : own_Go p e below F T g := by
  subst hF
  obtain ⟨fs, hr, hrun, hended, hW, hsame⟩ := X.leave hv hlk
  exact ⟨T.setFrames fs, .returned v, hst fs hr, hrun, hended, v, locs, rfl, hQ, ⟨_, rfl⟩, hW, hsame.mono hc hs⟩
theorem own_some {ret : Option FieldType} {ty : FieldType} {v : Option Value} (hret : ret = some ty) : ret = none → v = none := fun h => by rw [hret] at h; cases h
/-- a body's contract: called with 'as' at the heap h0 it returns, and Q holds of what it returned, of the heap, of the places written -/
abbrev own_Met (l : Launch) (Z : State) (y : MethodName) (bytes : ByteArray) (maxL : Nat) (ret : Option FieldType) (rm : Room) (as : Array Value) (h0 : Heap) (Q : Option Value → Heap → List Loc → Prop) : Prop :=
  ∀ ws : List Jvm.Cond, MetFree l y (head1 (Jvm.Cond.code y bytes maxL ret :: ws) rm) (fun a U => a = as ∧ Z.Warmed39 U.vm ∧ U.heap = h0) (fun _ _ _ _ _ => True) (fun _ U o U' => ∃ v L, o = .returned v ∧ Q v U'.heap L ∧ FrameEnd U o U' L rm.cells rm.slots)
theorem own_body {Z : State} {y : MethodName} {bytes : ByteArray} {maxL : Nat} {ret : Option FieldType} {rm : Room} {as : Array Value} {h0 : Heap} {Q : Option Value → Heap → List Loc → Prop} (hpl : plainFor y = true)
    (body : ∀ (p : Program) (e : Env) (s : State) (m : MethodId) (below : List Frame) (meth : Method) (c : Code) (T : State), Z.Warmed39 s.vm → p.tables.exec = Jvm.exec → c.code = bytes → c.maxLocals = maxL → s.vm.findClass y.cls = some m.cls → meth.name = y.name → meth.sig.returnType = ret → meth.locks = false →
      Stand p l e rm s m as below meth c T [] 0 0 → T.heap = h0 → ∀ F : State → Outcome → Prop, F = own_F s below Q rm.cells rm.slots → own_Go p e below F T (entryFrame m as maxL)) : own_Met l Z y bytes maxL ret rm as h0 Q := by
  intro ws
  refine MetFree.of_bodySF hpl hisR ?_
  intro p e s m args below meth c s₁ Bd hml0 hP hK
  obtain ⟨rfl, hZ, hh⟩ := hP
  obtain ⟨t, o, h1, h2, h3, h4⟩ := body p e s m below meth c s₁ hZ Bd.exec Bd.bytes hml0 (findClass_of_methodNamed Bd.named) (name_of_methodNamed Bd.named Bd.method).1 Bd.returns (BodyLoose.notSynchronized Bd) (Stand.of_body Bd) (by rw [← hh, Bd.state]; rfl) _ rfl
  exact ⟨t, o, h1, h2, h3, h4⟩
theorem own_back {Z : State} {a0 : Array Value} {y : MethodName} {bytes : ByteArray} {maxL : Nat} {ret : Option FieldType} {rm : Room} {len W : Nat} {as' : Array Value} {h : Heap} {Q : Option Value → Heap → List Loc → Prop} (hM : own_Met l Z y bytes maxL ret rm as' h Q)
    (hZ : Z.Warmed39 s.vm) (wc : (Cond.code y bytes maxL ret).before a0 Z = true) (wz : (Cond.initialized y.cls).before a0 Z = true) (hf : rm.frames + 1 ≤ R.frames) (hl : W + (maxL + 11) + rm.locals ≤ R.locals) :
    Back l R p e below s args y len W (fun A a => a = as' ∧ A.U.heap = h ∧ A.cells + rm.cells ≤ R.cells ∧ A.slots + rm.slots ≤ R.slots)
      (fun A _ v B => ∃ L, Q v B.U.heap L ∧ B.locs = A.locs ++ L ∧ B.cells = A.cells + rm.cells ∧ B.slots = A.slots + rm.slots) := backOf (Q := Q) (rm := rm) (hM []) hZ wc wz hf hl
theorem own_selP {Z : State} {a0 : Array Value} {y : MethodName} {n : Nat} (hZ : Z.Warmed39 s.vm) (wi : (Cond.instantiable y.cls n).before a0 Z = true) (hpriv : s.PrivateAt y) (hinst : (Cond.instanceMethod y).before args s = true) (hy : y.cls ≠ "java/lang/invoke/MethodHandle" ∧ y.cls ≠ "java/lang/invoke/VarHandle") : (Cond.selects y.cls y y).before args s = true := by
  obtain ⟨c, k, h1, h2, h3, h4, -, -⟩ := Cond.instantiable_spec (mvT (args := args) hZ wi)
  exact selects_self_of_private h1 h2 (by cases hi : k.isInterface <;> simp [hi] at h4 ⊢) hpriv hinst hy
theorem own_dup2a (X : Stand p l e R s m args below meth c T locs cells slots) (hx : p.tables.exec = Jvm.exec) {pc : Nat} {Ls : Array Slot} {a b : Value} {rest : List Value} (hd : decode c.code pc = .ok (.dup2, 1)) (ha : a.category = 1) (hb : b.category = 1) {t : State}
    (k : Steps p.tables e below (T.setTop (mkF m (pc + 1) Ls (a :: b :: a :: b :: rest))) t) : Steps p.tables e below (T.setTop (mkF m pc Ls (a :: b :: rest))) t := by
  show Steps p.tables e below (T.setTop { method := m, pc := pc, locals := Ls, stack := a :: b :: rest, locked := none }) _
  jvm_step X.here [X.here.top, hx, hd, ha, hb]
  exact k
theorem own_dup2b (X : Stand p l e R s m args below meth c T locs cells slots) (hx : p.tables.exec = Jvm.exec) {pc : Nat} {Ls : Array Slot} {a : Value} {rest : List Value} (hd : decode c.code pc = .ok (.dup2, 1)) (ha : a.category = 2) {t : State}
    (k : Steps p.tables e below (T.setTop (mkF m (pc + 1) Ls (a :: a :: rest))) t) : Steps p.tables e below (T.setTop (mkF m pc Ls (a :: rest))) t := by
  show Steps p.tables e below (T.setTop { method := m, pc := pc, locals := Ls, stack := a :: rest, locked := none }) _
  jvm_step X.here [X.here.top, hx, hd, ha]
  exact k
theorem own_fresh {Z : State} {h : Heap} {b : Addr} (g : b = h.size) {n : Nat} (q : n ≤ h.size) : n ≤ b := g ▸ q
theorem own_ne {h : Heap} {a b : Addr} (g : b = h.size) (q : a < h.size) : a ≠ b := Nat.ne_of_lt (g ▸ q)
end New
end Jvm.RoadKit
namespace Jvm.Pilot.@@N@@
open Jvm Jvm.ClassFile Sem Op Lib Jvm.Free Jvm.Stand Jvm.LawKit Jvm.RoadKit Bundle Jvm.Pilot.@@N@@.Jvm.D

/-- how many of the first n places pass P -/
def own_cnt (P : Nat → Bool) : Nat → Nat
  | 0 => 0
  | k + 1 => own_cnt P k + (if P k then 1 else 0)
theorem own_cnt_mono (P : Nat → Bool) {m n : Nat} (h : m ≤ n) : own_cnt P m ≤ own_cnt P n := by
  induction n with
  | zero => obtain rfl : m = 0 := by omega
            exact Nat.le_refl _
  | succ n ih =>
    rcases Nat.lt_or_ge n m with g | g
    · obtain rfl : m = n + 1 := by omega
      exact Nat.le_refl _
    · exact Nat.le_trans (ih g) (Nat.le_add_right _ _)
theorem own_cnt_lt (P : Nat → Bool) {p n : Nat} (h : p < n) (hp : P p = true) : own_cnt P p < own_cnt P n := by
  have : own_cnt P (p + 1) = own_cnt P p + 1 := by simp [own_cnt, hp]
  have := own_cnt_mono P (show p + 1 ≤ n from h)
  omega
theorem own_cnt_two {P R S : Nat → Bool} (h : ∀ i, P i = true → S i = true) (h' : ∀ i, R i = true → S i = true) (hx : ∀ i, P i = true → R i = true → False) (n : Nat) : own_cnt P n + own_cnt R n ≤ own_cnt S n := by
  induction n with
  | zero => exact Nat.le_refl _
  | succ n ih =>
    simp only [own_cnt]
    have a := h n; have b := h' n; have c := hx n
    cases hp : P n <;> cases hr : R n <;> cases hs : S n <;> simp_all <;> omega
theorem own_cnt_all (n : Nat) : own_cnt (fun _ => true) n = n := by
  induction n with
  | zero => rfl
  | succ n ih => simp [own_cnt, ih]
theorem own_cnt_zero {P : Nat → Bool} (h : ∀ i, P i = false) (n : Nat) : own_cnt P n = 0 := by
  induction n with
  | zero => rfl
  | succ n ih => simp [own_cnt, ih, h n]
/-- the place that the stable order gives p among n -/
def own_pos (rk : Nat → Nat) (n p : Nat) : Nat := own_cnt (fun q => decide (rk q < rk p)) n + own_cnt (fun q => decide (rk q = rk p)) p
theorem own_pos_lt {rk : Nat → Nat} {n p : Nat} (h : p < n) : own_pos rk n p < n := by
  have a := own_cnt_lt (fun q => decide (rk q = rk p)) h (by simp)
  have b := own_cnt_two (P := fun q => decide (rk q < rk p)) (R := fun q => decide (rk q = rk p)) (S := fun _ => true) (fun _ _ => rfl) (fun _ _ => rfl) (fun i h1 h2 => by simp at h1 h2; omega) n
  rw [own_cnt_all] at b
  unfold own_pos
  omega
theorem own_pos_less {rk : Nat → Nat} {n p q : Nat} (hp : p < n) (h : rk p < rk q) : own_pos rk n p < own_pos rk n q := by
  have a := own_cnt_lt (fun i => decide (rk i = rk p)) hp (by simp)
  have b := own_cnt_two (P := fun i => decide (rk i < rk p)) (R := fun i => decide (rk i = rk p)) (S := fun i => decide (rk i < rk q)) (fun i h1 => by simp at h1 ⊢; omega) (fun i h1 => by simp at h1 ⊢; omega) (fun i h1 h2 => by simp at h1 h2; omega) n
  unfold own_pos
  omega
theorem own_pos_same {rk : Nat → Nat} {n p q : Nat} (h : p < q) (e : rk p = rk q) : own_pos rk n p < own_pos rk n q := by
  have a := own_cnt_lt (fun i => decide (rk i = rk q)) h (by simp [e])
  unfold own_pos
  rw [e]
  omega
theorem own_pos_ne {rk : Nat → Nat} {n p q : Nat} (hp : p < n) (hq : q < n) (h : p ≠ q) : own_pos rk n p ≠ own_pos rk n q := by
  rcases Nat.lt_trichotomy (rk p) (rk q) with g | g | g
  · exact Nat.ne_of_lt (own_pos_less hp g)
  · rcases Nat.lt_or_gt_of_ne h with k | k
    · exact Nat.ne_of_lt (own_pos_same k g)
    · exact Nat.ne_of_gt (own_pos_same k g.symm)
  · exact Nat.ne_of_gt (own_pos_less hq g)
/-- the counts, and their sums -/
def own_c1 (rk : Nat → Nat) (i j : Nat) : Nat := own_cnt (fun q => decide (rk q + 1 = j)) i
def own_C (rk : Nat → Nat) (n j : Nat) : Nat := own_cnt (fun q => decide (rk q < j)) n
def own_c2 (rk : Nat → Nat) (n i j : Nat) : Nat := if j < i then own_C rk n j else own_c1 rk n j
def own_c3 (rk : Nat → Nat) (n p j : Nat) : Nat := own_C rk n j + own_cnt (fun q => decide (rk q = j)) p
theorem own_c1_step (rk : Nat → Nat) (i j : Nat) : (if j = rk i + 1 then own_c1 rk i (rk i + 1) + 1 else own_c1 rk i j) = own_c1 rk (i + 1) j := by
  by_cases h : j = rk i + 1
  · subst h; simp [own_c1, own_cnt]
  · have : ¬ rk i + 1 = j := fun e => h e.symm
    simp [own_c1, own_cnt, h, this]
theorem own_C_step (rk : Nat → Nat) (n j : Nat) : own_C rk n (j + 1) = own_c1 rk n (j + 1) + own_C rk n j := by
  induction n with
  | zero => rfl
  | succ n ih =>
    simp only [own_C, own_c1, own_cnt] at ih ⊢
    by_cases h1 : rk n < j
    · have h2 : rk n < j + 1 := by omega
      have h3 : ¬ rk n + 1 = j + 1 := by omega
      simp only [h1, h2, h3, decide_true, decide_false, if_true, Bool.false_eq_true, if_false]
      omega
    · by_cases h4 : rk n = j
      · subst h4
        simp only [Nat.lt_irrefl, Nat.lt_succ_self, decide_true, decide_false, if_true, Bool.false_eq_true, if_false]
        omega
      · have h2 : ¬ rk n < j + 1 := by omega
        have h3 : ¬ rk n + 1 = j + 1 := by omega
        simp only [h1, h2, h3, decide_false, Bool.false_eq_true, if_false]
        omega
theorem own_c2_start (rk : Nat → Nat) (n j : Nat) : own_c1 rk n j = own_c2 rk n 1 j := by
  unfold own_c2
  split
  · obtain rfl : j = 0 := by omega
    rw [own_C, own_c1, own_cnt_zero (fun i => by simp), own_cnt_zero (fun i => by simp)]
  · rfl
theorem own_c2_step (rk : Nat → Nat) (n i j : Nat) (hi : 1 ≤ i) : (if j = i then own_c2 rk n i i + own_c2 rk n i (i - 1) else own_c2 rk n i j) = own_c2 rk n (i + 1) j := by
  obtain ⟨m, rfl⟩ : ∃ m, i = m + 1 := ⟨i - 1, by omega⟩
  by_cases h : j = m + 1
  · subst h
    simp only [if_true, own_c2, Nat.lt_irrefl, if_false, Nat.add_sub_cancel, Nat.lt_succ_self]
    rw [own_C_step]
  · rw [if_neg h]
    unfold own_c2
    by_cases g : j < m + 1
    · rw [if_pos g, if_pos (by omega)]
    · rw [if_neg g, if_neg (by omega)]
theorem own_c3_start (rk : Nat → Nat) (n m j : Nat) (h : j < m) : own_c2 rk n m j = own_c3 rk n 0 j := by
  simp [own_c2, own_c3, own_cnt, h]
theorem own_c3_step (rk : Nat → Nat) (n p j : Nat) : (if j = rk p then own_c3 rk n p (rk p) + 1 else own_c3 rk n p j) = own_c3 rk n (p + 1) j := by
  by_cases h : j = rk p
  · subst h; simp [own_c3, own_cnt]; omega
  · have : ¬ rk p = j := fun e => h e.symm
    simp [own_c3, own_cnt, h, this]
theorem own_c3_pos (rk : Nat → Nat) (n p : Nat) : own_c3 rk n p (rk p) = own_pos rk n p := rfl
/-- a list of values that holds these naturals -/
def own_L (vs : List Value) (n : Nat) (f : Nat → Nat) : Prop := vs.length = n ∧ ∀ j, j < n → vs.getD j (.int (0 : Int32)) = .int (Int32.ofNat (f j))
theorem own_getD_set {vs : List Value} {i j : Nat} {v d : Value} (hi : i < vs.length) : (vs.set i v).getD j d = if j = i then v else vs.getD j d := by
  by_cases h : j = i
  · subst h; simp [List.getD_eq_getElem?_getD, hi]
  · have : i ≠ j := fun e => h e.symm
    simp [List.getD_eq_getElem?_getD, h, List.getElem?_set_ne this]
theorem own_L.set {vs : List Value} {n : Nat} {f g : Nat → Nat} (h : own_L vs n f) (i x : Nat) (hi : i < n) (e : ∀ j, (if j = i then x else f j) = g j) : own_L (vs.set i (.int (Int32.ofNat x))) n g := by
  refine ⟨by rw [List.length_set]; exact h.1, fun j hj => ?_⟩
  rw [own_getD_set (by rw [h.1]; exact hi), ← e j]
  by_cases q : j = i
  · simp [q]
  · simp only [q, if_false]; exact h.2 j hj
theorem own_L.congr {vs : List Value} {n : Nat} {f g : Nat → Nat} (h : own_L vs n f) (e : ∀ j, j < n → f j = g j) : own_L vs n g := ⟨h.1, fun j hj => by rw [← e j hj]; exact h.2 j hj⟩
theorem own_L.rep (n : Nat) : own_L (List.replicate n (.int (0 : Int32))) n (fun _ => 0) := by
  refine ⟨List.length_replicate, fun j hj => ?_⟩
  simp [List.getD_eq_getElem?_getD, hj]
  all_goals rfl
theorem own_one (i : Nat) : Int32.ofNat i + (1 : Int32) = Int32.ofNat (i + 1) := (Int32.ofNat_add i 1).symm
theorem own_add (i j : Nat) : Int32.ofNat i + Int32.ofNat j = Int32.ofNat (i + j) := (Int32.ofNat_add i j).symm
theorem own_pred {i : Nat} (h : 1 ≤ i) : Int32.ofNat i - (1 : Int32) = Int32.ofNat (i - 1) := by
  obtain ⟨m, rfl⟩ : ∃ m, i = m + 1 := ⟨i - 1, by omega⟩
  rw [← own_one, Int32.add_sub_cancel]; rfl
theorem own_lt {i n : Nat} (h : i < n) (hn : n ≤ 99) : Int32.ofNat i < Int32.ofNat n := by
  rw [Int32.lt_iff_toInt_lt, Int32.toInt_ofNat_of_lt (by omega), Int32.toInt_ofNat_of_lt (by omega)]
  omega
theorem own_nlt {i n : Nat} (h : n ≤ i) (hn : i ≤ 99) : ¬ Int32.ofNat i < Int32.ofNat n := by
  rw [Int32.lt_iff_toInt_lt, Int32.toInt_ofNat_of_lt (by omega), Int32.toInt_ofNat_of_lt (by omega)]
  omega
theorem own_eq' {i n : Nat} (h : Int32.ofNat i = Int32.ofNat n) (hi : i ≤ 99) (hn : n ≤ 99) : i = n := by
  have := congrArg Int32.toInt h
  rw [Int32.toInt_ofNat_of_lt (by omega), Int32.toInt_ofNat_of_lt (by omega)] at this
  omega
theorem own_nat {i : Nat} (h : i ≤ 99) : (Int32.ofNat i).toNatClampNeg = i ∧ ¬ Int32.ofNat i < 0 := by
  have t : (Int32.ofNat i).toInt = i := Int32.toInt_ofNat_of_lt (by omega)
  have e : ¬ Int32.ofNat i < 0 := by
    rw [Int32.lt_iff_toInt_lt, t]
    show ¬ ((i : Int) < 0)
    omega
  have q := nat_of e
  exact ⟨by omega, e⟩
theorem own_small (x : Int32) : ∃ n : Nat, n ≤ 7 ∧ (x &&& (7 : Int32)) = Int32.ofNat n := by
  refine ⟨(x &&& 7).toBitVec.toNat, ?_, ?_⟩
  · simp only [Int32.toBitVec_and, BitVec.toNat_and]
    exact Nat.and_le_right
  · apply Int32.toBitVec_inj.mp
    show _ = BitVec.ofNat 32 _
    rw [BitVec.ofNat_toNat]; simp
theorem own_len (x : Int32) : (x &&& (7 : Int32)) % (5 : Int32) = 0 ∨ (x &&& (7 : Int32)) % (5 : Int32) = 1 ∨ (x &&& (7 : Int32)) % (5 : Int32) = 2 ∨ (x &&& (7 : Int32)) % (5 : Int32) = 3 ∨ (x &&& (7 : Int32)) % (5 : Int32) = 4 := by
  obtain ⟨n, hn, e⟩ := own_small x
  rw [e]
  match n, hn with
  | 0, _ => decide
  | 1, _ => decide
  | 2, _ => decide
  | 3, _ => decide
  | 4, _ => decide
  | 5, _ => decide
  | 6, _ => decide
  | 7, _ => decide
theorem own_mod (a : Int32) (c : Nat) (h0 : 1 ≤ c) (h1 : c ≤ 8) : ∃ x : Nat, x < c ∧ (a &&& (2147483647 : Int32)) % Int32.ofNat c = Int32.ofNat x := by
  have m := c_mask a (2147483647 : Int32) 31 (by decide) (by decide)
  have tc : (Int32.ofNat c).toInt = c := Int32.toInt_ofNat_of_lt (by omega)
  have v := (c_iremV (a &&& (2147483647 : Int32)) (Int32.ofNat c)).1 (by rw [m]; omega) (by omega)
  obtain ⟨x, hx⟩ : ∃ x : Nat, (x : Int) = ((a &&& (2147483647 : Int32)) % Int32.ofNat c).toInt := ⟨_, Int.toNat_of_nonneg v.1⟩
  refine ⟨x, by omega, ?_⟩
  apply Int32.toInt_inj.mp
  rw [← hx, Int32.toInt_ofNat_of_lt (by omega)]
def own_rk (x0 x1 x2 x3 : Nat) : Nat → Nat
  | 0 => x0
  | 1 => x1
  | 2 => x2
  | 3 => x3
  | _ => 0
def own_lt01 (rk : Nat → Nat) (n q k : Nat) : Nat := if q < n ∧ rk q < k then 1 else 0
def own_eq01 (rk : Nat → Nat) (p q k : Nat) : Nat := if q < p ∧ rk q = k then 1 else 0
theorem own_sum (rk : Nat → Nat) {n p : Nat} (hn : n ≤ 4) (hp : p < 4) : own_lt01 rk n 0 (rk p) + own_lt01 rk n 1 (rk p) + own_lt01 rk n 2 (rk p) + own_lt01 rk n 3 (rk p) + own_eq01 rk p 0 (rk p) + own_eq01 rk p 1 (rk p) + own_eq01 rk p 2 (rk p) = own_pos rk n p := by
  have a : own_cnt (fun q => decide (rk q < rk p)) n = own_lt01 rk n 0 (rk p) + own_lt01 rk n 1 (rk p) + own_lt01 rk n 2 (rk p) + own_lt01 rk n 3 (rk p) := by
    match n, hn with
    | 0, _ => simp [own_cnt, own_lt01]
    | 1, _ => simp [own_cnt, own_lt01]
    | 2, _ => simp [own_cnt, own_lt01]
    | 3, _ => simp [own_cnt, own_lt01]
    | 4, _ => simp [own_cnt, own_lt01]
  have b : ∀ k, own_cnt (fun q => decide (rk q = k)) p = own_eq01 rk p 0 k + own_eq01 rk p 1 k + own_eq01 rk p 2 k := by
    intro k
    match p, hp with
    | 0, _ => simp [own_cnt, own_eq01]
    | 1, _ => simp [own_cnt, own_eq01]
    | 2, _ => simp [own_cnt, own_eq01]
    | 3, _ => simp [own_cnt, own_eq01]
  rw [own_pos, a, b]
  omega
theorem own_os {x0 x1 x2 x3 x4 x5 : Value} {s6 : Slot} {v : Int32} (h : One s6) : storeLocals #[.val x0, .val x1, .val x2, .val x3, .val x4, .val x5, s6] 6 (.int v) = some #[.val x0, .val x1, .val x2, .val x3, .val x4, .val x5, .val (.int v)] := by
  rcases h with rfl | ⟨w, rfl, hw⟩
  · rfl
  · cases w <;> first | rfl | (simp [Value.category] at hw)

theorem pd_0 : parseMethodDescriptor "([II)[I" = some ⟨[(.array .int), .int], some (.array .int)⟩ := by decide +kernel
theorem pd_1 : parseMethodDescriptor "([III)I" = some ⟨[(.array .int), .int, .int], some .int⟩ := by decide +kernel
theorem pd_2 : parseMethodDescriptor "([IIII)I" = some ⟨[(.array .int), .int, .int, .int], some .int⟩ := by decide +kernel
theorem d1_0 : decode prog_19_method_3_code 0 = .ok (.iload_n 1, 1) := by decide +kernel
theorem d1_1 : decode prog_19_method_3_code 1 = .ok (.iconst 1, 1) := by decide +kernel
theorem d1_2 : decode prog_19_method_3_code 2 = .ok (.iadd, 1) := by decide +kernel
theorem d1_3 : decode prog_19_method_3_code 3 = .ok (.newarray .int, 2) := by decide +kernel
theorem d1_5 : decode prog_19_method_3_code 5 = .ok (.astore_n 2, 1) := by decide +kernel
theorem d1_6 : decode prog_19_method_3_code 6 = .ok (.aload_n 0, 1) := by decide +kernel
theorem d1_7 : decode prog_19_method_3_code 7 = .ok (.astore_n 3, 1) := by decide +kernel
theorem d1_8 : decode prog_19_method_3_code 8 = .ok (.aload_n 3, 1) := by decide +kernel
theorem d1_9 : decode prog_19_method_3_code 9 = .ok (.arraylength, 1) := by decide +kernel
theorem d1_10 : decode prog_19_method_3_code 10 = .ok (.istore 4, 2) := by decide +kernel
theorem d1_12 : decode prog_19_method_3_code 12 = .ok (.iconst 0, 1) := by decide +kernel
theorem d1_13 : decode prog_19_method_3_code 13 = .ok (.istore 5, 2) := by decide +kernel
theorem d1_15 : decode prog_19_method_3_code 15 = .ok (.iload 5, 2) := by decide +kernel
theorem d1_17 : decode prog_19_method_3_code 17 = .ok (.iload 4, 2) := by decide +kernel
theorem d1_19 : decode prog_19_method_3_code 19 = .ok (.if_icmp .ge 25, 3) := by decide +kernel
theorem d1_22 : decode prog_19_method_3_code 22 = .ok (.aload_n 3, 1) := by decide +kernel
theorem d1_23 : decode prog_19_method_3_code 23 = .ok (.iload 5, 2) := by decide +kernel
theorem d1_25 : decode prog_19_method_3_code 25 = .ok (.iaload, 1) := by decide +kernel
theorem d1_26 : decode prog_19_method_3_code 26 = .ok (.istore 6, 2) := by decide +kernel
theorem d1_28 : decode prog_19_method_3_code 28 = .ok (.aload_n 2, 1) := by decide +kernel
theorem d1_29 : decode prog_19_method_3_code 29 = .ok (.iload 6, 2) := by decide +kernel
theorem d1_31 : decode prog_19_method_3_code 31 = .ok (.iconst 1, 1) := by decide +kernel
theorem d1_32 : decode prog_19_method_3_code 32 = .ok (.iadd, 1) := by decide +kernel
theorem d1_33 : decode prog_19_method_3_code 33 = .ok (.dup2, 1) := by decide +kernel
theorem d1_34 : decode prog_19_method_3_code 34 = .ok (.iaload, 1) := by decide +kernel
theorem d1_35 : decode prog_19_method_3_code 35 = .ok (.iconst 1, 1) := by decide +kernel
theorem d1_36 : decode prog_19_method_3_code 36 = .ok (.iadd, 1) := by decide +kernel
theorem d1_37 : decode prog_19_method_3_code 37 = .ok (.iastore, 1) := by decide +kernel
theorem d1_38 : decode prog_19_method_3_code 38 = .ok (.iinc 5 1, 3) := by decide +kernel
theorem d1_41 : decode prog_19_method_3_code 41 = .ok (.goto (-26), 3) := by decide +kernel
theorem d1_44 : decode prog_19_method_3_code 44 = .ok (.iconst 1, 1) := by decide +kernel
theorem d1_45 : decode prog_19_method_3_code 45 = .ok (.istore_n 3, 1) := by decide +kernel
theorem d1_46 : decode prog_19_method_3_code 46 = .ok (.iload_n 3, 1) := by decide +kernel
theorem d1_47 : decode prog_19_method_3_code 47 = .ok (.aload_n 2, 1) := by decide +kernel
theorem d1_48 : decode prog_19_method_3_code 48 = .ok (.arraylength, 1) := by decide +kernel
theorem d1_49 : decode prog_19_method_3_code 49 = .ok (.if_icmp .ge 20, 3) := by decide +kernel
theorem d1_52 : decode prog_19_method_3_code 52 = .ok (.aload_n 2, 1) := by decide +kernel
theorem d1_53 : decode prog_19_method_3_code 53 = .ok (.iload_n 3, 1) := by decide +kernel
theorem d1_54 : decode prog_19_method_3_code 54 = .ok (.dup2, 1) := by decide +kernel
theorem d1_55 : decode prog_19_method_3_code 55 = .ok (.iaload, 1) := by decide +kernel
theorem d1_56 : decode prog_19_method_3_code 56 = .ok (.aload_n 2, 1) := by decide +kernel
theorem d1_57 : decode prog_19_method_3_code 57 = .ok (.iload_n 3, 1) := by decide +kernel
theorem d1_58 : decode prog_19_method_3_code 58 = .ok (.iconst 1, 1) := by decide +kernel
theorem d1_59 : decode prog_19_method_3_code 59 = .ok (.isub, 1) := by decide +kernel
theorem d1_60 : decode prog_19_method_3_code 60 = .ok (.iaload, 1) := by decide +kernel
theorem d1_61 : decode prog_19_method_3_code 61 = .ok (.iadd, 1) := by decide +kernel
theorem d1_62 : decode prog_19_method_3_code 62 = .ok (.iastore, 1) := by decide +kernel
theorem d1_63 : decode prog_19_method_3_code 63 = .ok (.iinc 3 1, 3) := by decide +kernel
theorem d1_66 : decode prog_19_method_3_code 66 = .ok (.goto (-20), 3) := by decide +kernel
theorem d1_69 : decode prog_19_method_3_code 69 = .ok (.aload_n 0, 1) := by decide +kernel
theorem d1_70 : decode prog_19_method_3_code 70 = .ok (.arraylength, 1) := by decide +kernel
theorem d1_71 : decode prog_19_method_3_code 71 = .ok (.newarray .int, 2) := by decide +kernel
theorem d1_73 : decode prog_19_method_3_code 73 = .ok (.astore_n 3, 1) := by decide +kernel
theorem d1_74 : decode prog_19_method_3_code 74 = .ok (.iconst 0, 1) := by decide +kernel
theorem d1_75 : decode prog_19_method_3_code 75 = .ok (.istore 4, 2) := by decide +kernel
theorem d1_77 : decode prog_19_method_3_code 77 = .ok (.iload 4, 2) := by decide +kernel
theorem d1_79 : decode prog_19_method_3_code 79 = .ok (.aload_n 0, 1) := by decide +kernel
theorem d1_80 : decode prog_19_method_3_code 80 = .ok (.arraylength, 1) := by decide +kernel
theorem d1_81 : decode prog_19_method_3_code 81 = .ok (.if_icmp .ge 24, 3) := by decide +kernel
theorem d1_84 : decode prog_19_method_3_code 84 = .ok (.aload_n 3, 1) := by decide +kernel
theorem d1_85 : decode prog_19_method_3_code 85 = .ok (.aload_n 2, 1) := by decide +kernel
theorem d1_86 : decode prog_19_method_3_code 86 = .ok (.aload_n 0, 1) := by decide +kernel
theorem d1_87 : decode prog_19_method_3_code 87 = .ok (.iload 4, 2) := by decide +kernel
theorem d1_89 : decode prog_19_method_3_code 89 = .ok (.iaload, 1) := by decide +kernel
theorem d1_90 : decode prog_19_method_3_code 90 = .ok (.dup2, 1) := by decide +kernel
theorem d1_91 : decode prog_19_method_3_code 91 = .ok (.iaload, 1) := by decide +kernel
theorem d1_92 : decode prog_19_method_3_code 92 = .ok (.dup_x2, 1) := by decide +kernel
theorem d1_93 : decode prog_19_method_3_code 93 = .ok (.iconst 1, 1) := by decide +kernel
theorem d1_94 : decode prog_19_method_3_code 94 = .ok (.iadd, 1) := by decide +kernel
theorem d1_95 : decode prog_19_method_3_code 95 = .ok (.iastore, 1) := by decide +kernel
theorem d1_96 : decode prog_19_method_3_code 96 = .ok (.iload 4, 2) := by decide +kernel
theorem d1_98 : decode prog_19_method_3_code 98 = .ok (.iastore, 1) := by decide +kernel
theorem d1_99 : decode prog_19_method_3_code 99 = .ok (.iinc 4 1, 3) := by decide +kernel
theorem d1_102 : decode prog_19_method_3_code 102 = .ok (.goto (-25), 3) := by decide +kernel
theorem d1_105 : decode prog_19_method_3_code 105 = .ok (.aload_n 3, 1) := by decide +kernel
theorem d1_106 : decode prog_19_method_3_code 106 = .ok (.areturn, 1) := by decide +kernel
theorem pn_1 : plainFor (⟨"com/example/shelfwright/shelfwright/checker/Orders", "ascending", "([II)[I"⟩ : MethodName) = true := plainFor_of_name (by first | (simp [plainName, overriddenIn]; done) | decide +kernel)
set_option maxRecDepth 65536 in
set_option maxHeartbeats 40000000 in
theorem rm1 (l : Launch) (Z : State) (a0 : Array Value) (hw : ∀ d ∈ tables_1, d.before a0 Z = true) (a1 : Addr) (kk1 : ClassId) (vr : List Value) (rk : Nat → Nat) (n mc : Nat) (h0 : Heap) (n0 : Nat) (Z0 : n0 ≤ h0.size) (V1 : Arv Z h0 a1 kk1 .int (Int32.ofNat n) vr (.int (0 : Int32))) (hr : own_L vr n rk) (hn : n ≤ 4) (hm : mc ≤ 8) (hb8 : ∀ i, i < n → rk i < mc) :
    own_Met l Z (⟨"com/example/shelfwright/shelfwright/checker/Orders", "ascending", "([II)[I"⟩ : MethodName) prog_19_method_3_code 7 (some (.array .int)) ({ frames := 0, cells := 2, slots := 13, locals := 0 } : Room) #[(.ref a1), (.int (Int32.ofNat mc))] h0 (fun v h L => ∃ (b : Addr) (kc : ClassId) (vs : List Value), v = some (.ref b) ∧ Fr n0 L ∧ Keep h0 h [] ∧ Arv Z h b kc .int (Int32.ofNat n) vs (.int (0 : Int32)) ∧ ∀ q, q < n → vs.getD (own_pos rk n q) (.int (0 : Int32)) = .int (Int32.ofNat q)) := by
  refine own_body pn_1 ?_
  intro p e s m below meth c T0 hZ hx hby hml hown hnm hret hlk X0 e0 F hF
  have N0 := Fr.nil n0
  have K0 := Keep.refl h0 []
  refine own_cast (g' := (mkF m 0 #[.val (.ref a1), .val (.int (Int32.ofNat mc)), .unset, .unset, .unset, .unset, .unset] [])) (by first | rfl | simp [entryFrame, mkF, argsToLocals, Value.category]) ?_
  refine own_st (T' := T0) (g' := (mkF m 1 #[.val (.ref a1), .val (.int (Int32.ofNat mc)), .unset, .unset, .unset, .unset, .unset] [(.int (Int32.ofNat mc))])) (fun t9 k9 => XS.iloadN X0.here hx rfl (hb hby d1_0) rfl k9) ?_
  refine own_st (T' := T0) (g' := (mkF m 2 #[.val (.ref a1), .val (.int (Int32.ofNat mc)), .unset, .unset, .unset, .unset, .unset] [(.int (1 : Int32)), (.int (Int32.ofNat mc))])) (fun t9 k9 => XS.iconst X0.here hx rfl (hb hby d1_1) k9) ?_
  refine own_st (T' := T0) (g' := (mkF m 3 #[.val (.ref a1), .val (.int (Int32.ofNat mc)), .unset, .unset, .unset, .unset, .unset] [(.int ((Int32.ofNat mc) + (1 : Int32)))])) (fun t9 k9 => XS.iadd X0.here hx rfl (hb hby d1_2) rfl k9) ?_
  rw [own_one mc]
  obtain ⟨m1, m2⟩ := own_nat (i := mc + 1) (by omega)
  obtain ⟨l1, l2⟩ := own_nat (i := n) (by omega)
  obtain ⟨T1, h1, k1, X1, e1, Ex1, A1, st1⟩ := newP X0 hx hZ (hw _ (List.mem_of_getElem? (i := 0) rfl)) e0 (g := (mkF m 3 #[.val (.ref a1), .val (.int (Int32.ofNat mc)), .unset, .unset, .unset, .unset, .unset] [(.int (Int32.ofNat (mc + 1)))])) rfl (hb hby d1_3) rfl m2 (cap := 9) (by rw [m1]; omega) (by decide) (by decide) (by decide)
  obtain ⟨b1, gb1⟩ : ∃ z, z = h0.size := ⟨_, rfl⟩
  have ne_a1_b1 : a1 ≠ b1 := own_ne gb1 V1.lt
  have g_b1 : n0 ≤ b1 := gb1 ▸ Z0
  have sz_b1 : h0.size ≤ b1 := gb1 ▸ K0.1
  rw [← gb1] at A1 st1
  have V1_2 := V1.ext Ex1
  have K1 := K0.ext Ex1
  have Z1 : n0 ≤ h1.size := Nat.le_trans Z0 Ex1.1
  have V_b1 : Arv Z h1 b1 k1 .int (Int32.ofNat (mc + 1)) [] (.int (0 : Int32)) := Arv.new A1 m2
  refine own_st (T' := T1) (g' := (mkF m 5 #[.val (.ref a1), .val (.int (Int32.ofNat mc)), .unset, .unset, .unset, .unset, .unset] [(.ref b1)])) (fun t9 k9 => st1 t9 k9) ?_
  have Vn : Arv Z h1 b1 k1 .int (Int32.ofNat (mc + 1)) (List.replicate (mc + 1) (.int (0 : Int32))) (.int (0 : Int32)) := V_b1.pad (pad_rep [] (.int (0 : Int32)) (mc + 1))
  refine own_st (T' := T1) (g' := (mkF m 6 #[.val (.ref a1), .val (.int (Int32.ofNat mc)), .val (.ref b1), .unset, .unset, .unset, .unset] [])) (fun t9 k9 => XS.astoreN X1.here hx rfl (hb hby d1_5) rfl rfl (l' := #[.val (.ref a1), .val (.int (Int32.ofNat mc)), .val (.ref b1), .unset, .unset, .unset, .unset]) rfl k9) ?_
  refine own_st (T' := T1) (g' := (mkF m 7 #[.val (.ref a1), .val (.int (Int32.ofNat mc)), .val (.ref b1), .unset, .unset, .unset, .unset] [(.ref a1)])) (fun t9 k9 => XS.aloadN X1.here hx rfl (hb hby d1_6) rfl rfl k9) ?_
  refine own_st (T' := T1) (g' := (mkF m 8 #[.val (.ref a1), .val (.int (Int32.ofNat mc)), .val (.ref b1), .val (.ref a1), .unset, .unset, .unset] [])) (fun t9 k9 => XS.astoreN X1.here hx rfl (hb hby d1_7) rfl rfl (l' := #[.val (.ref a1), .val (.int (Int32.ofNat mc)), .val (.ref b1), .val (.ref a1), .unset, .unset, .unset]) rfl k9) ?_
  refine own_st (T' := T1) (g' := (mkF m 9 #[.val (.ref a1), .val (.int (Int32.ofNat mc)), .val (.ref b1), .val (.ref a1), .unset, .unset, .unset] [(.ref a1)])) (fun t9 k9 => XS.aloadN X1.here hx rfl (hb hby d1_8) rfl rfl k9) ?_
  obtain ⟨clu3, Aru3, qu3, Su3, Nu3, Hu3, Gu3⟩ := (id V1_2)
  refine own_st (T' := T1) (g' := (mkF m 10 #[.val (.ref a1), .val (.int (Int32.ofNat mc)), .val (.ref b1), .val (.ref a1), .unset, .unset, .unset] [(.int (Int32.ofNat n))])) (fun t9 k9 => X1.arraylength hx (by rw [e1]; exact Aru3.1) (State.isArrayOf_alike hZ.alike Aru3.2.1) (g := (mkF m 9 #[.val (.ref a1), .val (.int (Int32.ofNat mc)), .val (.ref b1), .val (.ref a1), .unset, .unset, .unset] [(.ref a1)])) rfl rfl (hb hby d1_9) t9 (by rw [len_of Su3 Nu3]; exact k9)) ?_
  refine own_st (T' := T1) (g' := (mkF m 12 #[.val (.ref a1), .val (.int (Int32.ofNat mc)), .val (.ref b1), .val (.ref a1), .val (.int (Int32.ofNat n)), .unset, .unset] [])) (fun t9 k9 => XS.istore X1.here hx rfl (hb hby d1_10) rfl (l' := #[.val (.ref a1), .val (.int (Int32.ofNat mc)), .val (.ref b1), .val (.ref a1), .val (.int (Int32.ofNat n)), .unset, .unset]) rfl k9) ?_
  refine own_st (T' := T1) (g' := (mkF m 13 #[.val (.ref a1), .val (.int (Int32.ofNat mc)), .val (.ref b1), .val (.ref a1), .val (.int (Int32.ofNat n)), .unset, .unset] [(.int (0 : Int32))])) (fun t9 k9 => XS.iconst X1.here hx rfl (hb hby d1_12) k9) ?_
  refine own_st (T' := T1) (g' := (mkF m 15 #[.val (.ref a1), .val (.int (Int32.ofNat mc)), .val (.ref b1), .val (.ref a1), .val (.int (Int32.ofNat n)), .val (.int (0 : Int32)), .unset] [])) (fun t9 k9 => XS.istore X1.here hx rfl (hb hby d1_13) rfl (l' := #[.val (.ref a1), .val (.int (Int32.ofNat mc)), .val (.ref b1), .val (.ref a1), .val (.int (Int32.ofNat n)), .val (.int (0 : Int32)), .unset]) rfl k9) ?_
  have lpA : ∀ (k : Nat) (T4 : State) (L4 : List Loc) (h4 : Heap) (i : Nat) (s6 : Slot) (vs : List Value), Stand p l e ({ frames := 0, cells := 2, slots := 13, locals := 0 } : Room) s m #[(.ref a1), (.int (Int32.ofNat mc))] below meth c T4 L4 (0 + 1) (0 + 9) → T4.heap = h4 → Fr n0 L4 → (n0 ≤ h4.size) → (Keep h0 h4 []) → (Arv Z h4 a1 kk1 .int (Int32.ofNat n) vr (.int (0 : Int32))) → (Arv Z h4 b1 k1 .int (Int32.ofNat (mc + 1)) vs (.int (0 : Int32))) → (i + k = n) → (One s6) → (own_L vs (mc + 1) (own_c1 rk i)) → own_Go p e below F T4 (mkF m 15 #[.val (.ref a1), .val (.int (Int32.ofNat mc)), .val (.ref b1), .val (.ref a1), .val (.int (Int32.ofNat n)), .val (.int (Int32.ofNat i)), s6] []) := by
    intro k
    induction k with
    | zero =>
      intro T4 L4 h4 i s6 vs X4 e4 N4 Z4 K4 V1_9 Vn_9 hi ho hL
      obtain rfl : n = i := by omega
      show own_Go p e below F T4 (mkF m 15 #[.val (.ref a1), .val (.int (Int32.ofNat mc)), .val (.ref b1), .val (.ref a1), .val (.int (Int32.ofNat n)), .val (.int (Int32.ofNat n)), s6] [])
      refine own_st (T' := T4) (g' := (mkF m 17 #[.val (.ref a1), .val (.int (Int32.ofNat mc)), .val (.ref b1), .val (.ref a1), .val (.int (Int32.ofNat n)), .val (.int (Int32.ofNat n)), s6] [(.int (Int32.ofNat n))])) (fun t9 k9 => XS.iload X4.here hx rfl (hb hby d1_15) rfl k9) ?_
      refine own_st (T' := T4) (g' := (mkF m 19 #[.val (.ref a1), .val (.int (Int32.ofNat mc)), .val (.ref b1), .val (.ref a1), .val (.int (Int32.ofNat n)), .val (.int (Int32.ofNat n)), s6] [(.int (Int32.ofNat n)), (.int (Int32.ofNat n))])) (fun t9 k9 => XS.iload X4.here hx rfl (hb hby d1_17) rfl k9) ?_
      refine own_st (T' := T4) (g' := (mkF m 44 #[.val (.ref a1), .val (.int (Int32.ofNat mc)), .val (.ref b1), .val (.ref a1), .val (.int (Int32.ofNat n)), .val (.int (Int32.ofNat n)), s6] [])) (fun t9 k9 => XS.icmpYes X4.here hx rfl (pc0 := 19) (pc' := 44) rfl (hb hby d1_19) rfl (flt (Int32.lt_irrefl)).2.1 (by decide) (by decide) k9) ?_
      refine own_st (T' := T4) (g' := (mkF m 45 #[.val (.ref a1), .val (.int (Int32.ofNat mc)), .val (.ref b1), .val (.ref a1), .val (.int (Int32.ofNat n)), .val (.int (Int32.ofNat n)), s6] [(.int (1 : Int32))])) (fun t9 k9 => XS.iconst X4.here hx rfl (hb hby d1_44) k9) ?_
      refine own_st (T' := T4) (g' := (mkF m 46 #[.val (.ref a1), .val (.int (Int32.ofNat mc)), .val (.ref b1), .val (.int (1 : Int32)), .val (.int (Int32.ofNat n)), .val (.int (Int32.ofNat n)), s6] [])) (fun t9 k9 => XS.istoreN X4.here hx rfl (hb hby d1_45) rfl (l' := #[.val (.ref a1), .val (.int (Int32.ofNat mc)), .val (.ref b1), .val (.int (1 : Int32)), .val (.int (Int32.ofNat n)), .val (.int (Int32.ofNat n)), s6]) rfl k9) ?_
      have lpB : ∀ (k : Nat) (T5 : State) (L5 : List Loc) (h5 : Heap) (j : Nat) (vs : List Value), Stand p l e ({ frames := 0, cells := 2, slots := 13, locals := 0 } : Room) s m #[(.ref a1), (.int (Int32.ofNat mc))] below meth c T5 L5 (0 + 1) (0 + 9) → T5.heap = h5 → Fr n0 L5 → (n0 ≤ h5.size) → (Keep h0 h5 []) → (Arv Z h5 a1 kk1 .int (Int32.ofNat n) vr (.int (0 : Int32))) → (Arv Z h5 b1 k1 .int (Int32.ofNat (mc + 1)) vs (.int (0 : Int32))) → (j + k = mc + 1) → (1 ≤ j) → (own_L vs (mc + 1) (own_c2 rk n j)) → own_Go p e below F T5 (mkF m 46 #[.val (.ref a1), .val (.int (Int32.ofNat mc)), .val (.ref b1), .val (.int (Int32.ofNat j)), .val (.int (Int32.ofNat n)), .val (.int (Int32.ofNat n)), s6] []) := by
        intro k
        induction k with
        | zero =>
          intro T5 L5 h5 j vs X5 e5 N5 Z5 K5 V1_9 Vn_9 hj hj1 hL
          obtain rfl : j = mc + 1 := by omega
          show own_Go p e below F T5 (mkF m 46 #[.val (.ref a1), .val (.int (Int32.ofNat mc)), .val (.ref b1), .val (.int (Int32.ofNat (mc + 1))), .val (.int (Int32.ofNat n)), .val (.int (Int32.ofNat n)), s6] [])
          refine own_st (T' := T5) (g' := (mkF m 47 #[.val (.ref a1), .val (.int (Int32.ofNat mc)), .val (.ref b1), .val (.int (Int32.ofNat (mc + 1))), .val (.int (Int32.ofNat n)), .val (.int (Int32.ofNat n)), s6] [(.int (Int32.ofNat (mc + 1)))])) (fun t9 k9 => XS.iloadN X5.here hx rfl (hb hby d1_46) rfl k9) ?_
          refine own_st (T' := T5) (g' := (mkF m 48 #[.val (.ref a1), .val (.int (Int32.ofNat mc)), .val (.ref b1), .val (.int (Int32.ofNat (mc + 1))), .val (.int (Int32.ofNat n)), .val (.int (Int32.ofNat n)), s6] [(.ref b1), (.int (Int32.ofNat (mc + 1)))])) (fun t9 k9 => XS.aloadN X5.here hx rfl (hb hby d1_47) rfl rfl k9) ?_
          obtain ⟨clu6, Aru6, qu6, Su6, Nu6, Hu6, Gu6⟩ := (id Vn_9)
          refine own_st (T' := T5) (g' := (mkF m 49 #[.val (.ref a1), .val (.int (Int32.ofNat mc)), .val (.ref b1), .val (.int (Int32.ofNat (mc + 1))), .val (.int (Int32.ofNat n)), .val (.int (Int32.ofNat n)), s6] [(.int (Int32.ofNat (mc + 1))), (.int (Int32.ofNat (mc + 1)))])) (fun t9 k9 => X5.arraylength hx (by rw [e5]; exact Aru6.1) (State.isArrayOf_alike hZ.alike Aru6.2.1) (g := (mkF m 48 #[.val (.ref a1), .val (.int (Int32.ofNat mc)), .val (.ref b1), .val (.int (Int32.ofNat (mc + 1))), .val (.int (Int32.ofNat n)), .val (.int (Int32.ofNat n)), s6] [(.ref b1), (.int (Int32.ofNat (mc + 1)))])) rfl rfl (hb hby d1_48) t9 (by rw [len_of Su6 Nu6]; exact k9)) ?_
          refine own_st (T' := T5) (g' := (mkF m 69 #[.val (.ref a1), .val (.int (Int32.ofNat mc)), .val (.ref b1), .val (.int (Int32.ofNat (mc + 1))), .val (.int (Int32.ofNat n)), .val (.int (Int32.ofNat n)), s6] [])) (fun t9 k9 => XS.icmpYes X5.here hx rfl (pc0 := 49) (pc' := 69) rfl (hb hby d1_49) rfl (flt (Int32.lt_irrefl)).2.1 (by decide) (by decide) k9) ?_
          refine own_st (T' := T5) (g' := (mkF m 70 #[.val (.ref a1), .val (.int (Int32.ofNat mc)), .val (.ref b1), .val (.int (Int32.ofNat (mc + 1))), .val (.int (Int32.ofNat n)), .val (.int (Int32.ofNat n)), s6] [(.ref a1)])) (fun t9 k9 => XS.aloadN X5.here hx rfl (hb hby d1_69) rfl rfl k9) ?_
          obtain ⟨clu7, Aru7, qu7, Su7, Nu7, Hu7, Gu7⟩ := (id V1_9)
          refine own_st (T' := T5) (g' := (mkF m 71 #[.val (.ref a1), .val (.int (Int32.ofNat mc)), .val (.ref b1), .val (.int (Int32.ofNat (mc + 1))), .val (.int (Int32.ofNat n)), .val (.int (Int32.ofNat n)), s6] [(.int (Int32.ofNat n))])) (fun t9 k9 => X5.arraylength hx (by rw [e5]; exact Aru7.1) (State.isArrayOf_alike hZ.alike Aru7.2.1) (g := (mkF m 70 #[.val (.ref a1), .val (.int (Int32.ofNat mc)), .val (.ref b1), .val (.int (Int32.ofNat (mc + 1))), .val (.int (Int32.ofNat n)), .val (.int (Int32.ofNat n)), s6] [(.ref a1)])) rfl rfl (hb hby d1_70) t9 (by rw [len_of Su7 Nu7]; exact k9)) ?_
          obtain ⟨T8, h8, k8, X8, e8, Ex8, A8, st8⟩ := newP X5 hx hZ (hw _ (List.mem_of_getElem? (i := 0) rfl)) e5 (g := (mkF m 71 #[.val (.ref a1), .val (.int (Int32.ofNat mc)), .val (.ref b1), .val (.int (Int32.ofNat (mc + 1))), .val (.int (Int32.ofNat n)), .val (.int (Int32.ofNat n)), s6] [(.int (Int32.ofNat n))])) rfl (hb hby d1_71) rfl l2 (cap := 4) (by rw [l1]; omega) (by decide) (by decide) (by decide)
          obtain ⟨b8, gb8⟩ : ∃ z, z = h5.size := ⟨_, rfl⟩
          have ne_a1_b8 : a1 ≠ b8 := own_ne gb8 V1_9.lt
          have ne_b1_b8 : b1 ≠ b8 := own_ne gb8 Vn_9.lt
          have g_b8 : n0 ≤ b8 := gb8 ▸ Z5
          have sz_b8 : h0.size ≤ b8 := gb8 ▸ K5.1
          rw [← gb8] at A8 st8
          have V1_9 := V1_9.ext Ex8
          have Vn_10 := Vn_9.ext Ex8
          have K8 := K5.ext Ex8
          have Z8 : n0 ≤ h8.size := Nat.le_trans Z5 Ex8.1
          have V_b8 : Arv Z h8 b8 k8 .int (Int32.ofNat n) [] (.int (0 : Int32)) := Arv.new A8 l2
          refine own_st (T' := T8) (g' := (mkF m 73 #[.val (.ref a1), .val (.int (Int32.ofNat mc)), .val (.ref b1), .val (.int (Int32.ofNat (mc + 1))), .val (.int (Int32.ofNat n)), .val (.int (Int32.ofNat n)), s6] [(.ref b8)])) (fun t9 k9 => st8 t9 k9) ?_
          have Vo : Arv Z h8 b8 k8 .int (Int32.ofNat n) (List.replicate n (.int (0 : Int32))) (.int (0 : Int32)) := V_b8.pad (pad_rep [] (.int (0 : Int32)) n)
          refine own_st (T' := T8) (g' := (mkF m 74 #[.val (.ref a1), .val (.int (Int32.ofNat mc)), .val (.ref b1), .val (.ref b8), .val (.int (Int32.ofNat n)), .val (.int (Int32.ofNat n)), s6] [])) (fun t9 k9 => XS.astoreN X8.here hx rfl (hb hby d1_73) rfl rfl (l' := #[.val (.ref a1), .val (.int (Int32.ofNat mc)), .val (.ref b1), .val (.ref b8), .val (.int (Int32.ofNat n)), .val (.int (Int32.ofNat n)), s6]) rfl k9) ?_
          refine own_st (T' := T8) (g' := (mkF m 75 #[.val (.ref a1), .val (.int (Int32.ofNat mc)), .val (.ref b1), .val (.ref b8), .val (.int (Int32.ofNat n)), .val (.int (Int32.ofNat n)), s6] [(.int (0 : Int32))])) (fun t9 k9 => XS.iconst X8.here hx rfl (hb hby d1_74) k9) ?_
          refine own_st (T' := T8) (g' := (mkF m 77 #[.val (.ref a1), .val (.int (Int32.ofNat mc)), .val (.ref b1), .val (.ref b8), .val (.int (0 : Int32)), .val (.int (Int32.ofNat n)), s6] [])) (fun t9 k9 => XS.istore X8.here hx rfl (hb hby d1_75) rfl (l' := #[.val (.ref a1), .val (.int (Int32.ofNat mc)), .val (.ref b1), .val (.ref b8), .val (.int (0 : Int32)), .val (.int (Int32.ofNat n)), s6]) rfl k9) ?_
          have lpC : ∀ (k : Nat) (T11 : State) (L11 : List Loc) (h11 : Heap) (q : Nat) (vs : List Value) (vo : List Value), Stand p l e ({ frames := 0, cells := 2, slots := 13, locals := 0 } : Room) s m #[(.ref a1), (.int (Int32.ofNat mc))] below meth c T11 L11 (0 + 1 + 1) (0 + 9 + 4) → T11.heap = h11 → Fr n0 L11 → (n0 ≤ h11.size) → (Keep h0 h11 []) → (Arv Z h11 a1 kk1 .int (Int32.ofNat n) vr (.int (0 : Int32))) → (Arv Z h11 b1 k1 .int (Int32.ofNat (mc + 1)) vs (.int (0 : Int32))) → (Arv Z h11 b8 k8 .int (Int32.ofNat n) vo (.int (0 : Int32))) → (q + k = n) → (own_L vs (mc + 1) (own_c3 rk n q)) → (vo.length = n) → (∀ r, r < q → vo.getD (own_pos rk n r) (.int (0 : Int32)) = .int (Int32.ofNat r)) → own_Go p e below F T11 (mkF m 77 #[.val (.ref a1), .val (.int (Int32.ofNat mc)), .val (.ref b1), .val (.ref b8), .val (.int (Int32.ofNat q)), .val (.int (Int32.ofNat n)), s6] []) := by
            intro k
            induction k with
            | zero =>
              intro T11 L11 h11 q vs vo X11 e11 N11 Z11 K11 V1_9 Vn_9 Vo_9 hq hL hlo hO
              obtain rfl : n = q := by omega
              show own_Go p e below F T11 (mkF m 77 #[.val (.ref a1), .val (.int (Int32.ofNat mc)), .val (.ref b1), .val (.ref b8), .val (.int (Int32.ofNat n)), .val (.int (Int32.ofNat n)), s6] [])
              refine own_st (T' := T11) (g' := (mkF m 79 #[.val (.ref a1), .val (.int (Int32.ofNat mc)), .val (.ref b1), .val (.ref b8), .val (.int (Int32.ofNat n)), .val (.int (Int32.ofNat n)), s6] [(.int (Int32.ofNat n))])) (fun t9 k9 => XS.iload X11.here hx rfl (hb hby d1_77) rfl k9) ?_
              refine own_st (T' := T11) (g' := (mkF m 80 #[.val (.ref a1), .val (.int (Int32.ofNat mc)), .val (.ref b1), .val (.ref b8), .val (.int (Int32.ofNat n)), .val (.int (Int32.ofNat n)), s6] [(.ref a1), (.int (Int32.ofNat n))])) (fun t9 k9 => XS.aloadN X11.here hx rfl (hb hby d1_79) rfl rfl k9) ?_
              obtain ⟨clu12, Aru12, qu12, Su12, Nu12, Hu12, Gu12⟩ := (id V1_9)
              refine own_st (T' := T11) (g' := (mkF m 81 #[.val (.ref a1), .val (.int (Int32.ofNat mc)), .val (.ref b1), .val (.ref b8), .val (.int (Int32.ofNat n)), .val (.int (Int32.ofNat n)), s6] [(.int (Int32.ofNat n)), (.int (Int32.ofNat n))])) (fun t9 k9 => X11.arraylength hx (by rw [e11]; exact Aru12.1) (State.isArrayOf_alike hZ.alike Aru12.2.1) (g := (mkF m 80 #[.val (.ref a1), .val (.int (Int32.ofNat mc)), .val (.ref b1), .val (.ref b8), .val (.int (Int32.ofNat n)), .val (.int (Int32.ofNat n)), s6] [(.ref a1), (.int (Int32.ofNat n))])) rfl rfl (hb hby d1_80) t9 (by rw [len_of Su12 Nu12]; exact k9)) ?_
              refine own_st (T' := T11) (g' := (mkF m 105 #[.val (.ref a1), .val (.int (Int32.ofNat mc)), .val (.ref b1), .val (.ref b8), .val (.int (Int32.ofNat n)), .val (.int (Int32.ofNat n)), s6] [])) (fun t9 k9 => XS.icmpYes X11.here hx rfl (pc0 := 81) (pc' := 105) rfl (hb hby d1_81) rfl (flt (Int32.lt_irrefl)).2.1 (by decide) (by decide) k9) ?_
              refine own_st (T' := T11) (g' := (mkF m 106 #[.val (.ref a1), .val (.int (Int32.ofNat mc)), .val (.ref b1), .val (.ref b8), .val (.int (Int32.ofNat n)), .val (.int (Int32.ofNat n)), s6] [(.ref b8)])) (fun t9 k9 => XS.aloadN X11.here hx rfl (hb hby d1_105) rfl rfl k9) ?_
              refine own_ret (v := some (.ref b8)) hF X11 (own_some hret) hlk (fun fs hr => own_retA X11 hx hret rfl rfl (hb hby d1_106) hr) ?_ (by decide) (by decide)
              try rw [e11]
              exact ⟨b8, _, _, rfl, N11, K11, Vo_9, hO⟩
            | succ k ih =>
              intro T11 L11 h11 q vs vo X11 e11 N11 Z11 K11 V1_9 Vn_9 Vo_9 hq hL hlo hO
              obtain ⟨q1, q2⟩ := own_nat (i := q) (by omega)
              have hrq := hb8 q (by omega)
              obtain ⟨r1, r2⟩ := own_nat (i := rk q) (by omega)
              have hps := own_pos_lt (rk := rk) (n := n) (p := q) (by omega)
              obtain ⟨s1, s2⟩ := own_nat (i := own_pos rk n q) (by omega)
              refine own_st (T' := T11) (g' := (mkF m 79 #[.val (.ref a1), .val (.int (Int32.ofNat mc)), .val (.ref b1), .val (.ref b8), .val (.int (Int32.ofNat q)), .val (.int (Int32.ofNat n)), s6] [(.int (Int32.ofNat q))])) (fun t9 k9 => XS.iload X11.here hx rfl (hb hby d1_77) rfl k9) ?_
              refine own_st (T' := T11) (g' := (mkF m 80 #[.val (.ref a1), .val (.int (Int32.ofNat mc)), .val (.ref b1), .val (.ref b8), .val (.int (Int32.ofNat q)), .val (.int (Int32.ofNat n)), s6] [(.ref a1), (.int (Int32.ofNat q))])) (fun t9 k9 => XS.aloadN X11.here hx rfl (hb hby d1_79) rfl rfl k9) ?_
              obtain ⟨clu13, Aru13, qu13, Su13, Nu13, Hu13, Gu13⟩ := (id V1_9)
              refine own_st (T' := T11) (g' := (mkF m 81 #[.val (.ref a1), .val (.int (Int32.ofNat mc)), .val (.ref b1), .val (.ref b8), .val (.int (Int32.ofNat q)), .val (.int (Int32.ofNat n)), s6] [(.int (Int32.ofNat n)), (.int (Int32.ofNat q))])) (fun t9 k9 => X11.arraylength hx (by rw [e11]; exact Aru13.1) (State.isArrayOf_alike hZ.alike Aru13.2.1) (g := (mkF m 80 #[.val (.ref a1), .val (.int (Int32.ofNat mc)), .val (.ref b1), .val (.ref b8), .val (.int (Int32.ofNat q)), .val (.int (Int32.ofNat n)), s6] [(.ref a1), (.int (Int32.ofNat q))])) rfl rfl (hb hby d1_80) t9 (by rw [len_of Su13 Nu13]; exact k9)) ?_
              refine own_st (T' := T11) (g' := (mkF m 84 #[.val (.ref a1), .val (.int (Int32.ofNat mc)), .val (.ref b1), .val (.ref b8), .val (.int (Int32.ofNat q)), .val (.int (Int32.ofNat n)), s6] [])) (fun t9 k9 => XS.icmpNo X11.here hx rfl (hb hby d1_81) rfl (tlt (own_lt (by omega) (by omega))).2.1 k9) ?_
              refine own_st (T' := T11) (g' := (mkF m 85 #[.val (.ref a1), .val (.int (Int32.ofNat mc)), .val (.ref b1), .val (.ref b8), .val (.int (Int32.ofNat q)), .val (.int (Int32.ofNat n)), s6] [(.ref b8)])) (fun t9 k9 => XS.aloadN X11.here hx rfl (hb hby d1_84) rfl rfl k9) ?_
              refine own_st (T' := T11) (g' := (mkF m 86 #[.val (.ref a1), .val (.int (Int32.ofNat mc)), .val (.ref b1), .val (.ref b8), .val (.int (Int32.ofNat q)), .val (.int (Int32.ofNat n)), s6] [(.ref b1), (.ref b8)])) (fun t9 k9 => XS.aloadN X11.here hx rfl (hb hby d1_85) rfl rfl k9) ?_
              refine own_st (T' := T11) (g' := (mkF m 87 #[.val (.ref a1), .val (.int (Int32.ofNat mc)), .val (.ref b1), .val (.ref b8), .val (.int (Int32.ofNat q)), .val (.int (Int32.ofNat n)), s6] [(.ref a1), (.ref b1), (.ref b8)])) (fun t9 k9 => XS.aloadN X11.here hx rfl (hb hby d1_86) rfl rfl k9) ?_
              refine own_st (T' := T11) (g' := (mkF m 89 #[.val (.ref a1), .val (.int (Int32.ofNat mc)), .val (.ref b1), .val (.ref b8), .val (.int (Int32.ofNat q)), .val (.int (Int32.ofNat n)), s6] [(.int (Int32.ofNat q)), (.ref a1), (.ref b1), (.ref b8)])) (fun t9 k9 => XS.iload X11.here hx rfl (hb hby d1_87) rfl k9) ?_
              obtain ⟨clu14, Aru14, qu14, Su14, Nu14, Hu14, Gu14⟩ := (id V1_9)
              have hinu14 := inb_of Su14 (j := (Int32.ofNat q)) ⟨q2, own_lt (by omega) (by omega)⟩
              refine own_st (T' := T11) (g' := (mkF m 90 #[.val (.ref a1), .val (.int (Int32.ofNat mc)), .val (.ref b1), .val (.ref b8), .val (.int (Int32.ofNat q)), .val (.int (Int32.ofNat n)), s6] [(.int (Int32.ofNat (rk q))), (.ref b1), (.ref b8)])) (fun t9 k9 => X11.iaload hx (j := (Int32.ofNat q)) (v := (.int (Int32.ofNat (rk q)))) (by rw [e11]; exact Aru14.1) (State.isArrayOf_alike hZ.alike Aru14.2.1) Aru14.2.2 hinu14 (Hu14.at hinu14 (by rw [q1]; exact hr.2 q (by omega))) (g := (mkF m 89 #[.val (.ref a1), .val (.int (Int32.ofNat mc)), .val (.ref b1), .val (.ref b8), .val (.int (Int32.ofNat q)), .val (.int (Int32.ofNat n)), s6] [(.int (Int32.ofNat q)), (.ref a1), (.ref b1), (.ref b8)])) rfl rfl (hb hby d1_89) t9 k9) ?_
              refine own_st (T' := T11) (g' := (mkF m 91 #[.val (.ref a1), .val (.int (Int32.ofNat mc)), .val (.ref b1), .val (.ref b8), .val (.int (Int32.ofNat q)), .val (.int (Int32.ofNat n)), s6] [(.int (Int32.ofNat (rk q))), (.ref b1), (.int (Int32.ofNat (rk q))), (.ref b1), (.ref b8)])) (fun t9 k9 => own_dup2a X11 hx (hb hby d1_90) rfl rfl k9) ?_
              obtain ⟨clu15, Aru15, qu15, Su15, Nu15, Hu15, Gu15⟩ := (id Vn_9)
              have hinu15 := inb_of Su15 (j := (Int32.ofNat (rk q))) ⟨r2, own_lt (by omega) (by omega)⟩
              refine own_st (T' := T11) (g' := (mkF m 92 #[.val (.ref a1), .val (.int (Int32.ofNat mc)), .val (.ref b1), .val (.ref b8), .val (.int (Int32.ofNat q)), .val (.int (Int32.ofNat n)), s6] [(.int (Int32.ofNat (own_pos rk n q))), (.int (Int32.ofNat (rk q))), (.ref b1), (.ref b8)])) (fun t9 k9 => X11.iaload hx (j := (Int32.ofNat (rk q))) (v := (.int (Int32.ofNat (own_pos rk n q)))) (by rw [e11]; exact Aru15.1) (State.isArrayOf_alike hZ.alike Aru15.2.1) Aru15.2.2 hinu15 (Hu15.at hinu15 (by rw [r1]; exact hL.2 _ (by omega))) (g := (mkF m 91 #[.val (.ref a1), .val (.int (Int32.ofNat mc)), .val (.ref b1), .val (.ref b8), .val (.int (Int32.ofNat q)), .val (.int (Int32.ofNat n)), s6] [(.int (Int32.ofNat (rk q))), (.ref b1), (.int (Int32.ofNat (rk q))), (.ref b1), (.ref b8)])) rfl rfl (hb hby d1_91) t9 k9) ?_
              refine own_st (T' := T11) (g' := (mkF m 93 #[.val (.ref a1), .val (.int (Int32.ofNat mc)), .val (.ref b1), .val (.ref b8), .val (.int (Int32.ofNat q)), .val (.int (Int32.ofNat n)), s6] [(.int (Int32.ofNat (own_pos rk n q))), (.int (Int32.ofNat (rk q))), (.ref b1), (.int (Int32.ofNat (own_pos rk n q))), (.ref b8)])) (fun t9 k9 => by
                  jvm_step X11.here [X11.here.top, hx, (hb hby d1_92), Value.category]
                  exact k9) ?_
              refine own_st (T' := T11) (g' := (mkF m 94 #[.val (.ref a1), .val (.int (Int32.ofNat mc)), .val (.ref b1), .val (.ref b8), .val (.int (Int32.ofNat q)), .val (.int (Int32.ofNat n)), s6] [(.int (1 : Int32)), (.int (Int32.ofNat (own_pos rk n q))), (.int (Int32.ofNat (rk q))), (.ref b1), (.int (Int32.ofNat (own_pos rk n q))), (.ref b8)])) (fun t9 k9 => XS.iconst X11.here hx rfl (hb hby d1_93) k9) ?_
              refine own_st (T' := T11) (g' := (mkF m 95 #[.val (.ref a1), .val (.int (Int32.ofNat mc)), .val (.ref b1), .val (.ref b8), .val (.int (Int32.ofNat q)), .val (.int (Int32.ofNat n)), s6] [(.int ((Int32.ofNat (own_pos rk n q)) + (1 : Int32))), (.int (Int32.ofNat (rk q))), (.ref b1), (.int (Int32.ofNat (own_pos rk n q))), (.ref b8)])) (fun t9 k9 => XS.iadd X11.here hx rfl (hb hby d1_94) rfl k9) ?_
              rw [own_one (own_pos rk n q)]
              obtain ⟨clu16, Aru16, qu16, Su16, Nu16, Hu16, Gu16⟩ := (id Vn_9)
              obtain ⟨T17, h17, X17, e17, W17, st17⟩ := stI X11 hx hZ e11 Aru16 (j := (Int32.ofNat (rk q))) (inb_of Su16 ⟨r2, own_lt (by omega) (by omega)⟩) (g := (mkF m 95 #[.val (.ref a1), .val (.int (Int32.ofNat mc)), .val (.ref b1), .val (.ref b8), .val (.int (Int32.ofNat q)), .val (.int (Int32.ofNat n)), s6] [(.int (Int32.ofNat (own_pos rk n q + 1))), (.int (Int32.ofNat (rk q))), (.ref b1), (.int (Int32.ofNat (own_pos rk n q))), (.ref b8)])) rfl rfl (hb hby d1_95)
              have Va17 := Arv.set Aru16 qu16 Su16 Nu16 Hu16 Gu16 rfl W17 (rk q) r1 (by rw [hL.1]; omega)
              have V1_18 := V1_9.other W17 ne_a1_b1
              have Vo_19 := Vo_9.other W17 (Ne.symm ne_b1_b8)
              have K17 := K11.wr W17 (Or.inr sz_b1)
              have N17 := Fr.snoc X17 N11 g_b1
              have Z17 : n0 ≤ h17.size := by rw [W17.size]; exact Z11
              refine own_st (T' := T17) (g' := (mkF m 96 #[.val (.ref a1), .val (.int (Int32.ofNat mc)), .val (.ref b1), .val (.ref b8), .val (.int (Int32.ofNat q)), .val (.int (Int32.ofNat n)), s6] [(.int (Int32.ofNat (own_pos rk n q))), (.ref b8)])) (fun t9 k9 => st17 t9 k9) ?_
              refine own_st (T' := T17) (g' := (mkF m 98 #[.val (.ref a1), .val (.int (Int32.ofNat mc)), .val (.ref b1), .val (.ref b8), .val (.int (Int32.ofNat q)), .val (.int (Int32.ofNat n)), s6] [(.int (Int32.ofNat q)), (.int (Int32.ofNat (own_pos rk n q))), (.ref b8)])) (fun t9 k9 => XS.iload X17.here hx rfl (hb hby d1_96) rfl k9) ?_
              obtain ⟨clu20, Aru20, qu20, Su20, Nu20, Hu20, Gu20⟩ := (id Vo_19)
              obtain ⟨T21, h21, X21, e21, W21, st21⟩ := stI X17 hx hZ e17 Aru20 (j := (Int32.ofNat (own_pos rk n q))) (inb_of Su20 ⟨s2, own_lt hps (by omega)⟩) (g := (mkF m 98 #[.val (.ref a1), .val (.int (Int32.ofNat mc)), .val (.ref b1), .val (.ref b8), .val (.int (Int32.ofNat q)), .val (.int (Int32.ofNat n)), s6] [(.int (Int32.ofNat q)), (.int (Int32.ofNat (own_pos rk n q))), (.ref b8)])) rfl rfl (hb hby d1_98)
              have Va21 := Arv.set Aru20 qu20 Su20 Nu20 Hu20 Gu20 rfl W21 (own_pos rk n q) s1 (by rw [hlo]; exact hps)
              have V1_22 := V1_18.other W21 ne_a1_b8
              have Va17_23 := Va17.other W21 ne_b1_b8
              have K21 := K17.wr W21 (Or.inr sz_b8)
              have N21 := Fr.snoc X21 N17 g_b8
              have Z21 : n0 ≤ h21.size := by rw [W21.size]; exact Z17
              refine own_st (T' := T21) (g' := (mkF m 99 #[.val (.ref a1), .val (.int (Int32.ofNat mc)), .val (.ref b1), .val (.ref b8), .val (.int (Int32.ofNat q)), .val (.int (Int32.ofNat n)), s6] [])) (fun t9 k9 => st21 t9 k9) ?_
              refine own_st (T' := T21) (g' := (mkF m 102 #[.val (.ref a1), .val (.int (Int32.ofNat mc)), .val (.ref b1), .val (.ref b8), .val (.int ((Int32.ofNat q) + (1 : Int32))), .val (.int (Int32.ofNat n)), s6] [])) (fun t9 k9 => XS.iinc X21.here hx rfl (hb hby d1_99) rfl (l' := #[.val (.ref a1), .val (.int (Int32.ofNat mc)), .val (.ref b1), .val (.ref b8), .val (.int ((Int32.ofNat q) + (1 : Int32))), .val (.int (Int32.ofNat n)), s6]) rfl k9) ?_
              rw [own_one q]
              refine own_st (T' := T21) (g' := (mkF m 77 #[.val (.ref a1), .val (.int (Int32.ofNat mc)), .val (.ref b1), .val (.ref b8), .val (.int (Int32.ofNat (q + 1))), .val (.int (Int32.ofNat n)), s6] [])) (fun t9 k9 => XS.goto X21.here hx rfl (pc0 := 102) (pc' := 77) rfl (hb hby d1_102) (by decide) (by decide) k9) ?_
              exact ih _ _ _ (q + 1) _ _ X21 e21 N21 Z21 K21 V1_22 Va17_23 Va21 (by omega) (hL.set _ _ (by omega) (own_c3_step rk n q)) (by rw [List.length_set]; exact hlo) (fun r hr9 => by
                    rw [own_getD_set (by rw [hlo]; exact hps)]
                    by_cases g : r = q
                    · subst g; rw [if_pos rfl]
                    · rw [if_neg (own_pos_ne (by omega) (by omega) g)]; exact hO r (by omega))
          exact lpC n _ _ _ 0 _ _ X8 e8 N5 Z8 K8 V1_9 Vn_10 Vo (Nat.zero_add n) (hL.congr fun j hj => own_c3_start rk n (mc + 1) j hj) List.length_replicate (fun r hr9 => absurd hr9 (Nat.not_lt_zero r))
        | succ k ih =>
          intro T5 L5 h5 j vs X5 e5 N5 Z5 K5 V1_9 Vn_9 hj hj1 hL
          obtain ⟨q1, q2⟩ := own_nat (i := j) (by omega)
          obtain ⟨r1, r2⟩ := own_nat (i := j - 1) (by omega)
          refine own_st (T' := T5) (g' := (mkF m 47 #[.val (.ref a1), .val (.int (Int32.ofNat mc)), .val (.ref b1), .val (.int (Int32.ofNat j)), .val (.int (Int32.ofNat n)), .val (.int (Int32.ofNat n)), s6] [(.int (Int32.ofNat j))])) (fun t9 k9 => XS.iloadN X5.here hx rfl (hb hby d1_46) rfl k9) ?_
          refine own_st (T' := T5) (g' := (mkF m 48 #[.val (.ref a1), .val (.int (Int32.ofNat mc)), .val (.ref b1), .val (.int (Int32.ofNat j)), .val (.int (Int32.ofNat n)), .val (.int (Int32.ofNat n)), s6] [(.ref b1), (.int (Int32.ofNat j))])) (fun t9 k9 => XS.aloadN X5.here hx rfl (hb hby d1_47) rfl rfl k9) ?_
          obtain ⟨clu24, Aru24, qu24, Su24, Nu24, Hu24, Gu24⟩ := (id Vn_9)
          refine own_st (T' := T5) (g' := (mkF m 49 #[.val (.ref a1), .val (.int (Int32.ofNat mc)), .val (.ref b1), .val (.int (Int32.ofNat j)), .val (.int (Int32.ofNat n)), .val (.int (Int32.ofNat n)), s6] [(.int (Int32.ofNat (mc + 1))), (.int (Int32.ofNat j))])) (fun t9 k9 => X5.arraylength hx (by rw [e5]; exact Aru24.1) (State.isArrayOf_alike hZ.alike Aru24.2.1) (g := (mkF m 48 #[.val (.ref a1), .val (.int (Int32.ofNat mc)), .val (.ref b1), .val (.int (Int32.ofNat j)), .val (.int (Int32.ofNat n)), .val (.int (Int32.ofNat n)), s6] [(.ref b1), (.int (Int32.ofNat j))])) rfl rfl (hb hby d1_48) t9 (by rw [len_of Su24 Nu24]; exact k9)) ?_
          refine own_st (T' := T5) (g' := (mkF m 52 #[.val (.ref a1), .val (.int (Int32.ofNat mc)), .val (.ref b1), .val (.int (Int32.ofNat j)), .val (.int (Int32.ofNat n)), .val (.int (Int32.ofNat n)), s6] [])) (fun t9 k9 => XS.icmpNo X5.here hx rfl (hb hby d1_49) rfl (tlt (own_lt (by omega) (by omega))).2.1 k9) ?_
          refine own_st (T' := T5) (g' := (mkF m 53 #[.val (.ref a1), .val (.int (Int32.ofNat mc)), .val (.ref b1), .val (.int (Int32.ofNat j)), .val (.int (Int32.ofNat n)), .val (.int (Int32.ofNat n)), s6] [(.ref b1)])) (fun t9 k9 => XS.aloadN X5.here hx rfl (hb hby d1_52) rfl rfl k9) ?_
          refine own_st (T' := T5) (g' := (mkF m 54 #[.val (.ref a1), .val (.int (Int32.ofNat mc)), .val (.ref b1), .val (.int (Int32.ofNat j)), .val (.int (Int32.ofNat n)), .val (.int (Int32.ofNat n)), s6] [(.int (Int32.ofNat j)), (.ref b1)])) (fun t9 k9 => XS.iloadN X5.here hx rfl (hb hby d1_53) rfl k9) ?_
          refine own_st (T' := T5) (g' := (mkF m 55 #[.val (.ref a1), .val (.int (Int32.ofNat mc)), .val (.ref b1), .val (.int (Int32.ofNat j)), .val (.int (Int32.ofNat n)), .val (.int (Int32.ofNat n)), s6] [(.int (Int32.ofNat j)), (.ref b1), (.int (Int32.ofNat j)), (.ref b1)])) (fun t9 k9 => own_dup2a X5 hx (hb hby d1_54) rfl rfl k9) ?_
          obtain ⟨clu25, Aru25, qu25, Su25, Nu25, Hu25, Gu25⟩ := (id Vn_9)
          have hinu25 := inb_of Su25 (j := (Int32.ofNat j)) ⟨q2, own_lt (by omega) (by omega)⟩
          refine own_st (T' := T5) (g' := (mkF m 56 #[.val (.ref a1), .val (.int (Int32.ofNat mc)), .val (.ref b1), .val (.int (Int32.ofNat j)), .val (.int (Int32.ofNat n)), .val (.int (Int32.ofNat n)), s6] [(.int (Int32.ofNat (own_c2 rk n j j))), (.int (Int32.ofNat j)), (.ref b1)])) (fun t9 k9 => X5.iaload hx (j := (Int32.ofNat j)) (v := (.int (Int32.ofNat (own_c2 rk n j j)))) (by rw [e5]; exact Aru25.1) (State.isArrayOf_alike hZ.alike Aru25.2.1) Aru25.2.2 hinu25 (Hu25.at hinu25 (by rw [q1]; exact hL.2 j (by omega))) (g := (mkF m 55 #[.val (.ref a1), .val (.int (Int32.ofNat mc)), .val (.ref b1), .val (.int (Int32.ofNat j)), .val (.int (Int32.ofNat n)), .val (.int (Int32.ofNat n)), s6] [(.int (Int32.ofNat j)), (.ref b1), (.int (Int32.ofNat j)), (.ref b1)])) rfl rfl (hb hby d1_55) t9 k9) ?_
          refine own_st (T' := T5) (g' := (mkF m 57 #[.val (.ref a1), .val (.int (Int32.ofNat mc)), .val (.ref b1), .val (.int (Int32.ofNat j)), .val (.int (Int32.ofNat n)), .val (.int (Int32.ofNat n)), s6] [(.ref b1), (.int (Int32.ofNat (own_c2 rk n j j))), (.int (Int32.ofNat j)), (.ref b1)])) (fun t9 k9 => XS.aloadN X5.here hx rfl (hb hby d1_56) rfl rfl k9) ?_
          refine own_st (T' := T5) (g' := (mkF m 58 #[.val (.ref a1), .val (.int (Int32.ofNat mc)), .val (.ref b1), .val (.int (Int32.ofNat j)), .val (.int (Int32.ofNat n)), .val (.int (Int32.ofNat n)), s6] [(.int (Int32.ofNat j)), (.ref b1), (.int (Int32.ofNat (own_c2 rk n j j))), (.int (Int32.ofNat j)), (.ref b1)])) (fun t9 k9 => XS.iloadN X5.here hx rfl (hb hby d1_57) rfl k9) ?_
          refine own_st (T' := T5) (g' := (mkF m 59 #[.val (.ref a1), .val (.int (Int32.ofNat mc)), .val (.ref b1), .val (.int (Int32.ofNat j)), .val (.int (Int32.ofNat n)), .val (.int (Int32.ofNat n)), s6] [(.int (1 : Int32)), (.int (Int32.ofNat j)), (.ref b1), (.int (Int32.ofNat (own_c2 rk n j j))), (.int (Int32.ofNat j)), (.ref b1)])) (fun t9 k9 => XS.iconst X5.here hx rfl (hb hby d1_58) k9) ?_
          refine own_st (T' := T5) (g' := (mkF m 60 #[.val (.ref a1), .val (.int (Int32.ofNat mc)), .val (.ref b1), .val (.int (Int32.ofNat j)), .val (.int (Int32.ofNat n)), .val (.int (Int32.ofNat n)), s6] [(.int ((Int32.ofNat j) - (1 : Int32))), (.ref b1), (.int (Int32.ofNat (own_c2 rk n j j))), (.int (Int32.ofNat j)), (.ref b1)])) (fun t9 k9 => XS.isub X5.here hx rfl (hb hby d1_59) rfl k9) ?_
          rw [own_pred hj1]
          obtain ⟨clu26, Aru26, qu26, Su26, Nu26, Hu26, Gu26⟩ := (id Vn_9)
          have hinu26 := inb_of Su26 (j := (Int32.ofNat (j - 1))) ⟨r2, own_lt (by omega) (by omega)⟩
          refine own_st (T' := T5) (g' := (mkF m 61 #[.val (.ref a1), .val (.int (Int32.ofNat mc)), .val (.ref b1), .val (.int (Int32.ofNat j)), .val (.int (Int32.ofNat n)), .val (.int (Int32.ofNat n)), s6] [(.int (Int32.ofNat (own_c2 rk n j (j - 1)))), (.int (Int32.ofNat (own_c2 rk n j j))), (.int (Int32.ofNat j)), (.ref b1)])) (fun t9 k9 => X5.iaload hx (j := (Int32.ofNat (j - 1))) (v := (.int (Int32.ofNat (own_c2 rk n j (j - 1))))) (by rw [e5]; exact Aru26.1) (State.isArrayOf_alike hZ.alike Aru26.2.1) Aru26.2.2 hinu26 (Hu26.at hinu26 (by rw [r1]; exact hL.2 _ (by omega))) (g := (mkF m 60 #[.val (.ref a1), .val (.int (Int32.ofNat mc)), .val (.ref b1), .val (.int (Int32.ofNat j)), .val (.int (Int32.ofNat n)), .val (.int (Int32.ofNat n)), s6] [(.int (Int32.ofNat (j - 1))), (.ref b1), (.int (Int32.ofNat (own_c2 rk n j j))), (.int (Int32.ofNat j)), (.ref b1)])) rfl rfl (hb hby d1_60) t9 k9) ?_
          refine own_st (T' := T5) (g' := (mkF m 62 #[.val (.ref a1), .val (.int (Int32.ofNat mc)), .val (.ref b1), .val (.int (Int32.ofNat j)), .val (.int (Int32.ofNat n)), .val (.int (Int32.ofNat n)), s6] [(.int ((Int32.ofNat (own_c2 rk n j j)) + (Int32.ofNat (own_c2 rk n j (j - 1))))), (.int (Int32.ofNat j)), (.ref b1)])) (fun t9 k9 => XS.iadd X5.here hx rfl (hb hby d1_61) rfl k9) ?_
          rw [own_add]
          obtain ⟨clu27, Aru27, qu27, Su27, Nu27, Hu27, Gu27⟩ := (id Vn_9)
          obtain ⟨T28, h28, X28, e28, W28, st28⟩ := stI X5 hx hZ e5 Aru27 (j := (Int32.ofNat j)) (inb_of Su27 ⟨q2, own_lt (by omega) (by omega)⟩) (g := (mkF m 62 #[.val (.ref a1), .val (.int (Int32.ofNat mc)), .val (.ref b1), .val (.int (Int32.ofNat j)), .val (.int (Int32.ofNat n)), .val (.int (Int32.ofNat n)), s6] [(.int (Int32.ofNat (own_c2 rk n j j + own_c2 rk n j (j - 1)))), (.int (Int32.ofNat j)), (.ref b1)])) rfl rfl (hb hby d1_62)
          have Va28 := Arv.set Aru27 qu27 Su27 Nu27 Hu27 Gu27 rfl W28 j q1 (by rw [hL.1]; omega)
          have V1_29 := V1_9.other W28 ne_a1_b1
          have K28 := K5.wr W28 (Or.inr sz_b1)
          have N28 := Fr.snoc X28 N5 g_b1
          have Z28 : n0 ≤ h28.size := by rw [W28.size]; exact Z5
          refine own_st (T' := T28) (g' := (mkF m 63 #[.val (.ref a1), .val (.int (Int32.ofNat mc)), .val (.ref b1), .val (.int (Int32.ofNat j)), .val (.int (Int32.ofNat n)), .val (.int (Int32.ofNat n)), s6] [])) (fun t9 k9 => st28 t9 k9) ?_
          refine own_st (T' := T28) (g' := (mkF m 66 #[.val (.ref a1), .val (.int (Int32.ofNat mc)), .val (.ref b1), .val (.int ((Int32.ofNat j) + (1 : Int32))), .val (.int (Int32.ofNat n)), .val (.int (Int32.ofNat n)), s6] [])) (fun t9 k9 => XS.iinc X28.here hx rfl (hb hby d1_63) rfl (l' := #[.val (.ref a1), .val (.int (Int32.ofNat mc)), .val (.ref b1), .val (.int ((Int32.ofNat j) + (1 : Int32))), .val (.int (Int32.ofNat n)), .val (.int (Int32.ofNat n)), s6]) rfl k9) ?_
          rw [own_one j]
          refine own_st (T' := T28) (g' := (mkF m 46 #[.val (.ref a1), .val (.int (Int32.ofNat mc)), .val (.ref b1), .val (.int (Int32.ofNat (j + 1))), .val (.int (Int32.ofNat n)), .val (.int (Int32.ofNat n)), s6] [])) (fun t9 k9 => XS.goto X28.here hx rfl (pc0 := 66) (pc' := 46) rfl (hb hby d1_66) (by decide) (by decide) k9) ?_
          exact ih _ _ _ (j + 1) _ X28 e28 N28 Z28 K28 V1_29 Va28 (by omega) (by omega) (hL.set _ _ (by omega) fun i => own_c2_step rk n j i hj1)
      exact lpB mc _ _ _ 1 _ X4 e4 N4 Z4 K4 V1_9 Vn_9 (by omega) (Nat.le_refl 1) (hL.congr fun j _ => own_c2_start rk n j)
    | succ k ih =>
      intro T4 L4 h4 i s6 vs X4 e4 N4 Z4 K4 V1_9 Vn_9 hi ho hL
      obtain ⟨q1, q2⟩ := own_nat (i := i) (by omega)
      have hri := hb8 i (by omega)
      obtain ⟨r1, r2⟩ := own_nat (i := rk i + 1) (by omega)
      refine own_st (T' := T4) (g' := (mkF m 17 #[.val (.ref a1), .val (.int (Int32.ofNat mc)), .val (.ref b1), .val (.ref a1), .val (.int (Int32.ofNat n)), .val (.int (Int32.ofNat i)), s6] [(.int (Int32.ofNat i))])) (fun t9 k9 => XS.iload X4.here hx rfl (hb hby d1_15) rfl k9) ?_
      refine own_st (T' := T4) (g' := (mkF m 19 #[.val (.ref a1), .val (.int (Int32.ofNat mc)), .val (.ref b1), .val (.ref a1), .val (.int (Int32.ofNat n)), .val (.int (Int32.ofNat i)), s6] [(.int (Int32.ofNat n)), (.int (Int32.ofNat i))])) (fun t9 k9 => XS.iload X4.here hx rfl (hb hby d1_17) rfl k9) ?_
      refine own_st (T' := T4) (g' := (mkF m 22 #[.val (.ref a1), .val (.int (Int32.ofNat mc)), .val (.ref b1), .val (.ref a1), .val (.int (Int32.ofNat n)), .val (.int (Int32.ofNat i)), s6] [])) (fun t9 k9 => XS.icmpNo X4.here hx rfl (hb hby d1_19) rfl (tlt (own_lt (by omega) (by omega))).2.1 k9) ?_
      refine own_st (T' := T4) (g' := (mkF m 23 #[.val (.ref a1), .val (.int (Int32.ofNat mc)), .val (.ref b1), .val (.ref a1), .val (.int (Int32.ofNat n)), .val (.int (Int32.ofNat i)), s6] [(.ref a1)])) (fun t9 k9 => XS.aloadN X4.here hx rfl (hb hby d1_22) rfl rfl k9) ?_
      refine own_st (T' := T4) (g' := (mkF m 25 #[.val (.ref a1), .val (.int (Int32.ofNat mc)), .val (.ref b1), .val (.ref a1), .val (.int (Int32.ofNat n)), .val (.int (Int32.ofNat i)), s6] [(.int (Int32.ofNat i)), (.ref a1)])) (fun t9 k9 => XS.iload X4.here hx rfl (hb hby d1_23) rfl k9) ?_
      obtain ⟨clu30, Aru30, qu30, Su30, Nu30, Hu30, Gu30⟩ := (id V1_9)
      have hinu30 := inb_of Su30 (j := (Int32.ofNat i)) ⟨q2, own_lt (by omega) (by omega)⟩
      refine own_st (T' := T4) (g' := (mkF m 26 #[.val (.ref a1), .val (.int (Int32.ofNat mc)), .val (.ref b1), .val (.ref a1), .val (.int (Int32.ofNat n)), .val (.int (Int32.ofNat i)), s6] [(.int (Int32.ofNat (rk i)))])) (fun t9 k9 => X4.iaload hx (j := (Int32.ofNat i)) (v := (.int (Int32.ofNat (rk i)))) (by rw [e4]; exact Aru30.1) (State.isArrayOf_alike hZ.alike Aru30.2.1) Aru30.2.2 hinu30 (Hu30.at hinu30 (by rw [q1]; exact hr.2 i (by omega))) (g := (mkF m 25 #[.val (.ref a1), .val (.int (Int32.ofNat mc)), .val (.ref b1), .val (.ref a1), .val (.int (Int32.ofNat n)), .val (.int (Int32.ofNat i)), s6] [(.int (Int32.ofNat i)), (.ref a1)])) rfl rfl (hb hby d1_25) t9 k9) ?_
      refine own_st (T' := T4) (g' := (mkF m 28 #[.val (.ref a1), .val (.int (Int32.ofNat mc)), .val (.ref b1), .val (.ref a1), .val (.int (Int32.ofNat n)), .val (.int (Int32.ofNat i)), .val (.int (Int32.ofNat (rk i)))] [])) (fun t9 k9 => XS.istore X4.here hx rfl (hb hby d1_26) rfl (l' := #[.val (.ref a1), .val (.int (Int32.ofNat mc)), .val (.ref b1), .val (.ref a1), .val (.int (Int32.ofNat n)), .val (.int (Int32.ofNat i)), .val (.int (Int32.ofNat (rk i)))]) (own_os ho) k9) ?_
      refine own_st (T' := T4) (g' := (mkF m 29 #[.val (.ref a1), .val (.int (Int32.ofNat mc)), .val (.ref b1), .val (.ref a1), .val (.int (Int32.ofNat n)), .val (.int (Int32.ofNat i)), .val (.int (Int32.ofNat (rk i)))] [(.ref b1)])) (fun t9 k9 => XS.aloadN X4.here hx rfl (hb hby d1_28) rfl rfl k9) ?_
      refine own_st (T' := T4) (g' := (mkF m 31 #[.val (.ref a1), .val (.int (Int32.ofNat mc)), .val (.ref b1), .val (.ref a1), .val (.int (Int32.ofNat n)), .val (.int (Int32.ofNat i)), .val (.int (Int32.ofNat (rk i)))] [(.int (Int32.ofNat (rk i))), (.ref b1)])) (fun t9 k9 => XS.iload X4.here hx rfl (hb hby d1_29) rfl k9) ?_
      refine own_st (T' := T4) (g' := (mkF m 32 #[.val (.ref a1), .val (.int (Int32.ofNat mc)), .val (.ref b1), .val (.ref a1), .val (.int (Int32.ofNat n)), .val (.int (Int32.ofNat i)), .val (.int (Int32.ofNat (rk i)))] [(.int (1 : Int32)), (.int (Int32.ofNat (rk i))), (.ref b1)])) (fun t9 k9 => XS.iconst X4.here hx rfl (hb hby d1_31) k9) ?_
      refine own_st (T' := T4) (g' := (mkF m 33 #[.val (.ref a1), .val (.int (Int32.ofNat mc)), .val (.ref b1), .val (.ref a1), .val (.int (Int32.ofNat n)), .val (.int (Int32.ofNat i)), .val (.int (Int32.ofNat (rk i)))] [(.int ((Int32.ofNat (rk i)) + (1 : Int32))), (.ref b1)])) (fun t9 k9 => XS.iadd X4.here hx rfl (hb hby d1_32) rfl k9) ?_
      rw [own_one (rk i)]
      refine own_st (T' := T4) (g' := (mkF m 34 #[.val (.ref a1), .val (.int (Int32.ofNat mc)), .val (.ref b1), .val (.ref a1), .val (.int (Int32.ofNat n)), .val (.int (Int32.ofNat i)), .val (.int (Int32.ofNat (rk i)))] [(.int (Int32.ofNat (rk i + 1))), (.ref b1), (.int (Int32.ofNat (rk i + 1))), (.ref b1)])) (fun t9 k9 => own_dup2a X4 hx (hb hby d1_33) rfl rfl k9) ?_
      obtain ⟨clu31, Aru31, qu31, Su31, Nu31, Hu31, Gu31⟩ := (id Vn_9)
      have hinu31 := inb_of Su31 (j := (Int32.ofNat (rk i + 1))) ⟨r2, own_lt (by omega) (by omega)⟩
      refine own_st (T' := T4) (g' := (mkF m 35 #[.val (.ref a1), .val (.int (Int32.ofNat mc)), .val (.ref b1), .val (.ref a1), .val (.int (Int32.ofNat n)), .val (.int (Int32.ofNat i)), .val (.int (Int32.ofNat (rk i)))] [(.int (Int32.ofNat (own_c1 rk i (rk i + 1)))), (.int (Int32.ofNat (rk i + 1))), (.ref b1)])) (fun t9 k9 => X4.iaload hx (j := (Int32.ofNat (rk i + 1))) (v := (.int (Int32.ofNat (own_c1 rk i (rk i + 1))))) (by rw [e4]; exact Aru31.1) (State.isArrayOf_alike hZ.alike Aru31.2.1) Aru31.2.2 hinu31 (Hu31.at hinu31 (by rw [r1]; exact hL.2 _ (by omega))) (g := (mkF m 34 #[.val (.ref a1), .val (.int (Int32.ofNat mc)), .val (.ref b1), .val (.ref a1), .val (.int (Int32.ofNat n)), .val (.int (Int32.ofNat i)), .val (.int (Int32.ofNat (rk i)))] [(.int (Int32.ofNat (rk i + 1))), (.ref b1), (.int (Int32.ofNat (rk i + 1))), (.ref b1)])) rfl rfl (hb hby d1_34) t9 k9) ?_
      refine own_st (T' := T4) (g' := (mkF m 36 #[.val (.ref a1), .val (.int (Int32.ofNat mc)), .val (.ref b1), .val (.ref a1), .val (.int (Int32.ofNat n)), .val (.int (Int32.ofNat i)), .val (.int (Int32.ofNat (rk i)))] [(.int (1 : Int32)), (.int (Int32.ofNat (own_c1 rk i (rk i + 1)))), (.int (Int32.ofNat (rk i + 1))), (.ref b1)])) (fun t9 k9 => XS.iconst X4.here hx rfl (hb hby d1_35) k9) ?_
      refine own_st (T' := T4) (g' := (mkF m 37 #[.val (.ref a1), .val (.int (Int32.ofNat mc)), .val (.ref b1), .val (.ref a1), .val (.int (Int32.ofNat n)), .val (.int (Int32.ofNat i)), .val (.int (Int32.ofNat (rk i)))] [(.int ((Int32.ofNat (own_c1 rk i (rk i + 1))) + (1 : Int32))), (.int (Int32.ofNat (rk i + 1))), (.ref b1)])) (fun t9 k9 => XS.iadd X4.here hx rfl (hb hby d1_36) rfl k9) ?_
      rw [own_one (own_c1 rk i (rk i + 1))]
      obtain ⟨clu32, Aru32, qu32, Su32, Nu32, Hu32, Gu32⟩ := (id Vn_9)
      obtain ⟨T33, h33, X33, e33, W33, st33⟩ := stI X4 hx hZ e4 Aru32 (j := (Int32.ofNat (rk i + 1))) (inb_of Su32 ⟨r2, own_lt (by omega) (by omega)⟩) (g := (mkF m 37 #[.val (.ref a1), .val (.int (Int32.ofNat mc)), .val (.ref b1), .val (.ref a1), .val (.int (Int32.ofNat n)), .val (.int (Int32.ofNat i)), .val (.int (Int32.ofNat (rk i)))] [(.int (Int32.ofNat (own_c1 rk i (rk i + 1) + 1))), (.int (Int32.ofNat (rk i + 1))), (.ref b1)])) rfl rfl (hb hby d1_37)
      have Va33 := Arv.set Aru32 qu32 Su32 Nu32 Hu32 Gu32 rfl W33 (rk i + 1) r1 (by rw [hL.1]; omega)
      have V1_34 := V1_9.other W33 ne_a1_b1
      have K33 := K4.wr W33 (Or.inr sz_b1)
      have N33 := Fr.snoc X33 N4 g_b1
      have Z33 : n0 ≤ h33.size := by rw [W33.size]; exact Z4
      refine own_st (T' := T33) (g' := (mkF m 38 #[.val (.ref a1), .val (.int (Int32.ofNat mc)), .val (.ref b1), .val (.ref a1), .val (.int (Int32.ofNat n)), .val (.int (Int32.ofNat i)), .val (.int (Int32.ofNat (rk i)))] [])) (fun t9 k9 => st33 t9 k9) ?_
      refine own_st (T' := T33) (g' := (mkF m 41 #[.val (.ref a1), .val (.int (Int32.ofNat mc)), .val (.ref b1), .val (.ref a1), .val (.int (Int32.ofNat n)), .val (.int ((Int32.ofNat i) + (1 : Int32))), .val (.int (Int32.ofNat (rk i)))] [])) (fun t9 k9 => XS.iinc X33.here hx rfl (hb hby d1_38) rfl (l' := #[.val (.ref a1), .val (.int (Int32.ofNat mc)), .val (.ref b1), .val (.ref a1), .val (.int (Int32.ofNat n)), .val (.int ((Int32.ofNat i) + (1 : Int32))), .val (.int (Int32.ofNat (rk i)))]) rfl k9) ?_
      rw [own_one i]
      refine own_st (T' := T33) (g' := (mkF m 15 #[.val (.ref a1), .val (.int (Int32.ofNat mc)), .val (.ref b1), .val (.ref a1), .val (.int (Int32.ofNat n)), .val (.int (Int32.ofNat (i + 1))), .val (.int (Int32.ofNat (rk i)))] [])) (fun t9 k9 => XS.goto X33.here hx rfl (pc0 := 41) (pc' := 15) rfl (hb hby d1_41) (by decide) (by decide) k9) ?_
      exact ih _ _ _ (i + 1) _ _ X33 e33 N33 Z33 K33 V1_34 Va33 (by omega) (One.val rfl) (hL.set _ _ (by omega) (own_c1_step rk i))
  exact lpA n _ _ _ 0 _ _ X1 e1 N0 Z1 K1 V1_2 Vn (Nat.zero_add n) One.u (own_L.rep (mc + 1))
theorem d3_0 : decode method_4_code 0 = .ok (.iload_n 2, 1) := by decide +kernel
theorem d3_1 : decode method_4_code 1 = .ok (.iload_n 1, 1) := by decide +kernel
theorem d3_2 : decode method_4_code 2 = .ok (.if_icmp .ge 14, 3) := by decide +kernel
theorem d3_5 : decode method_4_code 5 = .ok (.aload_n 0, 1) := by decide +kernel
theorem d3_6 : decode method_4_code 6 = .ok (.iload_n 2, 1) := by decide +kernel
theorem d3_7 : decode method_4_code 7 = .ok (.iaload, 1) := by decide +kernel
theorem d3_8 : decode method_4_code 8 = .ok (.iload_n 3, 1) := by decide +kernel
theorem d3_9 : decode method_4_code 9 = .ok (.if_icmp .ge 7, 3) := by decide +kernel
theorem d3_12 : decode method_4_code 12 = .ok (.iconst 1, 1) := by decide +kernel
theorem d3_13 : decode method_4_code 13 = .ok (.goto 4, 3) := by decide +kernel
theorem d3_16 : decode method_4_code 16 = .ok (.iconst 0, 1) := by decide +kernel
theorem d3_17 : decode method_4_code 17 = .ok (.ireturn, 1) := by decide +kernel
theorem pn_3 : plainFor (⟨"com/example/shelfwright/shelfwright/checker/OrdersAscendingPinLaw", "lt", "([IIII)I"⟩ : MethodName) = true := plainFor_of_name (by first | (simp [plainName, overriddenIn]; done) | decide +kernel)
set_option maxRecDepth 65536 in
set_option maxHeartbeats 40000000 in
theorem rm3 (l : Launch) (Z : State) (a0 : Array Value) (hw : ∀ d ∈ tables_1, d.before a0 Z = true) (a1 : Addr) (kk1 : ClassId) (vr : List Value) (rk : Nat → Nat) (n q k : Nat) (h0 : Heap) (n0 : Nat) (Z0 : n0 ≤ h0.size) (V1 : Arv Z h0 a1 kk1 .int (4 : Int32) vr (.int (0 : Int32))) (hr : own_L vr 4 rk) (hb9 : ∀ i, i < 4 → rk i ≤ 9) (hq : q < 4) (hn : n ≤ 9) (hk : k ≤ 9) :
    own_Met l Z (⟨"com/example/shelfwright/shelfwright/checker/OrdersAscendingPinLaw", "lt", "([IIII)I"⟩ : MethodName) method_4_code 4 (some .int) ({ frames := 0, cells := 0, slots := 0, locals := 0 } : Room) #[(.ref a1), (.int (Int32.ofNat n)), (.int (Int32.ofNat q)), (.int (Int32.ofNat k))] h0 (fun v h L => v = some (.int (Int32.ofNat (own_lt01 rk n q k))) ∧ Fr n0 L ∧ h = h0) := by
  refine own_body pn_3 ?_
  intro p e s m below meth c T0 hZ hx hby hml hown hnm hret hlk X0 e0 F hF
  have N0 := Fr.nil n0
  have K0 := Keep.refl h0 []
  refine own_cast (g' := (mkF m 0 #[.val (.ref a1), .val (.int (Int32.ofNat n)), .val (.int (Int32.ofNat q)), .val (.int (Int32.ofNat k))] [])) (by first | rfl | simp [entryFrame, mkF, argsToLocals, Value.category]) ?_
  obtain ⟨q1, q2⟩ := own_nat (i := q) (by omega)
  have hq9 := hb9 q hq
  refine own_st (T' := T0) (g' := (mkF m 1 #[.val (.ref a1), .val (.int (Int32.ofNat n)), .val (.int (Int32.ofNat q)), .val (.int (Int32.ofNat k))] [(.int (Int32.ofNat q))])) (fun t9 k9 => XS.iloadN X0.here hx rfl (hb hby d3_0) rfl k9) ?_
  refine own_st (T' := T0) (g' := (mkF m 2 #[.val (.ref a1), .val (.int (Int32.ofNat n)), .val (.int (Int32.ofNat q)), .val (.int (Int32.ofNat k))] [(.int (Int32.ofNat n)), (.int (Int32.ofNat q))])) (fun t9 k9 => XS.iloadN X0.here hx rfl (hb hby d3_1) rfl k9) ?_
  by_cases h1 : (Int32.ofNat q) < (Int32.ofNat n)
  · refine own_st (T' := T0) (g' := (mkF m 5 #[.val (.ref a1), .val (.int (Int32.ofNat n)), .val (.int (Int32.ofNat q)), .val (.int (Int32.ofNat k))] [])) (fun t9 k9 => XS.icmpNo X0.here hx rfl (hb hby d3_2) rfl (tlt h1).2.1 k9) ?_
    refine own_st (T' := T0) (g' := (mkF m 6 #[.val (.ref a1), .val (.int (Int32.ofNat n)), .val (.int (Int32.ofNat q)), .val (.int (Int32.ofNat k))] [(.ref a1)])) (fun t9 k9 => XS.aloadN X0.here hx rfl (hb hby d3_5) rfl rfl k9) ?_
    refine own_st (T' := T0) (g' := (mkF m 7 #[.val (.ref a1), .val (.int (Int32.ofNat n)), .val (.int (Int32.ofNat q)), .val (.int (Int32.ofNat k))] [(.int (Int32.ofNat q)), (.ref a1)])) (fun t9 k9 => XS.iloadN X0.here hx rfl (hb hby d3_6) rfl k9) ?_
    obtain ⟨clu1, Aru1, qu1, Su1, Nu1, Hu1, Gu1⟩ := (id V1)
    have hinu1 := inb_of Su1 (j := (Int32.ofNat q)) ⟨q2, own_lt (n := 4) hq (by omega)⟩
    refine own_st (T' := T0) (g' := (mkF m 8 #[.val (.ref a1), .val (.int (Int32.ofNat n)), .val (.int (Int32.ofNat q)), .val (.int (Int32.ofNat k))] [(.int (Int32.ofNat (rk q)))])) (fun t9 k9 => X0.iaload hx (j := (Int32.ofNat q)) (v := (.int (Int32.ofNat (rk q)))) (by rw [e0]; exact Aru1.1) (State.isArrayOf_alike hZ.alike Aru1.2.1) Aru1.2.2 hinu1 (Hu1.at hinu1 (by rw [q1]; exact hr.2 q hq)) (g := (mkF m 7 #[.val (.ref a1), .val (.int (Int32.ofNat n)), .val (.int (Int32.ofNat q)), .val (.int (Int32.ofNat k))] [(.int (Int32.ofNat q)), (.ref a1)])) rfl rfl (hb hby d3_7) t9 k9) ?_
    refine own_st (T' := T0) (g' := (mkF m 9 #[.val (.ref a1), .val (.int (Int32.ofNat n)), .val (.int (Int32.ofNat q)), .val (.int (Int32.ofNat k))] [(.int (Int32.ofNat k)), (.int (Int32.ofNat (rk q)))])) (fun t9 k9 => XS.iloadN X0.here hx rfl (hb hby d3_8) rfl k9) ?_
    by_cases h2 : (Int32.ofNat (rk q)) < (Int32.ofNat k)
    · refine own_st (T' := T0) (g' := (mkF m 12 #[.val (.ref a1), .val (.int (Int32.ofNat n)), .val (.int (Int32.ofNat q)), .val (.int (Int32.ofNat k))] [])) (fun t9 k9 => XS.icmpNo X0.here hx rfl (hb hby d3_9) rfl (tlt h2).2.1 k9) ?_
      refine own_st (T' := T0) (g' := (mkF m 13 #[.val (.ref a1), .val (.int (Int32.ofNat n)), .val (.int (Int32.ofNat q)), .val (.int (Int32.ofNat k))] [(.int (1 : Int32))])) (fun t9 k9 => XS.iconst X0.here hx rfl (hb hby d3_12) k9) ?_
      refine own_st (T' := T0) (g' := (mkF m 17 #[.val (.ref a1), .val (.int (Int32.ofNat n)), .val (.int (Int32.ofNat q)), .val (.int (Int32.ofNat k))] [(.int (1 : Int32))])) (fun t9 k9 => XS.goto X0.here hx rfl (pc0 := 13) (pc' := 17) rfl (hb hby d3_13) (by decide) (by decide) k9) ?_
      have e1 : q < n := Nat.lt_of_not_le fun g => own_nlt g (by omega) h1
      have e2 : rk q < k := Nat.lt_of_not_le fun g => own_nlt g (by omega) h2
      refine own_ret (v := some (.int (1 : Int32))) hF X0 (own_some hret) hlk (fun fs hr => retI X0 hx hret (hb hby d3_17) hr) ?_ (by decide) (by decide)
      try rw [e0]
      exact ⟨by rw [own_lt01, if_pos ⟨e1, e2⟩]; rfl, N0, rfl⟩
    · refine own_st (T' := T0) (g' := (mkF m 16 #[.val (.ref a1), .val (.int (Int32.ofNat n)), .val (.int (Int32.ofNat q)), .val (.int (Int32.ofNat k))] [])) (fun t9 k9 => XS.icmpYes X0.here hx rfl (pc0 := 9) (pc' := 16) rfl (hb hby d3_9) rfl (flt h2).2.1 (by decide) (by decide) k9) ?_
      refine own_st (T' := T0) (g' := (mkF m 17 #[.val (.ref a1), .val (.int (Int32.ofNat n)), .val (.int (Int32.ofNat q)), .val (.int (Int32.ofNat k))] [(.int (0 : Int32))])) (fun t9 k9 => XS.iconst X0.here hx rfl (hb hby d3_16) k9) ?_
      refine own_ret (v := some (.int (0 : Int32))) hF X0 (own_some hret) hlk (fun fs hr => retI X0 hx hret (hb hby d3_17) hr) ?_ (by decide) (by decide)
      try rw [e0]
      exact ⟨by rw [own_lt01, if_neg (fun g => h2 (own_lt g.2 (by omega)))]; rfl, N0, rfl⟩
  · refine own_st (T' := T0) (g' := (mkF m 16 #[.val (.ref a1), .val (.int (Int32.ofNat n)), .val (.int (Int32.ofNat q)), .val (.int (Int32.ofNat k))] [])) (fun t9 k9 => XS.icmpYes X0.here hx rfl (pc0 := 2) (pc' := 16) rfl (hb hby d3_2) rfl (flt h1).2.1 (by decide) (by decide) k9) ?_
    refine own_st (T' := T0) (g' := (mkF m 17 #[.val (.ref a1), .val (.int (Int32.ofNat n)), .val (.int (Int32.ofNat q)), .val (.int (Int32.ofNat k))] [(.int (0 : Int32))])) (fun t9 k9 => XS.iconst X0.here hx rfl (hb hby d3_16) k9) ?_
    refine own_ret (v := some (.int (0 : Int32))) hF X0 (own_some hret) hlk (fun fs hr => retI X0 hx hret (hb hby d3_17) hr) ?_ (by decide) (by decide)
    try rw [e0]
    exact ⟨by rw [own_lt01, if_neg (fun g => h1 (own_lt g.1 (by omega)))]; rfl, N0, rfl⟩
theorem d4_0 : decode method_5_code 0 = .ok (.iload_n 2, 1) := by decide +kernel
theorem d4_1 : decode method_5_code 1 = .ok (.iload_n 1, 1) := by decide +kernel
theorem d4_2 : decode method_5_code 2 = .ok (.if_icmp .ge 14, 3) := by decide +kernel
theorem d4_5 : decode method_5_code 5 = .ok (.aload_n 0, 1) := by decide +kernel
theorem d4_6 : decode method_5_code 6 = .ok (.iload_n 2, 1) := by decide +kernel
theorem d4_7 : decode method_5_code 7 = .ok (.iaload, 1) := by decide +kernel
theorem d4_8 : decode method_5_code 8 = .ok (.iload_n 3, 1) := by decide +kernel
theorem d4_9 : decode method_5_code 9 = .ok (.if_icmp .ne 7, 3) := by decide +kernel
theorem d4_12 : decode method_5_code 12 = .ok (.iconst 1, 1) := by decide +kernel
theorem d4_13 : decode method_5_code 13 = .ok (.goto 4, 3) := by decide +kernel
theorem d4_16 : decode method_5_code 16 = .ok (.iconst 0, 1) := by decide +kernel
theorem d4_17 : decode method_5_code 17 = .ok (.ireturn, 1) := by decide +kernel
theorem pn_4 : plainFor (⟨"com/example/shelfwright/shelfwright/checker/OrdersAscendingPinLaw", "eqBefore", "([IIII)I"⟩ : MethodName) = true := plainFor_of_name (by first | (simp [plainName, overriddenIn]; done) | decide +kernel)
set_option maxRecDepth 65536 in
set_option maxHeartbeats 40000000 in
theorem rm4 (l : Launch) (Z : State) (a0 : Array Value) (hw : ∀ d ∈ tables_1, d.before a0 Z = true) (a1 : Addr) (kk1 : ClassId) (vr : List Value) (rk : Nat → Nat) (n q k : Nat) (h0 : Heap) (n0 : Nat) (Z0 : n0 ≤ h0.size) (V1 : Arv Z h0 a1 kk1 .int (4 : Int32) vr (.int (0 : Int32))) (hr : own_L vr 4 rk) (hb9 : ∀ i, i < 4 → rk i ≤ 9) (hq : q < 4) (hn : n ≤ 9) (hk : k ≤ 9) :
    own_Met l Z (⟨"com/example/shelfwright/shelfwright/checker/OrdersAscendingPinLaw", "eqBefore", "([IIII)I"⟩ : MethodName) method_5_code 4 (some .int) ({ frames := 0, cells := 0, slots := 0, locals := 0 } : Room) #[(.ref a1), (.int (Int32.ofNat n)), (.int (Int32.ofNat q)), (.int (Int32.ofNat k))] h0 (fun v h L => v = some (.int (Int32.ofNat (own_eq01 rk n q k))) ∧ Fr n0 L ∧ h = h0) := by
  refine own_body pn_4 ?_
  intro p e s m below meth c T0 hZ hx hby hml hown hnm hret hlk X0 e0 F hF
  have N0 := Fr.nil n0
  have K0 := Keep.refl h0 []
  refine own_cast (g' := (mkF m 0 #[.val (.ref a1), .val (.int (Int32.ofNat n)), .val (.int (Int32.ofNat q)), .val (.int (Int32.ofNat k))] [])) (by first | rfl | simp [entryFrame, mkF, argsToLocals, Value.category]) ?_
  obtain ⟨q1, q2⟩ := own_nat (i := q) (by omega)
  have hq9 := hb9 q hq
  refine own_st (T' := T0) (g' := (mkF m 1 #[.val (.ref a1), .val (.int (Int32.ofNat n)), .val (.int (Int32.ofNat q)), .val (.int (Int32.ofNat k))] [(.int (Int32.ofNat q))])) (fun t9 k9 => XS.iloadN X0.here hx rfl (hb hby d4_0) rfl k9) ?_
  refine own_st (T' := T0) (g' := (mkF m 2 #[.val (.ref a1), .val (.int (Int32.ofNat n)), .val (.int (Int32.ofNat q)), .val (.int (Int32.ofNat k))] [(.int (Int32.ofNat n)), (.int (Int32.ofNat q))])) (fun t9 k9 => XS.iloadN X0.here hx rfl (hb hby d4_1) rfl k9) ?_
  by_cases h1 : (Int32.ofNat q) < (Int32.ofNat n)
  · refine own_st (T' := T0) (g' := (mkF m 5 #[.val (.ref a1), .val (.int (Int32.ofNat n)), .val (.int (Int32.ofNat q)), .val (.int (Int32.ofNat k))] [])) (fun t9 k9 => XS.icmpNo X0.here hx rfl (hb hby d4_2) rfl (tlt h1).2.1 k9) ?_
    refine own_st (T' := T0) (g' := (mkF m 6 #[.val (.ref a1), .val (.int (Int32.ofNat n)), .val (.int (Int32.ofNat q)), .val (.int (Int32.ofNat k))] [(.ref a1)])) (fun t9 k9 => XS.aloadN X0.here hx rfl (hb hby d4_5) rfl rfl k9) ?_
    refine own_st (T' := T0) (g' := (mkF m 7 #[.val (.ref a1), .val (.int (Int32.ofNat n)), .val (.int (Int32.ofNat q)), .val (.int (Int32.ofNat k))] [(.int (Int32.ofNat q)), (.ref a1)])) (fun t9 k9 => XS.iloadN X0.here hx rfl (hb hby d4_6) rfl k9) ?_
    obtain ⟨clu1, Aru1, qu1, Su1, Nu1, Hu1, Gu1⟩ := (id V1)
    have hinu1 := inb_of Su1 (j := (Int32.ofNat q)) ⟨q2, own_lt (n := 4) hq (by omega)⟩
    refine own_st (T' := T0) (g' := (mkF m 8 #[.val (.ref a1), .val (.int (Int32.ofNat n)), .val (.int (Int32.ofNat q)), .val (.int (Int32.ofNat k))] [(.int (Int32.ofNat (rk q)))])) (fun t9 k9 => X0.iaload hx (j := (Int32.ofNat q)) (v := (.int (Int32.ofNat (rk q)))) (by rw [e0]; exact Aru1.1) (State.isArrayOf_alike hZ.alike Aru1.2.1) Aru1.2.2 hinu1 (Hu1.at hinu1 (by rw [q1]; exact hr.2 q hq)) (g := (mkF m 7 #[.val (.ref a1), .val (.int (Int32.ofNat n)), .val (.int (Int32.ofNat q)), .val (.int (Int32.ofNat k))] [(.int (Int32.ofNat q)), (.ref a1)])) rfl rfl (hb hby d4_7) t9 k9) ?_
    refine own_st (T' := T0) (g' := (mkF m 9 #[.val (.ref a1), .val (.int (Int32.ofNat n)), .val (.int (Int32.ofNat q)), .val (.int (Int32.ofNat k))] [(.int (Int32.ofNat k)), (.int (Int32.ofNat (rk q)))])) (fun t9 k9 => XS.iloadN X0.here hx rfl (hb hby d4_8) rfl k9) ?_
    by_cases h2 : (Int32.ofNat (rk q)) = (Int32.ofNat k)
    · refine own_st (T' := T0) (g' := (mkF m 12 #[.val (.ref a1), .val (.int (Int32.ofNat n)), .val (.int (Int32.ofNat q)), .val (.int (Int32.ofNat k))] [])) (fun t9 k9 => XS.icmpNo X0.here hx rfl (hb hby d4_9) rfl (teq h2).2 k9) ?_
      refine own_st (T' := T0) (g' := (mkF m 13 #[.val (.ref a1), .val (.int (Int32.ofNat n)), .val (.int (Int32.ofNat q)), .val (.int (Int32.ofNat k))] [(.int (1 : Int32))])) (fun t9 k9 => XS.iconst X0.here hx rfl (hb hby d4_12) k9) ?_
      refine own_st (T' := T0) (g' := (mkF m 17 #[.val (.ref a1), .val (.int (Int32.ofNat n)), .val (.int (Int32.ofNat q)), .val (.int (Int32.ofNat k))] [(.int (1 : Int32))])) (fun t9 k9 => XS.goto X0.here hx rfl (pc0 := 13) (pc' := 17) rfl (hb hby d4_13) (by decide) (by decide) k9) ?_
      have e1 : q < n := Nat.lt_of_not_le fun g => own_nlt g (by omega) h1
      have e2 : rk q = k := own_eq' h2 (by omega) (by omega)
      refine own_ret (v := some (.int (1 : Int32))) hF X0 (own_some hret) hlk (fun fs hr => retI X0 hx hret (hb hby d4_17) hr) ?_ (by decide) (by decide)
      try rw [e0]
      exact ⟨by rw [own_eq01, if_pos ⟨e1, e2⟩]; rfl, N0, rfl⟩
    · refine own_st (T' := T0) (g' := (mkF m 16 #[.val (.ref a1), .val (.int (Int32.ofNat n)), .val (.int (Int32.ofNat q)), .val (.int (Int32.ofNat k))] [])) (fun t9 k9 => XS.icmpYes X0.here hx rfl (pc0 := 9) (pc' := 16) rfl (hb hby d4_9) rfl (feq h2).2 (by decide) (by decide) k9) ?_
      refine own_st (T' := T0) (g' := (mkF m 17 #[.val (.ref a1), .val (.int (Int32.ofNat n)), .val (.int (Int32.ofNat q)), .val (.int (Int32.ofNat k))] [(.int (0 : Int32))])) (fun t9 k9 => XS.iconst X0.here hx rfl (hb hby d4_16) k9) ?_
      refine own_ret (v := some (.int (0 : Int32))) hF X0 (own_some hret) hlk (fun fs hr => retI X0 hx hret (hb hby d4_17) hr) ?_ (by decide) (by decide)
      try rw [e0]
      exact ⟨by rw [own_eq01, if_neg (fun g => h2 (congrArg Int32.ofNat g.2))]; rfl, N0, rfl⟩
  · refine own_st (T' := T0) (g' := (mkF m 16 #[.val (.ref a1), .val (.int (Int32.ofNat n)), .val (.int (Int32.ofNat q)), .val (.int (Int32.ofNat k))] [])) (fun t9 k9 => XS.icmpYes X0.here hx rfl (pc0 := 2) (pc' := 16) rfl (hb hby d4_2) rfl (flt h1).2.1 (by decide) (by decide) k9) ?_
    refine own_st (T' := T0) (g' := (mkF m 17 #[.val (.ref a1), .val (.int (Int32.ofNat n)), .val (.int (Int32.ofNat q)), .val (.int (Int32.ofNat k))] [(.int (0 : Int32))])) (fun t9 k9 => XS.iconst X0.here hx rfl (hb hby d4_16) k9) ?_
    refine own_ret (v := some (.int (0 : Int32))) hF X0 (own_some hret) hlk (fun fs hr => retI X0 hx hret (hb hby d4_17) hr) ?_ (by decide) (by decide)
    try rw [e0]
    exact ⟨by rw [own_eq01, if_neg (fun g => h1 (own_lt g.1 (by omega)))]; rfl, N0, rfl⟩
theorem d2_0 : decode method_3_code 0 = .ok (.aload_n 0, 1) := by decide +kernel
theorem d2_1 : decode method_3_code 1 = .ok (.iload_n 2, 1) := by decide +kernel
theorem d2_2 : decode method_3_code 2 = .ok (.iaload, 1) := by decide +kernel
theorem d2_3 : decode method_3_code 3 = .ok (.istore_n 3, 1) := by decide +kernel
theorem d2_4 : decode method_3_code 4 = .ok (.aload_n 0, 1) := by decide +kernel
theorem d2_5 : decode method_3_code 5 = .ok (.iload_n 1, 1) := by decide +kernel
theorem d2_6 : decode method_3_code 6 = .ok (.iconst 0, 1) := by decide +kernel
theorem d2_7 : decode method_3_code 7 = .ok (.iload_n 3, 1) := by decide +kernel
theorem d2_8 : decode method_3_code 8 = .ok (.invokestatic 20, 3) := by decide +kernel
theorem d2_11 : decode method_3_code 11 = .ok (.aload_n 0, 1) := by decide +kernel
theorem d2_12 : decode method_3_code 12 = .ok (.iload_n 1, 1) := by decide +kernel
theorem d2_13 : decode method_3_code 13 = .ok (.iconst 1, 1) := by decide +kernel
theorem d2_14 : decode method_3_code 14 = .ok (.iload_n 3, 1) := by decide +kernel
theorem d2_15 : decode method_3_code 15 = .ok (.invokestatic 20, 3) := by decide +kernel
theorem d2_18 : decode method_3_code 18 = .ok (.iadd, 1) := by decide +kernel
theorem d2_19 : decode method_3_code 19 = .ok (.aload_n 0, 1) := by decide +kernel
theorem d2_20 : decode method_3_code 20 = .ok (.iload_n 1, 1) := by decide +kernel
theorem d2_21 : decode method_3_code 21 = .ok (.iconst 2, 1) := by decide +kernel
theorem d2_22 : decode method_3_code 22 = .ok (.iload_n 3, 1) := by decide +kernel
theorem d2_23 : decode method_3_code 23 = .ok (.invokestatic 20, 3) := by decide +kernel
theorem d2_26 : decode method_3_code 26 = .ok (.iadd, 1) := by decide +kernel
theorem d2_27 : decode method_3_code 27 = .ok (.aload_n 0, 1) := by decide +kernel
theorem d2_28 : decode method_3_code 28 = .ok (.iload_n 1, 1) := by decide +kernel
theorem d2_29 : decode method_3_code 29 = .ok (.iconst 3, 1) := by decide +kernel
theorem d2_30 : decode method_3_code 30 = .ok (.iload_n 3, 1) := by decide +kernel
theorem d2_31 : decode method_3_code 31 = .ok (.invokestatic 20, 3) := by decide +kernel
theorem d2_34 : decode method_3_code 34 = .ok (.iadd, 1) := by decide +kernel
theorem d2_35 : decode method_3_code 35 = .ok (.aload_n 0, 1) := by decide +kernel
theorem d2_36 : decode method_3_code 36 = .ok (.iload_n 2, 1) := by decide +kernel
theorem d2_37 : decode method_3_code 37 = .ok (.iconst 0, 1) := by decide +kernel
theorem d2_38 : decode method_3_code 38 = .ok (.iload_n 3, 1) := by decide +kernel
theorem d2_39 : decode method_3_code 39 = .ok (.invokestatic 24, 3) := by decide +kernel
theorem d2_42 : decode method_3_code 42 = .ok (.iadd, 1) := by decide +kernel
theorem d2_43 : decode method_3_code 43 = .ok (.aload_n 0, 1) := by decide +kernel
theorem d2_44 : decode method_3_code 44 = .ok (.iload_n 2, 1) := by decide +kernel
theorem d2_45 : decode method_3_code 45 = .ok (.iconst 1, 1) := by decide +kernel
theorem d2_46 : decode method_3_code 46 = .ok (.iload_n 3, 1) := by decide +kernel
theorem d2_47 : decode method_3_code 47 = .ok (.invokestatic 24, 3) := by decide +kernel
theorem d2_50 : decode method_3_code 50 = .ok (.iadd, 1) := by decide +kernel
theorem d2_51 : decode method_3_code 51 = .ok (.aload_n 0, 1) := by decide +kernel
theorem d2_52 : decode method_3_code 52 = .ok (.iload_n 2, 1) := by decide +kernel
theorem d2_53 : decode method_3_code 53 = .ok (.iconst 2, 1) := by decide +kernel
theorem d2_54 : decode method_3_code 54 = .ok (.iload_n 3, 1) := by decide +kernel
theorem d2_55 : decode method_3_code 55 = .ok (.invokestatic 24, 3) := by decide +kernel
theorem d2_58 : decode method_3_code 58 = .ok (.iadd, 1) := by decide +kernel
theorem d2_59 : decode method_3_code 59 = .ok (.ireturn, 1) := by decide +kernel
theorem pn_2 : plainFor (⟨"com/example/shelfwright/shelfwright/checker/OrdersAscendingPinLaw", "pos", "([III)I"⟩ : MethodName) = true := plainFor_of_name (by first | (simp [plainName, overriddenIn]; done) | decide +kernel)
set_option maxRecDepth 65536 in
set_option maxHeartbeats 40000000 in
theorem rm2 (l : Launch) (Z : State) (a0 : Array Value) (hw : ∀ d ∈ tables_1, d.before a0 Z = true) (a1 : Addr) (kk1 : ClassId) (vr : List Value) (rk : Nat → Nat) (n pp : Nat) (h0 : Heap) (n0 : Nat) (Z0 : n0 ≤ h0.size) (V1 : Arv Z h0 a1 kk1 .int (4 : Int32) vr (.int (0 : Int32))) (hr : own_L vr 4 rk) (hb9 : ∀ i, i < 4 → rk i ≤ 9) (hn : n ≤ 4) (hp : pp < 4) :
    own_Met l Z (⟨"com/example/shelfwright/shelfwright/checker/OrdersAscendingPinLaw", "pos", "([III)I"⟩ : MethodName) method_3_code 4 (some .int) ({ frames := 1, cells := 0, slots := 0, locals := 16 } : Room) #[(.ref a1), (.int (Int32.ofNat n)), (.int (Int32.ofNat pp))] h0 (fun v h L => v = some (.int (Int32.ofNat (own_pos rk n pp))) ∧ Fr n0 L ∧ h = h0) := by
  refine own_body pn_2 ?_
  intro p e s m below meth c T0 hZ hx hby hml hown hnm hret hlk X0 e0 F hF
  have N0 := Fr.nil n0
  have K0 := Keep.refl h0 []
  refine own_cast (g' := (mkF m 0 #[.val (.ref a1), .val (.int (Int32.ofNat n)), .val (.int (Int32.ofNat pp)), .unset] [])) (by first | rfl | simp [entryFrame, mkF, argsToLocals, Value.category]) ?_
  obtain ⟨q1, q2⟩ := own_nat (i := pp) (by omega)
  have hp9 := hb9 pp hp
  refine own_st (T' := T0) (g' := (mkF m 1 #[.val (.ref a1), .val (.int (Int32.ofNat n)), .val (.int (Int32.ofNat pp)), .unset] [(.ref a1)])) (fun t9 k9 => XS.aloadN X0.here hx rfl (hb hby d2_0) rfl rfl k9) ?_
  refine own_st (T' := T0) (g' := (mkF m 2 #[.val (.ref a1), .val (.int (Int32.ofNat n)), .val (.int (Int32.ofNat pp)), .unset] [(.int (Int32.ofNat pp)), (.ref a1)])) (fun t9 k9 => XS.iloadN X0.here hx rfl (hb hby d2_1) rfl k9) ?_
  obtain ⟨clu1, Aru1, qu1, Su1, Nu1, Hu1, Gu1⟩ := (id V1)
  have hinu1 := inb_of Su1 (j := (Int32.ofNat pp)) ⟨q2, own_lt (n := 4) hp (by omega)⟩
  refine own_st (T' := T0) (g' := (mkF m 3 #[.val (.ref a1), .val (.int (Int32.ofNat n)), .val (.int (Int32.ofNat pp)), .unset] [(.int (Int32.ofNat (rk pp)))])) (fun t9 k9 => X0.iaload hx (j := (Int32.ofNat pp)) (v := (.int (Int32.ofNat (rk pp)))) (by rw [e0]; exact Aru1.1) (State.isArrayOf_alike hZ.alike Aru1.2.1) Aru1.2.2 hinu1 (Hu1.at hinu1 (by rw [q1]; exact hr.2 pp hp)) (g := (mkF m 2 #[.val (.ref a1), .val (.int (Int32.ofNat n)), .val (.int (Int32.ofNat pp)), .unset] [(.int (Int32.ofNat pp)), (.ref a1)])) rfl rfl (hb hby d2_2) t9 k9) ?_
  refine own_st (T' := T0) (g' := (mkF m 4 #[.val (.ref a1), .val (.int (Int32.ofNat n)), .val (.int (Int32.ofNat pp)), .val (.int (Int32.ofNat (rk pp)))] [])) (fun t9 k9 => XS.istoreN X0.here hx rfl (hb hby d2_3) rfl (l' := #[.val (.ref a1), .val (.int (Int32.ofNat n)), .val (.int (Int32.ofNat pp)), .val (.int (Int32.ofNat (rk pp)))]) rfl k9) ?_
  refine own_st (T' := T0) (g' := (mkF m 5 #[.val (.ref a1), .val (.int (Int32.ofNat n)), .val (.int (Int32.ofNat pp)), .val (.int (Int32.ofNat (rk pp)))] [(.ref a1)])) (fun t9 k9 => XS.aloadN X0.here hx rfl (hb hby d2_4) rfl rfl k9) ?_
  refine own_st (T' := T0) (g' := (mkF m 6 #[.val (.ref a1), .val (.int (Int32.ofNat n)), .val (.int (Int32.ofNat pp)), .val (.int (Int32.ofNat (rk pp)))] [(.int (Int32.ofNat n)), (.ref a1)])) (fun t9 k9 => XS.iloadN X0.here hx rfl (hb hby d2_5) rfl k9) ?_
  refine own_st (T' := T0) (g' := (mkF m 7 #[.val (.ref a1), .val (.int (Int32.ofNat n)), .val (.int (Int32.ofNat pp)), .val (.int (Int32.ofNat (rk pp)))] [(.int (0 : Int32)), (.int (Int32.ofNat n)), (.ref a1)])) (fun t9 k9 => XS.iconst X0.here hx rfl (hb hby d2_6) k9) ?_
  refine own_st (T' := T0) (g' := (mkF m 8 #[.val (.ref a1), .val (.int (Int32.ofNat n)), .val (.int (Int32.ofNat pp)), .val (.int (Int32.ofNat (rk pp)))] [(.int (Int32.ofNat (rk pp))), (.int (0 : Int32)), (.int (Int32.ofNat n)), (.ref a1)])) (fun t9 k9 => XS.iloadN X0.here hx rfl (hb hby d2_7) rfl k9) ?_
  obtain ⟨_, _, ⟨T2, L2, k2, n2⟩, -, X2, ⟨Lc2, hQ2, l2, y2, z2⟩, st2⟩ := Jvm.LawKit.callS X0 hx (y := (⟨"com/example/shelfwright/shelfwright/checker/OrdersAscendingPinLaw", "lt", "([IIII)I"⟩ : MethodName)) hown (mvT hZ (hw _ (List.mem_of_getElem? (i := 10) rfl))) (mvT hZ (hw _ (List.mem_of_getElem? (i := 11) rfl))) (mvT hZ (hw _ (List.mem_of_getElem? (i := 8) rfl))) (mvT hZ (hw _ (List.mem_of_getElem? (i := 12) rfl))) (by decide) (own_back (W := 0) (rm3 l Z a0 hw a1 kk1 vr rk n 0 (rk pp) h0 n0 Z0 V1 hr hb9 (by decide) (by omega) hp9) hZ (hw _ (List.mem_of_getElem? (i := 12) rfl)) (hw _ (List.mem_of_getElem? (i := 8) rfl)) (by decide) (by decide)) (g := (mkF m 8 #[.val (.ref a1), .val (.int (Int32.ofNat n)), .val (.int (Int32.ofNat pp)), .val (.int (Int32.ofNat (rk pp)))] [(.int (Int32.ofNat (rk pp))), (.int (0 : Int32)), (.int (Int32.ofNat n)), (.ref a1)])) rfl (by rw [hml]; rfl) (argsL := [(.ref a1), (.int (Int32.ofNat n)), (.int (0 : Int32)), (.int (Int32.ofNat (rk pp)))]) (rest := []) (lenOf pd_2 rfl) rfl (by show 2 * 0 + _ ≤ _; exact Nat.le_of_eq rfl) (hb hby d2_8) (fun _ _ => ⟨rfl, e0, (Nat.le_of_ble_eq_true rfl), (Nat.le_of_ble_eq_true rfl)⟩)
  dsimp only [Pt.U, Pt.locs, Pt.cells, Pt.slots] at X2 l2 y2 z2 st2 hQ2
  subst l2 y2 z2
  obtain ⟨rfl, Nq2, he2⟩ := hQ2
  have N2 := Fr.app N0 Nq2
  have e2 : T2.heap = h0 := he2
  refine own_st (T' := T2) (g' := (mkF m 11 #[.val (.ref a1), .val (.int (Int32.ofNat n)), .val (.int (Int32.ofNat pp)), .val (.int (Int32.ofNat (rk pp)))] [(.int (Int32.ofNat (own_lt01 rk n 0 (rk pp))))])) (fun t9 k9 => st2 t9 k9) ?_
  refine own_st (T' := T2) (g' := (mkF m 12 #[.val (.ref a1), .val (.int (Int32.ofNat n)), .val (.int (Int32.ofNat pp)), .val (.int (Int32.ofNat (rk pp)))] [(.ref a1), (.int (Int32.ofNat (own_lt01 rk n 0 (rk pp))))])) (fun t9 k9 => XS.aloadN X2.here hx rfl (hb hby d2_11) rfl rfl k9) ?_
  refine own_st (T' := T2) (g' := (mkF m 13 #[.val (.ref a1), .val (.int (Int32.ofNat n)), .val (.int (Int32.ofNat pp)), .val (.int (Int32.ofNat (rk pp)))] [(.int (Int32.ofNat n)), (.ref a1), (.int (Int32.ofNat (own_lt01 rk n 0 (rk pp))))])) (fun t9 k9 => XS.iloadN X2.here hx rfl (hb hby d2_12) rfl k9) ?_
  refine own_st (T' := T2) (g' := (mkF m 14 #[.val (.ref a1), .val (.int (Int32.ofNat n)), .val (.int (Int32.ofNat pp)), .val (.int (Int32.ofNat (rk pp)))] [(.int (1 : Int32)), (.int (Int32.ofNat n)), (.ref a1), (.int (Int32.ofNat (own_lt01 rk n 0 (rk pp))))])) (fun t9 k9 => XS.iconst X2.here hx rfl (hb hby d2_13) k9) ?_
  refine own_st (T' := T2) (g' := (mkF m 15 #[.val (.ref a1), .val (.int (Int32.ofNat n)), .val (.int (Int32.ofNat pp)), .val (.int (Int32.ofNat (rk pp)))] [(.int (Int32.ofNat (rk pp))), (.int (1 : Int32)), (.int (Int32.ofNat n)), (.ref a1), (.int (Int32.ofNat (own_lt01 rk n 0 (rk pp))))])) (fun t9 k9 => XS.iloadN X2.here hx rfl (hb hby d2_14) rfl k9) ?_
  obtain ⟨_, _, ⟨T3, L3, k3, n3⟩, -, X3, ⟨Lc3, hQ3, l3, y3, z3⟩, st3⟩ := Jvm.LawKit.callS X2 hx (y := (⟨"com/example/shelfwright/shelfwright/checker/OrdersAscendingPinLaw", "lt", "([IIII)I"⟩ : MethodName)) hown (mvT hZ (hw _ (List.mem_of_getElem? (i := 10) rfl))) (mvT hZ (hw _ (List.mem_of_getElem? (i := 11) rfl))) (mvT hZ (hw _ (List.mem_of_getElem? (i := 8) rfl))) (mvT hZ (hw _ (List.mem_of_getElem? (i := 12) rfl))) (by decide) (own_back (W := 1) (rm3 l Z a0 hw a1 kk1 vr rk n 1 (rk pp) h0 n0 Z0 V1 hr hb9 (by decide) (by omega) hp9) hZ (hw _ (List.mem_of_getElem? (i := 12) rfl)) (hw _ (List.mem_of_getElem? (i := 8) rfl)) (by decide) (by decide)) (g := (mkF m 15 #[.val (.ref a1), .val (.int (Int32.ofNat n)), .val (.int (Int32.ofNat pp)), .val (.int (Int32.ofNat (rk pp)))] [(.int (Int32.ofNat (rk pp))), (.int (1 : Int32)), (.int (Int32.ofNat n)), (.ref a1), (.int (Int32.ofNat (own_lt01 rk n 0 (rk pp))))])) rfl (by rw [hml]; rfl) (argsL := [(.ref a1), (.int (Int32.ofNat n)), (.int (1 : Int32)), (.int (Int32.ofNat (rk pp)))]) (rest := [(.int (Int32.ofNat (own_lt01 rk n 0 (rk pp))))]) (lenOf pd_2 rfl) rfl (by show 2 * 0 + _ ≤ _; exact Nat.le_of_eq rfl) (hb hby d2_15) (fun _ _ => ⟨rfl, e2, (Nat.le_of_ble_eq_true rfl), (Nat.le_of_ble_eq_true rfl)⟩)
  dsimp only [Pt.U, Pt.locs, Pt.cells, Pt.slots] at X3 l3 y3 z3 st3 hQ3
  subst l3 y3 z3
  obtain ⟨rfl, Nq3, he3⟩ := hQ3
  have N3 := Fr.app N2 Nq3
  have e3 : T3.heap = h0 := he3
  refine own_st (T' := T3) (g' := (mkF m 18 #[.val (.ref a1), .val (.int (Int32.ofNat n)), .val (.int (Int32.ofNat pp)), .val (.int (Int32.ofNat (rk pp)))] [(.int (Int32.ofNat (own_lt01 rk n 1 (rk pp)))), (.int (Int32.ofNat (own_lt01 rk n 0 (rk pp))))])) (fun t9 k9 => st3 t9 k9) ?_
  refine own_st (T' := T3) (g' := (mkF m 19 #[.val (.ref a1), .val (.int (Int32.ofNat n)), .val (.int (Int32.ofNat pp)), .val (.int (Int32.ofNat (rk pp)))] [(.int ((Int32.ofNat (own_lt01 rk n 0 (rk pp))) + (Int32.ofNat (own_lt01 rk n 1 (rk pp)))))])) (fun t9 k9 => XS.iadd X3.here hx rfl (hb hby d2_18) rfl k9) ?_
  rw [own_add]
  refine own_st (T' := T3) (g' := (mkF m 20 #[.val (.ref a1), .val (.int (Int32.ofNat n)), .val (.int (Int32.ofNat pp)), .val (.int (Int32.ofNat (rk pp)))] [(.ref a1), (.int (Int32.ofNat (own_lt01 rk n 0 (rk pp) + own_lt01 rk n 1 (rk pp))))])) (fun t9 k9 => XS.aloadN X3.here hx rfl (hb hby d2_19) rfl rfl k9) ?_
  refine own_st (T' := T3) (g' := (mkF m 21 #[.val (.ref a1), .val (.int (Int32.ofNat n)), .val (.int (Int32.ofNat pp)), .val (.int (Int32.ofNat (rk pp)))] [(.int (Int32.ofNat n)), (.ref a1), (.int (Int32.ofNat (own_lt01 rk n 0 (rk pp) + own_lt01 rk n 1 (rk pp))))])) (fun t9 k9 => XS.iloadN X3.here hx rfl (hb hby d2_20) rfl k9) ?_
  refine own_st (T' := T3) (g' := (mkF m 22 #[.val (.ref a1), .val (.int (Int32.ofNat n)), .val (.int (Int32.ofNat pp)), .val (.int (Int32.ofNat (rk pp)))] [(.int (2 : Int32)), (.int (Int32.ofNat n)), (.ref a1), (.int (Int32.ofNat (own_lt01 rk n 0 (rk pp) + own_lt01 rk n 1 (rk pp))))])) (fun t9 k9 => XS.iconst X3.here hx rfl (hb hby d2_21) k9) ?_
  refine own_st (T' := T3) (g' := (mkF m 23 #[.val (.ref a1), .val (.int (Int32.ofNat n)), .val (.int (Int32.ofNat pp)), .val (.int (Int32.ofNat (rk pp)))] [(.int (Int32.ofNat (rk pp))), (.int (2 : Int32)), (.int (Int32.ofNat n)), (.ref a1), (.int (Int32.ofNat (own_lt01 rk n 0 (rk pp) + own_lt01 rk n 1 (rk pp))))])) (fun t9 k9 => XS.iloadN X3.here hx rfl (hb hby d2_22) rfl k9) ?_
  obtain ⟨_, _, ⟨T4, L4, k4, n4⟩, -, X4, ⟨Lc4, hQ4, l4, y4, z4⟩, st4⟩ := Jvm.LawKit.callS X3 hx (y := (⟨"com/example/shelfwright/shelfwright/checker/OrdersAscendingPinLaw", "lt", "([IIII)I"⟩ : MethodName)) hown (mvT hZ (hw _ (List.mem_of_getElem? (i := 10) rfl))) (mvT hZ (hw _ (List.mem_of_getElem? (i := 11) rfl))) (mvT hZ (hw _ (List.mem_of_getElem? (i := 8) rfl))) (mvT hZ (hw _ (List.mem_of_getElem? (i := 12) rfl))) (by decide) (own_back (W := 1) (rm3 l Z a0 hw a1 kk1 vr rk n 2 (rk pp) h0 n0 Z0 V1 hr hb9 (by decide) (by omega) hp9) hZ (hw _ (List.mem_of_getElem? (i := 12) rfl)) (hw _ (List.mem_of_getElem? (i := 8) rfl)) (by decide) (by decide)) (g := (mkF m 23 #[.val (.ref a1), .val (.int (Int32.ofNat n)), .val (.int (Int32.ofNat pp)), .val (.int (Int32.ofNat (rk pp)))] [(.int (Int32.ofNat (rk pp))), (.int (2 : Int32)), (.int (Int32.ofNat n)), (.ref a1), (.int (Int32.ofNat (own_lt01 rk n 0 (rk pp) + own_lt01 rk n 1 (rk pp))))])) rfl (by rw [hml]; rfl) (argsL := [(.ref a1), (.int (Int32.ofNat n)), (.int (2 : Int32)), (.int (Int32.ofNat (rk pp)))]) (rest := [(.int (Int32.ofNat (own_lt01 rk n 0 (rk pp) + own_lt01 rk n 1 (rk pp))))]) (lenOf pd_2 rfl) rfl (by show 2 * 0 + _ ≤ _; exact Nat.le_of_eq rfl) (hb hby d2_23) (fun _ _ => ⟨rfl, e3, (Nat.le_of_ble_eq_true rfl), (Nat.le_of_ble_eq_true rfl)⟩)
  dsimp only [Pt.U, Pt.locs, Pt.cells, Pt.slots] at X4 l4 y4 z4 st4 hQ4
  subst l4 y4 z4
  obtain ⟨rfl, Nq4, he4⟩ := hQ4
  have N4 := Fr.app N3 Nq4
  have e4 : T4.heap = h0 := he4
  refine own_st (T' := T4) (g' := (mkF m 26 #[.val (.ref a1), .val (.int (Int32.ofNat n)), .val (.int (Int32.ofNat pp)), .val (.int (Int32.ofNat (rk pp)))] [(.int (Int32.ofNat (own_lt01 rk n 2 (rk pp)))), (.int (Int32.ofNat (own_lt01 rk n 0 (rk pp) + own_lt01 rk n 1 (rk pp))))])) (fun t9 k9 => st4 t9 k9) ?_
  refine own_st (T' := T4) (g' := (mkF m 27 #[.val (.ref a1), .val (.int (Int32.ofNat n)), .val (.int (Int32.ofNat pp)), .val (.int (Int32.ofNat (rk pp)))] [(.int ((Int32.ofNat (own_lt01 rk n 0 (rk pp) + own_lt01 rk n 1 (rk pp))) + (Int32.ofNat (own_lt01 rk n 2 (rk pp)))))])) (fun t9 k9 => XS.iadd X4.here hx rfl (hb hby d2_26) rfl k9) ?_
  rw [own_add]
  refine own_st (T' := T4) (g' := (mkF m 28 #[.val (.ref a1), .val (.int (Int32.ofNat n)), .val (.int (Int32.ofNat pp)), .val (.int (Int32.ofNat (rk pp)))] [(.ref a1), (.int (Int32.ofNat (own_lt01 rk n 0 (rk pp) + own_lt01 rk n 1 (rk pp) + own_lt01 rk n 2 (rk pp))))])) (fun t9 k9 => XS.aloadN X4.here hx rfl (hb hby d2_27) rfl rfl k9) ?_
  refine own_st (T' := T4) (g' := (mkF m 29 #[.val (.ref a1), .val (.int (Int32.ofNat n)), .val (.int (Int32.ofNat pp)), .val (.int (Int32.ofNat (rk pp)))] [(.int (Int32.ofNat n)), (.ref a1), (.int (Int32.ofNat (own_lt01 rk n 0 (rk pp) + own_lt01 rk n 1 (rk pp) + own_lt01 rk n 2 (rk pp))))])) (fun t9 k9 => XS.iloadN X4.here hx rfl (hb hby d2_28) rfl k9) ?_
  refine own_st (T' := T4) (g' := (mkF m 30 #[.val (.ref a1), .val (.int (Int32.ofNat n)), .val (.int (Int32.ofNat pp)), .val (.int (Int32.ofNat (rk pp)))] [(.int (3 : Int32)), (.int (Int32.ofNat n)), (.ref a1), (.int (Int32.ofNat (own_lt01 rk n 0 (rk pp) + own_lt01 rk n 1 (rk pp) + own_lt01 rk n 2 (rk pp))))])) (fun t9 k9 => XS.iconst X4.here hx rfl (hb hby d2_29) k9) ?_
  refine own_st (T' := T4) (g' := (mkF m 31 #[.val (.ref a1), .val (.int (Int32.ofNat n)), .val (.int (Int32.ofNat pp)), .val (.int (Int32.ofNat (rk pp)))] [(.int (Int32.ofNat (rk pp))), (.int (3 : Int32)), (.int (Int32.ofNat n)), (.ref a1), (.int (Int32.ofNat (own_lt01 rk n 0 (rk pp) + own_lt01 rk n 1 (rk pp) + own_lt01 rk n 2 (rk pp))))])) (fun t9 k9 => XS.iloadN X4.here hx rfl (hb hby d2_30) rfl k9) ?_
  obtain ⟨_, _, ⟨T5, L5, k5, n5⟩, -, X5, ⟨Lc5, hQ5, l5, y5, z5⟩, st5⟩ := Jvm.LawKit.callS X4 hx (y := (⟨"com/example/shelfwright/shelfwright/checker/OrdersAscendingPinLaw", "lt", "([IIII)I"⟩ : MethodName)) hown (mvT hZ (hw _ (List.mem_of_getElem? (i := 10) rfl))) (mvT hZ (hw _ (List.mem_of_getElem? (i := 11) rfl))) (mvT hZ (hw _ (List.mem_of_getElem? (i := 8) rfl))) (mvT hZ (hw _ (List.mem_of_getElem? (i := 12) rfl))) (by decide) (own_back (W := 1) (rm3 l Z a0 hw a1 kk1 vr rk n 3 (rk pp) h0 n0 Z0 V1 hr hb9 (by decide) (by omega) hp9) hZ (hw _ (List.mem_of_getElem? (i := 12) rfl)) (hw _ (List.mem_of_getElem? (i := 8) rfl)) (by decide) (by decide)) (g := (mkF m 31 #[.val (.ref a1), .val (.int (Int32.ofNat n)), .val (.int (Int32.ofNat pp)), .val (.int (Int32.ofNat (rk pp)))] [(.int (Int32.ofNat (rk pp))), (.int (3 : Int32)), (.int (Int32.ofNat n)), (.ref a1), (.int (Int32.ofNat (own_lt01 rk n 0 (rk pp) + own_lt01 rk n 1 (rk pp) + own_lt01 rk n 2 (rk pp))))])) rfl (by rw [hml]; rfl) (argsL := [(.ref a1), (.int (Int32.ofNat n)), (.int (3 : Int32)), (.int (Int32.ofNat (rk pp)))]) (rest := [(.int (Int32.ofNat (own_lt01 rk n 0 (rk pp) + own_lt01 rk n 1 (rk pp) + own_lt01 rk n 2 (rk pp))))]) (lenOf pd_2 rfl) rfl (by show 2 * 0 + _ ≤ _; exact Nat.le_of_eq rfl) (hb hby d2_31) (fun _ _ => ⟨rfl, e4, (Nat.le_of_ble_eq_true rfl), (Nat.le_of_ble_eq_true rfl)⟩)
  dsimp only [Pt.U, Pt.locs, Pt.cells, Pt.slots] at X5 l5 y5 z5 st5 hQ5
  subst l5 y5 z5
  obtain ⟨rfl, Nq5, he5⟩ := hQ5
  have N5 := Fr.app N4 Nq5
  have e5 : T5.heap = h0 := he5
  refine own_st (T' := T5) (g' := (mkF m 34 #[.val (.ref a1), .val (.int (Int32.ofNat n)), .val (.int (Int32.ofNat pp)), .val (.int (Int32.ofNat (rk pp)))] [(.int (Int32.ofNat (own_lt01 rk n 3 (rk pp)))), (.int (Int32.ofNat (own_lt01 rk n 0 (rk pp) + own_lt01 rk n 1 (rk pp) + own_lt01 rk n 2 (rk pp))))])) (fun t9 k9 => st5 t9 k9) ?_
  refine own_st (T' := T5) (g' := (mkF m 35 #[.val (.ref a1), .val (.int (Int32.ofNat n)), .val (.int (Int32.ofNat pp)), .val (.int (Int32.ofNat (rk pp)))] [(.int ((Int32.ofNat (own_lt01 rk n 0 (rk pp) + own_lt01 rk n 1 (rk pp) + own_lt01 rk n 2 (rk pp))) + (Int32.ofNat (own_lt01 rk n 3 (rk pp)))))])) (fun t9 k9 => XS.iadd X5.here hx rfl (hb hby d2_34) rfl k9) ?_
  rw [own_add]
  refine own_st (T' := T5) (g' := (mkF m 36 #[.val (.ref a1), .val (.int (Int32.ofNat n)), .val (.int (Int32.ofNat pp)), .val (.int (Int32.ofNat (rk pp)))] [(.ref a1), (.int (Int32.ofNat (own_lt01 rk n 0 (rk pp) + own_lt01 rk n 1 (rk pp) + own_lt01 rk n 2 (rk pp) + own_lt01 rk n 3 (rk pp))))])) (fun t9 k9 => XS.aloadN X5.here hx rfl (hb hby d2_35) rfl rfl k9) ?_
  refine own_st (T' := T5) (g' := (mkF m 37 #[.val (.ref a1), .val (.int (Int32.ofNat n)), .val (.int (Int32.ofNat pp)), .val (.int (Int32.ofNat (rk pp)))] [(.int (Int32.ofNat pp)), (.ref a1), (.int (Int32.ofNat (own_lt01 rk n 0 (rk pp) + own_lt01 rk n 1 (rk pp) + own_lt01 rk n 2 (rk pp) + own_lt01 rk n 3 (rk pp))))])) (fun t9 k9 => XS.iloadN X5.here hx rfl (hb hby d2_36) rfl k9) ?_
  refine own_st (T' := T5) (g' := (mkF m 38 #[.val (.ref a1), .val (.int (Int32.ofNat n)), .val (.int (Int32.ofNat pp)), .val (.int (Int32.ofNat (rk pp)))] [(.int (0 : Int32)), (.int (Int32.ofNat pp)), (.ref a1), (.int (Int32.ofNat (own_lt01 rk n 0 (rk pp) + own_lt01 rk n 1 (rk pp) + own_lt01 rk n 2 (rk pp) + own_lt01 rk n 3 (rk pp))))])) (fun t9 k9 => XS.iconst X5.here hx rfl (hb hby d2_37) k9) ?_
  refine own_st (T' := T5) (g' := (mkF m 39 #[.val (.ref a1), .val (.int (Int32.ofNat n)), .val (.int (Int32.ofNat pp)), .val (.int (Int32.ofNat (rk pp)))] [(.int (Int32.ofNat (rk pp))), (.int (0 : Int32)), (.int (Int32.ofNat pp)), (.ref a1), (.int (Int32.ofNat (own_lt01 rk n 0 (rk pp) + own_lt01 rk n 1 (rk pp) + own_lt01 rk n 2 (rk pp) + own_lt01 rk n 3 (rk pp))))])) (fun t9 k9 => XS.iloadN X5.here hx rfl (hb hby d2_38) rfl k9) ?_
  obtain ⟨_, _, ⟨T6, L6, k6, n6⟩, -, X6, ⟨Lc6, hQ6, l6, y6, z6⟩, st6⟩ := Jvm.LawKit.callS X5 hx (y := (⟨"com/example/shelfwright/shelfwright/checker/OrdersAscendingPinLaw", "eqBefore", "([IIII)I"⟩ : MethodName)) hown (mvT hZ (hw _ (List.mem_of_getElem? (i := 13) rfl))) (mvT hZ (hw _ (List.mem_of_getElem? (i := 14) rfl))) (mvT hZ (hw _ (List.mem_of_getElem? (i := 8) rfl))) (mvT hZ (hw _ (List.mem_of_getElem? (i := 15) rfl))) (by decide) (own_back (W := 1) (rm4 l Z a0 hw a1 kk1 vr rk pp 0 (rk pp) h0 n0 Z0 V1 hr hb9 (by decide) (by omega) hp9) hZ (hw _ (List.mem_of_getElem? (i := 15) rfl)) (hw _ (List.mem_of_getElem? (i := 8) rfl)) (by decide) (by decide)) (g := (mkF m 39 #[.val (.ref a1), .val (.int (Int32.ofNat n)), .val (.int (Int32.ofNat pp)), .val (.int (Int32.ofNat (rk pp)))] [(.int (Int32.ofNat (rk pp))), (.int (0 : Int32)), (.int (Int32.ofNat pp)), (.ref a1), (.int (Int32.ofNat (own_lt01 rk n 0 (rk pp) + own_lt01 rk n 1 (rk pp) + own_lt01 rk n 2 (rk pp) + own_lt01 rk n 3 (rk pp))))])) rfl (by rw [hml]; rfl) (argsL := [(.ref a1), (.int (Int32.ofNat pp)), (.int (0 : Int32)), (.int (Int32.ofNat (rk pp)))]) (rest := [(.int (Int32.ofNat (own_lt01 rk n 0 (rk pp) + own_lt01 rk n 1 (rk pp) + own_lt01 rk n 2 (rk pp) + own_lt01 rk n 3 (rk pp))))]) (lenOf pd_2 rfl) rfl (by show 2 * 0 + _ ≤ _; exact Nat.le_of_eq rfl) (hb hby d2_39) (fun _ _ => ⟨rfl, e5, (Nat.le_of_ble_eq_true rfl), (Nat.le_of_ble_eq_true rfl)⟩)
  dsimp only [Pt.U, Pt.locs, Pt.cells, Pt.slots] at X6 l6 y6 z6 st6 hQ6
  subst l6 y6 z6
  obtain ⟨rfl, Nq6, he6⟩ := hQ6
  have N6 := Fr.app N5 Nq6
  have e6 : T6.heap = h0 := he6
  refine own_st (T' := T6) (g' := (mkF m 42 #[.val (.ref a1), .val (.int (Int32.ofNat n)), .val (.int (Int32.ofNat pp)), .val (.int (Int32.ofNat (rk pp)))] [(.int (Int32.ofNat (own_eq01 rk pp 0 (rk pp)))), (.int (Int32.ofNat (own_lt01 rk n 0 (rk pp) + own_lt01 rk n 1 (rk pp) + own_lt01 rk n 2 (rk pp) + own_lt01 rk n 3 (rk pp))))])) (fun t9 k9 => st6 t9 k9) ?_
  refine own_st (T' := T6) (g' := (mkF m 43 #[.val (.ref a1), .val (.int (Int32.ofNat n)), .val (.int (Int32.ofNat pp)), .val (.int (Int32.ofNat (rk pp)))] [(.int ((Int32.ofNat (own_lt01 rk n 0 (rk pp) + own_lt01 rk n 1 (rk pp) + own_lt01 rk n 2 (rk pp) + own_lt01 rk n 3 (rk pp))) + (Int32.ofNat (own_eq01 rk pp 0 (rk pp)))))])) (fun t9 k9 => XS.iadd X6.here hx rfl (hb hby d2_42) rfl k9) ?_
  rw [own_add]
  refine own_st (T' := T6) (g' := (mkF m 44 #[.val (.ref a1), .val (.int (Int32.ofNat n)), .val (.int (Int32.ofNat pp)), .val (.int (Int32.ofNat (rk pp)))] [(.ref a1), (.int (Int32.ofNat (own_lt01 rk n 0 (rk pp) + own_lt01 rk n 1 (rk pp) + own_lt01 rk n 2 (rk pp) + own_lt01 rk n 3 (rk pp) + own_eq01 rk pp 0 (rk pp))))])) (fun t9 k9 => XS.aloadN X6.here hx rfl (hb hby d2_43) rfl rfl k9) ?_
  refine own_st (T' := T6) (g' := (mkF m 45 #[.val (.ref a1), .val (.int (Int32.ofNat n)), .val (.int (Int32.ofNat pp)), .val (.int (Int32.ofNat (rk pp)))] [(.int (Int32.ofNat pp)), (.ref a1), (.int (Int32.ofNat (own_lt01 rk n 0 (rk pp) + own_lt01 rk n 1 (rk pp) + own_lt01 rk n 2 (rk pp) + own_lt01 rk n 3 (rk pp) + own_eq01 rk pp 0 (rk pp))))])) (fun t9 k9 => XS.iloadN X6.here hx rfl (hb hby d2_44) rfl k9) ?_
  refine own_st (T' := T6) (g' := (mkF m 46 #[.val (.ref a1), .val (.int (Int32.ofNat n)), .val (.int (Int32.ofNat pp)), .val (.int (Int32.ofNat (rk pp)))] [(.int (1 : Int32)), (.int (Int32.ofNat pp)), (.ref a1), (.int (Int32.ofNat (own_lt01 rk n 0 (rk pp) + own_lt01 rk n 1 (rk pp) + own_lt01 rk n 2 (rk pp) + own_lt01 rk n 3 (rk pp) + own_eq01 rk pp 0 (rk pp))))])) (fun t9 k9 => XS.iconst X6.here hx rfl (hb hby d2_45) k9) ?_
  refine own_st (T' := T6) (g' := (mkF m 47 #[.val (.ref a1), .val (.int (Int32.ofNat n)), .val (.int (Int32.ofNat pp)), .val (.int (Int32.ofNat (rk pp)))] [(.int (Int32.ofNat (rk pp))), (.int (1 : Int32)), (.int (Int32.ofNat pp)), (.ref a1), (.int (Int32.ofNat (own_lt01 rk n 0 (rk pp) + own_lt01 rk n 1 (rk pp) + own_lt01 rk n 2 (rk pp) + own_lt01 rk n 3 (rk pp) + own_eq01 rk pp 0 (rk pp))))])) (fun t9 k9 => XS.iloadN X6.here hx rfl (hb hby d2_46) rfl k9) ?_
  obtain ⟨_, _, ⟨T7, L7, k7, n7⟩, -, X7, ⟨Lc7, hQ7, l7, y7, z7⟩, st7⟩ := Jvm.LawKit.callS X6 hx (y := (⟨"com/example/shelfwright/shelfwright/checker/OrdersAscendingPinLaw", "eqBefore", "([IIII)I"⟩ : MethodName)) hown (mvT hZ (hw _ (List.mem_of_getElem? (i := 13) rfl))) (mvT hZ (hw _ (List.mem_of_getElem? (i := 14) rfl))) (mvT hZ (hw _ (List.mem_of_getElem? (i := 8) rfl))) (mvT hZ (hw _ (List.mem_of_getElem? (i := 15) rfl))) (by decide) (own_back (W := 1) (rm4 l Z a0 hw a1 kk1 vr rk pp 1 (rk pp) h0 n0 Z0 V1 hr hb9 (by decide) (by omega) hp9) hZ (hw _ (List.mem_of_getElem? (i := 15) rfl)) (hw _ (List.mem_of_getElem? (i := 8) rfl)) (by decide) (by decide)) (g := (mkF m 47 #[.val (.ref a1), .val (.int (Int32.ofNat n)), .val (.int (Int32.ofNat pp)), .val (.int (Int32.ofNat (rk pp)))] [(.int (Int32.ofNat (rk pp))), (.int (1 : Int32)), (.int (Int32.ofNat pp)), (.ref a1), (.int (Int32.ofNat (own_lt01 rk n 0 (rk pp) + own_lt01 rk n 1 (rk pp) + own_lt01 rk n 2 (rk pp) + own_lt01 rk n 3 (rk pp) + own_eq01 rk pp 0 (rk pp))))])) rfl (by rw [hml]; rfl) (argsL := [(.ref a1), (.int (Int32.ofNat pp)), (.int (1 : Int32)), (.int (Int32.ofNat (rk pp)))]) (rest := [(.int (Int32.ofNat (own_lt01 rk n 0 (rk pp) + own_lt01 rk n 1 (rk pp) + own_lt01 rk n 2 (rk pp) + own_lt01 rk n 3 (rk pp) + own_eq01 rk pp 0 (rk pp))))]) (lenOf pd_2 rfl) rfl (by show 2 * 0 + _ ≤ _; exact Nat.le_of_eq rfl) (hb hby d2_47) (fun _ _ => ⟨rfl, e6, (Nat.le_of_ble_eq_true rfl), (Nat.le_of_ble_eq_true rfl)⟩)
  dsimp only [Pt.U, Pt.locs, Pt.cells, Pt.slots] at X7 l7 y7 z7 st7 hQ7
  subst l7 y7 z7
  obtain ⟨rfl, Nq7, he7⟩ := hQ7
  have N7 := Fr.app N6 Nq7
  have e7 : T7.heap = h0 := he7
  refine own_st (T' := T7) (g' := (mkF m 50 #[.val (.ref a1), .val (.int (Int32.ofNat n)), .val (.int (Int32.ofNat pp)), .val (.int (Int32.ofNat (rk pp)))] [(.int (Int32.ofNat (own_eq01 rk pp 1 (rk pp)))), (.int (Int32.ofNat (own_lt01 rk n 0 (rk pp) + own_lt01 rk n 1 (rk pp) + own_lt01 rk n 2 (rk pp) + own_lt01 rk n 3 (rk pp) + own_eq01 rk pp 0 (rk pp))))])) (fun t9 k9 => st7 t9 k9) ?_
  refine own_st (T' := T7) (g' := (mkF m 51 #[.val (.ref a1), .val (.int (Int32.ofNat n)), .val (.int (Int32.ofNat pp)), .val (.int (Int32.ofNat (rk pp)))] [(.int ((Int32.ofNat (own_lt01 rk n 0 (rk pp) + own_lt01 rk n 1 (rk pp) + own_lt01 rk n 2 (rk pp) + own_lt01 rk n 3 (rk pp) + own_eq01 rk pp 0 (rk pp))) + (Int32.ofNat (own_eq01 rk pp 1 (rk pp)))))])) (fun t9 k9 => XS.iadd X7.here hx rfl (hb hby d2_50) rfl k9) ?_
  rw [own_add]
  refine own_st (T' := T7) (g' := (mkF m 52 #[.val (.ref a1), .val (.int (Int32.ofNat n)), .val (.int (Int32.ofNat pp)), .val (.int (Int32.ofNat (rk pp)))] [(.ref a1), (.int (Int32.ofNat (own_lt01 rk n 0 (rk pp) + own_lt01 rk n 1 (rk pp) + own_lt01 rk n 2 (rk pp) + own_lt01 rk n 3 (rk pp) + own_eq01 rk pp 0 (rk pp) + own_eq01 rk pp 1 (rk pp))))])) (fun t9 k9 => XS.aloadN X7.here hx rfl (hb hby d2_51) rfl rfl k9) ?_
  refine own_st (T' := T7) (g' := (mkF m 53 #[.val (.ref a1), .val (.int (Int32.ofNat n)), .val (.int (Int32.ofNat pp)), .val (.int (Int32.ofNat (rk pp)))] [(.int (Int32.ofNat pp)), (.ref a1), (.int (Int32.ofNat (own_lt01 rk n 0 (rk pp) + own_lt01 rk n 1 (rk pp) + own_lt01 rk n 2 (rk pp) + own_lt01 rk n 3 (rk pp) + own_eq01 rk pp 0 (rk pp) + own_eq01 rk pp 1 (rk pp))))])) (fun t9 k9 => XS.iloadN X7.here hx rfl (hb hby d2_52) rfl k9) ?_
  refine own_st (T' := T7) (g' := (mkF m 54 #[.val (.ref a1), .val (.int (Int32.ofNat n)), .val (.int (Int32.ofNat pp)), .val (.int (Int32.ofNat (rk pp)))] [(.int (2 : Int32)), (.int (Int32.ofNat pp)), (.ref a1), (.int (Int32.ofNat (own_lt01 rk n 0 (rk pp) + own_lt01 rk n 1 (rk pp) + own_lt01 rk n 2 (rk pp) + own_lt01 rk n 3 (rk pp) + own_eq01 rk pp 0 (rk pp) + own_eq01 rk pp 1 (rk pp))))])) (fun t9 k9 => XS.iconst X7.here hx rfl (hb hby d2_53) k9) ?_
  refine own_st (T' := T7) (g' := (mkF m 55 #[.val (.ref a1), .val (.int (Int32.ofNat n)), .val (.int (Int32.ofNat pp)), .val (.int (Int32.ofNat (rk pp)))] [(.int (Int32.ofNat (rk pp))), (.int (2 : Int32)), (.int (Int32.ofNat pp)), (.ref a1), (.int (Int32.ofNat (own_lt01 rk n 0 (rk pp) + own_lt01 rk n 1 (rk pp) + own_lt01 rk n 2 (rk pp) + own_lt01 rk n 3 (rk pp) + own_eq01 rk pp 0 (rk pp) + own_eq01 rk pp 1 (rk pp))))])) (fun t9 k9 => XS.iloadN X7.here hx rfl (hb hby d2_54) rfl k9) ?_
  obtain ⟨_, _, ⟨T8, L8, k8, n8⟩, -, X8, ⟨Lc8, hQ8, l8, y8, z8⟩, st8⟩ := Jvm.LawKit.callS X7 hx (y := (⟨"com/example/shelfwright/shelfwright/checker/OrdersAscendingPinLaw", "eqBefore", "([IIII)I"⟩ : MethodName)) hown (mvT hZ (hw _ (List.mem_of_getElem? (i := 13) rfl))) (mvT hZ (hw _ (List.mem_of_getElem? (i := 14) rfl))) (mvT hZ (hw _ (List.mem_of_getElem? (i := 8) rfl))) (mvT hZ (hw _ (List.mem_of_getElem? (i := 15) rfl))) (by decide) (own_back (W := 1) (rm4 l Z a0 hw a1 kk1 vr rk pp 2 (rk pp) h0 n0 Z0 V1 hr hb9 (by decide) (by omega) hp9) hZ (hw _ (List.mem_of_getElem? (i := 15) rfl)) (hw _ (List.mem_of_getElem? (i := 8) rfl)) (by decide) (by decide)) (g := (mkF m 55 #[.val (.ref a1), .val (.int (Int32.ofNat n)), .val (.int (Int32.ofNat pp)), .val (.int (Int32.ofNat (rk pp)))] [(.int (Int32.ofNat (rk pp))), (.int (2 : Int32)), (.int (Int32.ofNat pp)), (.ref a1), (.int (Int32.ofNat (own_lt01 rk n 0 (rk pp) + own_lt01 rk n 1 (rk pp) + own_lt01 rk n 2 (rk pp) + own_lt01 rk n 3 (rk pp) + own_eq01 rk pp 0 (rk pp) + own_eq01 rk pp 1 (rk pp))))])) rfl (by rw [hml]; rfl) (argsL := [(.ref a1), (.int (Int32.ofNat pp)), (.int (2 : Int32)), (.int (Int32.ofNat (rk pp)))]) (rest := [(.int (Int32.ofNat (own_lt01 rk n 0 (rk pp) + own_lt01 rk n 1 (rk pp) + own_lt01 rk n 2 (rk pp) + own_lt01 rk n 3 (rk pp) + own_eq01 rk pp 0 (rk pp) + own_eq01 rk pp 1 (rk pp))))]) (lenOf pd_2 rfl) rfl (by show 2 * 0 + _ ≤ _; exact Nat.le_of_eq rfl) (hb hby d2_55) (fun _ _ => ⟨rfl, e7, (Nat.le_of_ble_eq_true rfl), (Nat.le_of_ble_eq_true rfl)⟩)
  dsimp only [Pt.U, Pt.locs, Pt.cells, Pt.slots] at X8 l8 y8 z8 st8 hQ8
  subst l8 y8 z8
  obtain ⟨rfl, Nq8, he8⟩ := hQ8
  have N8 := Fr.app N7 Nq8
  have e8 : T8.heap = h0 := he8
  refine own_st (T' := T8) (g' := (mkF m 58 #[.val (.ref a1), .val (.int (Int32.ofNat n)), .val (.int (Int32.ofNat pp)), .val (.int (Int32.ofNat (rk pp)))] [(.int (Int32.ofNat (own_eq01 rk pp 2 (rk pp)))), (.int (Int32.ofNat (own_lt01 rk n 0 (rk pp) + own_lt01 rk n 1 (rk pp) + own_lt01 rk n 2 (rk pp) + own_lt01 rk n 3 (rk pp) + own_eq01 rk pp 0 (rk pp) + own_eq01 rk pp 1 (rk pp))))])) (fun t9 k9 => st8 t9 k9) ?_
  refine own_st (T' := T8) (g' := (mkF m 59 #[.val (.ref a1), .val (.int (Int32.ofNat n)), .val (.int (Int32.ofNat pp)), .val (.int (Int32.ofNat (rk pp)))] [(.int ((Int32.ofNat (own_lt01 rk n 0 (rk pp) + own_lt01 rk n 1 (rk pp) + own_lt01 rk n 2 (rk pp) + own_lt01 rk n 3 (rk pp) + own_eq01 rk pp 0 (rk pp) + own_eq01 rk pp 1 (rk pp))) + (Int32.ofNat (own_eq01 rk pp 2 (rk pp)))))])) (fun t9 k9 => XS.iadd X8.here hx rfl (hb hby d2_58) rfl k9) ?_
  rw [own_add]
  refine own_ret (v := some (.int (Int32.ofNat (own_lt01 rk n 0 (rk pp) + own_lt01 rk n 1 (rk pp) + own_lt01 rk n 2 (rk pp) + own_lt01 rk n 3 (rk pp) + own_eq01 rk pp 0 (rk pp) + own_eq01 rk pp 1 (rk pp) + own_eq01 rk pp 2 (rk pp))))) hF X8 (own_some hret) hlk (fun fs hr => retI X8 hx hret (hb hby d2_59) hr) ?_ (by decide) (by decide)
  try rw [e8]
  exact ⟨by rw [own_sum rk hn hp], N8, rfl⟩
theorem pn_0 : plainFor (⟨"com/example/shelfwright/shelfwright/checker/OrdersAscendingPinLaw", "law", "(IIIIII)Z"⟩ : MethodName) = true := plainFor_of_name (by first | (simp [plainName, overriddenIn]; done) | decide +kernel)
set_option maxRecDepth 65536 in
set_option maxHeartbeats 40000000 in
theorem rm0 (l : Launch) (Z : State) (a0 : Array Value) (hw : ∀ d ∈ tables_1, d.before a0 Z = true) (p1 p2 p3 p4 p5 p6 : Int32) (h0 : Heap) (n0 : Nat) (Z0 : n0 ≤ h0.size)  :
    own_Met l Z x code maxLocals ret room_1 #[(.int p1), (.int p2), (.int p3), (.int p4), (.int p5), (.int p6)] h0 (fun v h L => v = some (.int (1 : Int32)) ∧ Fr n0 L) := by
  refine own_body pn_0 ?_
  intro p e s m below meth c T0 hZ hx hby hml hown hnm hret hlk X0 e0 F hF
  have N0 := Fr.nil n0
  have K0 := Keep.refl h0 []
  refine own_cast (g' := (mkF m 0 #[.val (.int p1), .val (.int p2), .val (.int p3), .val (.int p4), .val (.int p5), .val (.int p6), .unset, .unset, .unset, .unset, .unset, .unset] [])) (by first | rfl | simp [entryFrame, mkF, argsToLocals, Value.category, maxLocals]) ?_
  obtain ⟨cn, hcn, ecn⟩ := own_small p2
  have hcz : ¬ Int32.ofNat (cn + 1) = 0 := fun e => by
    have := own_eq' (i := cn + 1) (n := 0) e (by omega) (by omega)
    omega
  obtain ⟨x0, hx0, ex0⟩ := own_mod p3 (cn + 1) (by omega) (by omega)
  obtain ⟨x1, hx1, ex1⟩ := own_mod p4 (cn + 1) (by omega) (by omega)
  obtain ⟨x2, hx2, ex2⟩ := own_mod p5 (cn + 1) (by omega) (by omega)
  obtain ⟨x3, hx3, ex3⟩ := own_mod p6 (cn + 1) (by omega) (by omega)
  refine own_st (T' := T0) (g' := (mkF m 1 #[.val (.int p1), .val (.int p2), .val (.int p3), .val (.int p4), .val (.int p5), .val (.int p6), .unset, .unset, .unset, .unset, .unset, .unset] [(.int p1)])) (fun t9 k9 => XS.iloadN X0.here hx rfl (hb hby at_0) rfl k9) ?_
  refine own_st (T' := T0) (g' := (mkF m 3 #[.val (.int p1), .val (.int p2), .val (.int p3), .val (.int p4), .val (.int p5), .val (.int p6), .unset, .unset, .unset, .unset, .unset, .unset] [(.int (7 : Int32)), (.int p1)])) (fun t9 k9 => XS.bipush X0.here hx rfl (hb hby at_1) k9) ?_
  refine own_st (T' := T0) (g' := (mkF m 4 #[.val (.int p1), .val (.int p2), .val (.int p3), .val (.int p4), .val (.int p5), .val (.int p6), .unset, .unset, .unset, .unset, .unset, .unset] [(.int (p1 &&& (7 : Int32)))])) (fun t9 k9 => XS.iand X0.here hx rfl (hb hby at_3) rfl k9) ?_
  refine own_st (T' := T0) (g' := (mkF m 5 #[.val (.int p1), .val (.int p2), .val (.int p3), .val (.int p4), .val (.int p5), .val (.int p6), .unset, .unset, .unset, .unset, .unset, .unset] [(.int (5 : Int32)), (.int (p1 &&& (7 : Int32)))])) (fun t9 k9 => XS.iconst X0.here hx rfl (hb hby at_4) k9) ?_
  refine own_st (T' := T0) (g' := (mkF m 6 #[.val (.int p1), .val (.int p2), .val (.int p3), .val (.int p4), .val (.int p5), .val (.int p6), .unset, .unset, .unset, .unset, .unset, .unset] [(.int ((p1 &&& (7 : Int32)) % (5 : Int32)))])) (fun t9 k9 => iremM X0 hx (g := (mkF m 5 #[.val (.int p1), .val (.int p2), .val (.int p3), .val (.int p4), .val (.int p5), .val (.int p6), .unset, .unset, .unset, .unset, .unset, .unset] [(.int (5 : Int32)), (.int (p1 &&& (7 : Int32)))])) rfl (hb hby at_5) rfl (by decide) k9) ?_
  obtain ⟨ln, hln⟩ : ∃ z, z = ((p1 &&& (7 : Int32)) % (5 : Int32)) := ⟨_, rfl⟩
  rw [← hln]
  refine own_st (T' := T0) (g' := (mkF m 8 #[.val (.int p1), .val (.int p2), .val (.int p3), .val (.int p4), .val (.int p5), .val (.int p6), .val (.int ln), .unset, .unset, .unset, .unset, .unset] [])) (fun t9 k9 => XS.istore X0.here hx rfl (hb hby at_6) rfl (l' := #[.val (.int p1), .val (.int p2), .val (.int p3), .val (.int p4), .val (.int p5), .val (.int p6), .val (.int ln), .unset, .unset, .unset, .unset, .unset]) rfl k9) ?_
  refine own_st (T' := T0) (g' := (mkF m 9 #[.val (.int p1), .val (.int p2), .val (.int p3), .val (.int p4), .val (.int p5), .val (.int p6), .val (.int ln), .unset, .unset, .unset, .unset, .unset] [(.int p2)])) (fun t9 k9 => XS.iloadN X0.here hx rfl (hb hby at_8) rfl k9) ?_
  refine own_st (T' := T0) (g' := (mkF m 11 #[.val (.int p1), .val (.int p2), .val (.int p3), .val (.int p4), .val (.int p5), .val (.int p6), .val (.int ln), .unset, .unset, .unset, .unset, .unset] [(.int (7 : Int32)), (.int p2)])) (fun t9 k9 => XS.bipush X0.here hx rfl (hb hby at_9) k9) ?_
  refine own_st (T' := T0) (g' := (mkF m 12 #[.val (.int p1), .val (.int p2), .val (.int p3), .val (.int p4), .val (.int p5), .val (.int p6), .val (.int ln), .unset, .unset, .unset, .unset, .unset] [(.int (p2 &&& (7 : Int32)))])) (fun t9 k9 => XS.iand X0.here hx rfl (hb hby at_11) rfl k9) ?_
  refine own_st (T' := T0) (g' := (mkF m 13 #[.val (.int p1), .val (.int p2), .val (.int p3), .val (.int p4), .val (.int p5), .val (.int p6), .val (.int ln), .unset, .unset, .unset, .unset, .unset] [(.int (1 : Int32)), (.int (p2 &&& (7 : Int32)))])) (fun t9 k9 => XS.iconst X0.here hx rfl (hb hby at_12) k9) ?_
  refine own_st (T' := T0) (g' := (mkF m 14 #[.val (.int p1), .val (.int p2), .val (.int p3), .val (.int p4), .val (.int p5), .val (.int p6), .val (.int ln), .unset, .unset, .unset, .unset, .unset] [(.int ((p2 &&& (7 : Int32)) + (1 : Int32)))])) (fun t9 k9 => XS.iadd X0.here hx rfl (hb hby at_13) rfl k9) ?_
  rw [ecn, own_one cn]
  refine own_st (T' := T0) (g' := (mkF m 16 #[.val (.int p1), .val (.int p2), .val (.int p3), .val (.int p4), .val (.int p5), .val (.int p6), .val (.int ln), .val (.int (Int32.ofNat (cn + 1))), .unset, .unset, .unset, .unset] [])) (fun t9 k9 => XS.istore X0.here hx rfl (hb hby at_14) rfl (l' := #[.val (.int p1), .val (.int p2), .val (.int p3), .val (.int p4), .val (.int p5), .val (.int p6), .val (.int ln), .val (.int (Int32.ofNat (cn + 1))), .unset, .unset, .unset, .unset]) rfl k9) ?_
  refine own_st (T' := T0) (g' := (mkF m 17 #[.val (.int p1), .val (.int p2), .val (.int p3), .val (.int p4), .val (.int p5), .val (.int p6), .val (.int ln), .val (.int (Int32.ofNat (cn + 1))), .unset, .unset, .unset, .unset] [(.int (4 : Int32))])) (fun t9 k9 => XS.iconst X0.here hx rfl (hb hby at_16) k9) ?_
  obtain ⟨T1, h1, k1, X1, e1, Ex1, A1, st1⟩ := newP X0 hx hZ (hw _ (List.mem_of_getElem? (i := 0) rfl)) e0 (g := (mkF m 17 #[.val (.int p1), .val (.int p2), .val (.int p3), .val (.int p4), .val (.int p5), .val (.int p6), .val (.int ln), .val (.int (Int32.ofNat (cn + 1))), .unset, .unset, .unset, .unset] [(.int (4 : Int32))])) rfl (hb hby at_17) rfl (by decide) (cap := 4) (by decide) (by decide) (by decide) (by decide)
  obtain ⟨b1, gb1⟩ : ∃ z, z = h0.size := ⟨_, rfl⟩
  have g_b1 : n0 ≤ b1 := gb1 ▸ Z0
  have sz_b1 : h0.size ≤ b1 := gb1 ▸ K0.1
  rw [← gb1] at A1 st1
  have K1 := K0.ext Ex1
  have Z1 : n0 ≤ h1.size := Nat.le_trans Z0 Ex1.1
  have V_b1 : Arv Z h1 b1 k1 .int (4 : Int32) [(.int (0 : Int32)), (.int (0 : Int32)), (.int (0 : Int32)), (.int (0 : Int32))] (.int (0 : Int32)) := (Arv.new A1 (by decide)).pad (pad_rep [] (.int (0 : Int32)) 4)
  refine own_st (T' := T1) (g' := (mkF m 19 #[.val (.int p1), .val (.int p2), .val (.int p3), .val (.int p4), .val (.int p5), .val (.int p6), .val (.int ln), .val (.int (Int32.ofNat (cn + 1))), .unset, .unset, .unset, .unset] [(.ref b1)])) (fun t9 k9 => st1 t9 k9) ?_
  refine own_st (T' := T1) (g' := (mkF m 21 #[.val (.int p1), .val (.int p2), .val (.int p3), .val (.int p4), .val (.int p5), .val (.int p6), .val (.int ln), .val (.int (Int32.ofNat (cn + 1))), .val (.ref b1), .unset, .unset, .unset] [])) (fun t9 k9 => XS.astore X1.here hx rfl (hb hby at_19) rfl rfl (l' := #[.val (.int p1), .val (.int p2), .val (.int p3), .val (.int p4), .val (.int p5), .val (.int p6), .val (.int ln), .val (.int (Int32.ofNat (cn + 1))), .val (.ref b1), .unset, .unset, .unset]) rfl k9) ?_
  refine own_st (T' := T1) (g' := (mkF m 23 #[.val (.int p1), .val (.int p2), .val (.int p3), .val (.int p4), .val (.int p5), .val (.int p6), .val (.int ln), .val (.int (Int32.ofNat (cn + 1))), .val (.ref b1), .unset, .unset, .unset] [(.ref b1)])) (fun t9 k9 => XS.aload X1.here hx rfl (hb hby at_21) rfl rfl k9) ?_
  refine own_st (T' := T1) (g' := (mkF m 24 #[.val (.int p1), .val (.int p2), .val (.int p3), .val (.int p4), .val (.int p5), .val (.int p6), .val (.int ln), .val (.int (Int32.ofNat (cn + 1))), .val (.ref b1), .unset, .unset, .unset] [(.int (0 : Int32)), (.ref b1)])) (fun t9 k9 => XS.iconst X1.here hx rfl (hb hby at_23) k9) ?_
  refine own_st (T' := T1) (g' := (mkF m 25 #[.val (.int p1), .val (.int p2), .val (.int p3), .val (.int p4), .val (.int p5), .val (.int p6), .val (.int ln), .val (.int (Int32.ofNat (cn + 1))), .val (.ref b1), .unset, .unset, .unset] [(.int p3), (.int (0 : Int32)), (.ref b1)])) (fun t9 k9 => XS.iloadN X1.here hx rfl (hb hby at_24) rfl k9) ?_
  refine own_st (T' := T1) (g' := (mkF m 27 #[.val (.int p1), .val (.int p2), .val (.int p3), .val (.int p4), .val (.int p5), .val (.int p6), .val (.int ln), .val (.int (Int32.ofNat (cn + 1))), .val (.ref b1), .unset, .unset, .unset] [(.int (2147483647 : Int32)), (.int p3), (.int (0 : Int32)), (.ref b1)])) (fun t9 k9 => X1.ldcInt hx hown (mvT hZ (hw _ (List.mem_of_getElem? (i := 1) rfl))) (g := (mkF m 25 #[.val (.int p1), .val (.int p2), .val (.int p3), .val (.int p4), .val (.int p5), .val (.int p6), .val (.int ln), .val (.int (Int32.ofNat (cn + 1))), .val (.ref b1), .unset, .unset, .unset] [(.int p3), (.int (0 : Int32)), (.ref b1)])) rfl (hb hby at_25) t9 k9) ?_
  refine own_st (T' := T1) (g' := (mkF m 28 #[.val (.int p1), .val (.int p2), .val (.int p3), .val (.int p4), .val (.int p5), .val (.int p6), .val (.int ln), .val (.int (Int32.ofNat (cn + 1))), .val (.ref b1), .unset, .unset, .unset] [(.int (p3 &&& (2147483647 : Int32))), (.int (0 : Int32)), (.ref b1)])) (fun t9 k9 => XS.iand X1.here hx rfl (hb hby at_27) rfl k9) ?_
  refine own_st (T' := T1) (g' := (mkF m 30 #[.val (.int p1), .val (.int p2), .val (.int p3), .val (.int p4), .val (.int p5), .val (.int p6), .val (.int ln), .val (.int (Int32.ofNat (cn + 1))), .val (.ref b1), .unset, .unset, .unset] [(.int (Int32.ofNat (cn + 1))), (.int (p3 &&& (2147483647 : Int32))), (.int (0 : Int32)), (.ref b1)])) (fun t9 k9 => XS.iload X1.here hx rfl (hb hby at_28) rfl k9) ?_
  refine own_st (T' := T1) (g' := (mkF m 31 #[.val (.int p1), .val (.int p2), .val (.int p3), .val (.int p4), .val (.int p5), .val (.int p6), .val (.int ln), .val (.int (Int32.ofNat (cn + 1))), .val (.ref b1), .unset, .unset, .unset] [(.int ((p3 &&& (2147483647 : Int32)) % (Int32.ofNat (cn + 1)))), (.int (0 : Int32)), (.ref b1)])) (fun t9 k9 => iremM X1 hx (g := (mkF m 30 #[.val (.int p1), .val (.int p2), .val (.int p3), .val (.int p4), .val (.int p5), .val (.int p6), .val (.int ln), .val (.int (Int32.ofNat (cn + 1))), .val (.ref b1), .unset, .unset, .unset] [(.int (Int32.ofNat (cn + 1))), (.int (p3 &&& (2147483647 : Int32))), (.int (0 : Int32)), (.ref b1)])) rfl (hb hby at_30) rfl hcz k9) ?_
  rw [ex0]
  obtain ⟨clu2, Aru2, qu2, Su2, Nu2, Hu2, Gu2⟩ := (id V_b1)
  obtain ⟨T3, h3, X3, e3, W3, st3⟩ := stI X1 hx hZ e1 Aru2 (j := (0 : Int32)) (inb_of Su2 ⟨by decide, by decide⟩) (g := (mkF m 31 #[.val (.int p1), .val (.int p2), .val (.int p3), .val (.int p4), .val (.int p5), .val (.int p6), .val (.int ln), .val (.int (Int32.ofNat (cn + 1))), .val (.ref b1), .unset, .unset, .unset] [(.int (Int32.ofNat x0)), (.int (0 : Int32)), (.ref b1)])) rfl rfl (hb hby at_31)
  have Va3 := Arv.set Aru2 qu2 Su2 Nu2 Hu2 Gu2 rfl W3 0 rfl (Nat.le_of_ble_eq_true rfl)
  have K3 := K1.wr W3 (Or.inr sz_b1)
  have N3 := Fr.snoc X3 N0 g_b1
  have Z3 : n0 ≤ h3.size := by rw [W3.size]; exact Z1
  refine own_st (T' := T3) (g' := (mkF m 32 #[.val (.int p1), .val (.int p2), .val (.int p3), .val (.int p4), .val (.int p5), .val (.int p6), .val (.int ln), .val (.int (Int32.ofNat (cn + 1))), .val (.ref b1), .unset, .unset, .unset] [])) (fun t9 k9 => st3 t9 k9) ?_
  refine own_st (T' := T3) (g' := (mkF m 34 #[.val (.int p1), .val (.int p2), .val (.int p3), .val (.int p4), .val (.int p5), .val (.int p6), .val (.int ln), .val (.int (Int32.ofNat (cn + 1))), .val (.ref b1), .unset, .unset, .unset] [(.ref b1)])) (fun t9 k9 => XS.aload X3.here hx rfl (hb hby at_32) rfl rfl k9) ?_
  refine own_st (T' := T3) (g' := (mkF m 35 #[.val (.int p1), .val (.int p2), .val (.int p3), .val (.int p4), .val (.int p5), .val (.int p6), .val (.int ln), .val (.int (Int32.ofNat (cn + 1))), .val (.ref b1), .unset, .unset, .unset] [(.int (1 : Int32)), (.ref b1)])) (fun t9 k9 => XS.iconst X3.here hx rfl (hb hby at_34) k9) ?_
  refine own_st (T' := T3) (g' := (mkF m 36 #[.val (.int p1), .val (.int p2), .val (.int p3), .val (.int p4), .val (.int p5), .val (.int p6), .val (.int ln), .val (.int (Int32.ofNat (cn + 1))), .val (.ref b1), .unset, .unset, .unset] [(.int p4), (.int (1 : Int32)), (.ref b1)])) (fun t9 k9 => XS.iloadN X3.here hx rfl (hb hby at_35) rfl k9) ?_
  refine own_st (T' := T3) (g' := (mkF m 38 #[.val (.int p1), .val (.int p2), .val (.int p3), .val (.int p4), .val (.int p5), .val (.int p6), .val (.int ln), .val (.int (Int32.ofNat (cn + 1))), .val (.ref b1), .unset, .unset, .unset] [(.int (2147483647 : Int32)), (.int p4), (.int (1 : Int32)), (.ref b1)])) (fun t9 k9 => X3.ldcInt hx hown (mvT hZ (hw _ (List.mem_of_getElem? (i := 1) rfl))) (g := (mkF m 36 #[.val (.int p1), .val (.int p2), .val (.int p3), .val (.int p4), .val (.int p5), .val (.int p6), .val (.int ln), .val (.int (Int32.ofNat (cn + 1))), .val (.ref b1), .unset, .unset, .unset] [(.int p4), (.int (1 : Int32)), (.ref b1)])) rfl (hb hby at_36) t9 k9) ?_
  refine own_st (T' := T3) (g' := (mkF m 39 #[.val (.int p1), .val (.int p2), .val (.int p3), .val (.int p4), .val (.int p5), .val (.int p6), .val (.int ln), .val (.int (Int32.ofNat (cn + 1))), .val (.ref b1), .unset, .unset, .unset] [(.int (p4 &&& (2147483647 : Int32))), (.int (1 : Int32)), (.ref b1)])) (fun t9 k9 => XS.iand X3.here hx rfl (hb hby at_38) rfl k9) ?_
  refine own_st (T' := T3) (g' := (mkF m 41 #[.val (.int p1), .val (.int p2), .val (.int p3), .val (.int p4), .val (.int p5), .val (.int p6), .val (.int ln), .val (.int (Int32.ofNat (cn + 1))), .val (.ref b1), .unset, .unset, .unset] [(.int (Int32.ofNat (cn + 1))), (.int (p4 &&& (2147483647 : Int32))), (.int (1 : Int32)), (.ref b1)])) (fun t9 k9 => XS.iload X3.here hx rfl (hb hby at_39) rfl k9) ?_
  refine own_st (T' := T3) (g' := (mkF m 42 #[.val (.int p1), .val (.int p2), .val (.int p3), .val (.int p4), .val (.int p5), .val (.int p6), .val (.int ln), .val (.int (Int32.ofNat (cn + 1))), .val (.ref b1), .unset, .unset, .unset] [(.int ((p4 &&& (2147483647 : Int32)) % (Int32.ofNat (cn + 1)))), (.int (1 : Int32)), (.ref b1)])) (fun t9 k9 => iremM X3 hx (g := (mkF m 41 #[.val (.int p1), .val (.int p2), .val (.int p3), .val (.int p4), .val (.int p5), .val (.int p6), .val (.int ln), .val (.int (Int32.ofNat (cn + 1))), .val (.ref b1), .unset, .unset, .unset] [(.int (Int32.ofNat (cn + 1))), (.int (p4 &&& (2147483647 : Int32))), (.int (1 : Int32)), (.ref b1)])) rfl (hb hby at_41) rfl hcz k9) ?_
  rw [ex1]
  obtain ⟨clu4, Aru4, qu4, Su4, Nu4, Hu4, Gu4⟩ := (id Va3)
  obtain ⟨T5, h5, X5, e5, W5, st5⟩ := stI X3 hx hZ e3 Aru4 (j := (1 : Int32)) (inb_of Su4 ⟨by decide, by decide⟩) (g := (mkF m 42 #[.val (.int p1), .val (.int p2), .val (.int p3), .val (.int p4), .val (.int p5), .val (.int p6), .val (.int ln), .val (.int (Int32.ofNat (cn + 1))), .val (.ref b1), .unset, .unset, .unset] [(.int (Int32.ofNat x1)), (.int (1 : Int32)), (.ref b1)])) rfl rfl (hb hby at_42)
  have Va5 := Arv.set Aru4 qu4 Su4 Nu4 Hu4 Gu4 rfl W5 1 rfl (Nat.le_of_ble_eq_true rfl)
  have K5 := K3.wr W5 (Or.inr sz_b1)
  have N5 := Fr.snoc X5 N3 g_b1
  have Z5 : n0 ≤ h5.size := by rw [W5.size]; exact Z3
  refine own_st (T' := T5) (g' := (mkF m 43 #[.val (.int p1), .val (.int p2), .val (.int p3), .val (.int p4), .val (.int p5), .val (.int p6), .val (.int ln), .val (.int (Int32.ofNat (cn + 1))), .val (.ref b1), .unset, .unset, .unset] [])) (fun t9 k9 => st5 t9 k9) ?_
  refine own_st (T' := T5) (g' := (mkF m 45 #[.val (.int p1), .val (.int p2), .val (.int p3), .val (.int p4), .val (.int p5), .val (.int p6), .val (.int ln), .val (.int (Int32.ofNat (cn + 1))), .val (.ref b1), .unset, .unset, .unset] [(.ref b1)])) (fun t9 k9 => XS.aload X5.here hx rfl (hb hby at_43) rfl rfl k9) ?_
  refine own_st (T' := T5) (g' := (mkF m 46 #[.val (.int p1), .val (.int p2), .val (.int p3), .val (.int p4), .val (.int p5), .val (.int p6), .val (.int ln), .val (.int (Int32.ofNat (cn + 1))), .val (.ref b1), .unset, .unset, .unset] [(.int (2 : Int32)), (.ref b1)])) (fun t9 k9 => XS.iconst X5.here hx rfl (hb hby at_45) k9) ?_
  refine own_st (T' := T5) (g' := (mkF m 48 #[.val (.int p1), .val (.int p2), .val (.int p3), .val (.int p4), .val (.int p5), .val (.int p6), .val (.int ln), .val (.int (Int32.ofNat (cn + 1))), .val (.ref b1), .unset, .unset, .unset] [(.int p5), (.int (2 : Int32)), (.ref b1)])) (fun t9 k9 => XS.iload X5.here hx rfl (hb hby at_46) rfl k9) ?_
  refine own_st (T' := T5) (g' := (mkF m 50 #[.val (.int p1), .val (.int p2), .val (.int p3), .val (.int p4), .val (.int p5), .val (.int p6), .val (.int ln), .val (.int (Int32.ofNat (cn + 1))), .val (.ref b1), .unset, .unset, .unset] [(.int (2147483647 : Int32)), (.int p5), (.int (2 : Int32)), (.ref b1)])) (fun t9 k9 => X5.ldcInt hx hown (mvT hZ (hw _ (List.mem_of_getElem? (i := 1) rfl))) (g := (mkF m 48 #[.val (.int p1), .val (.int p2), .val (.int p3), .val (.int p4), .val (.int p5), .val (.int p6), .val (.int ln), .val (.int (Int32.ofNat (cn + 1))), .val (.ref b1), .unset, .unset, .unset] [(.int p5), (.int (2 : Int32)), (.ref b1)])) rfl (hb hby at_48) t9 k9) ?_
  refine own_st (T' := T5) (g' := (mkF m 51 #[.val (.int p1), .val (.int p2), .val (.int p3), .val (.int p4), .val (.int p5), .val (.int p6), .val (.int ln), .val (.int (Int32.ofNat (cn + 1))), .val (.ref b1), .unset, .unset, .unset] [(.int (p5 &&& (2147483647 : Int32))), (.int (2 : Int32)), (.ref b1)])) (fun t9 k9 => XS.iand X5.here hx rfl (hb hby at_50) rfl k9) ?_
  refine own_st (T' := T5) (g' := (mkF m 53 #[.val (.int p1), .val (.int p2), .val (.int p3), .val (.int p4), .val (.int p5), .val (.int p6), .val (.int ln), .val (.int (Int32.ofNat (cn + 1))), .val (.ref b1), .unset, .unset, .unset] [(.int (Int32.ofNat (cn + 1))), (.int (p5 &&& (2147483647 : Int32))), (.int (2 : Int32)), (.ref b1)])) (fun t9 k9 => XS.iload X5.here hx rfl (hb hby at_51) rfl k9) ?_
  refine own_st (T' := T5) (g' := (mkF m 54 #[.val (.int p1), .val (.int p2), .val (.int p3), .val (.int p4), .val (.int p5), .val (.int p6), .val (.int ln), .val (.int (Int32.ofNat (cn + 1))), .val (.ref b1), .unset, .unset, .unset] [(.int ((p5 &&& (2147483647 : Int32)) % (Int32.ofNat (cn + 1)))), (.int (2 : Int32)), (.ref b1)])) (fun t9 k9 => iremM X5 hx (g := (mkF m 53 #[.val (.int p1), .val (.int p2), .val (.int p3), .val (.int p4), .val (.int p5), .val (.int p6), .val (.int ln), .val (.int (Int32.ofNat (cn + 1))), .val (.ref b1), .unset, .unset, .unset] [(.int (Int32.ofNat (cn + 1))), (.int (p5 &&& (2147483647 : Int32))), (.int (2 : Int32)), (.ref b1)])) rfl (hb hby at_53) rfl hcz k9) ?_
  rw [ex2]
  obtain ⟨clu6, Aru6, qu6, Su6, Nu6, Hu6, Gu6⟩ := (id Va5)
  obtain ⟨T7, h7, X7, e7, W7, st7⟩ := stI X5 hx hZ e5 Aru6 (j := (2 : Int32)) (inb_of Su6 ⟨by decide, by decide⟩) (g := (mkF m 54 #[.val (.int p1), .val (.int p2), .val (.int p3), .val (.int p4), .val (.int p5), .val (.int p6), .val (.int ln), .val (.int (Int32.ofNat (cn + 1))), .val (.ref b1), .unset, .unset, .unset] [(.int (Int32.ofNat x2)), (.int (2 : Int32)), (.ref b1)])) rfl rfl (hb hby at_54)
  have Va7 := Arv.set Aru6 qu6 Su6 Nu6 Hu6 Gu6 rfl W7 2 rfl (Nat.le_of_ble_eq_true rfl)
  have K7 := K5.wr W7 (Or.inr sz_b1)
  have N7 := Fr.snoc X7 N5 g_b1
  have Z7 : n0 ≤ h7.size := by rw [W7.size]; exact Z5
  refine own_st (T' := T7) (g' := (mkF m 55 #[.val (.int p1), .val (.int p2), .val (.int p3), .val (.int p4), .val (.int p5), .val (.int p6), .val (.int ln), .val (.int (Int32.ofNat (cn + 1))), .val (.ref b1), .unset, .unset, .unset] [])) (fun t9 k9 => st7 t9 k9) ?_
  refine own_st (T' := T7) (g' := (mkF m 57 #[.val (.int p1), .val (.int p2), .val (.int p3), .val (.int p4), .val (.int p5), .val (.int p6), .val (.int ln), .val (.int (Int32.ofNat (cn + 1))), .val (.ref b1), .unset, .unset, .unset] [(.ref b1)])) (fun t9 k9 => XS.aload X7.here hx rfl (hb hby at_55) rfl rfl k9) ?_
  refine own_st (T' := T7) (g' := (mkF m 58 #[.val (.int p1), .val (.int p2), .val (.int p3), .val (.int p4), .val (.int p5), .val (.int p6), .val (.int ln), .val (.int (Int32.ofNat (cn + 1))), .val (.ref b1), .unset, .unset, .unset] [(.int (3 : Int32)), (.ref b1)])) (fun t9 k9 => XS.iconst X7.here hx rfl (hb hby at_57) k9) ?_
  refine own_st (T' := T7) (g' := (mkF m 60 #[.val (.int p1), .val (.int p2), .val (.int p3), .val (.int p4), .val (.int p5), .val (.int p6), .val (.int ln), .val (.int (Int32.ofNat (cn + 1))), .val (.ref b1), .unset, .unset, .unset] [(.int p6), (.int (3 : Int32)), (.ref b1)])) (fun t9 k9 => XS.iload X7.here hx rfl (hb hby at_58) rfl k9) ?_
  refine own_st (T' := T7) (g' := (mkF m 62 #[.val (.int p1), .val (.int p2), .val (.int p3), .val (.int p4), .val (.int p5), .val (.int p6), .val (.int ln), .val (.int (Int32.ofNat (cn + 1))), .val (.ref b1), .unset, .unset, .unset] [(.int (2147483647 : Int32)), (.int p6), (.int (3 : Int32)), (.ref b1)])) (fun t9 k9 => X7.ldcInt hx hown (mvT hZ (hw _ (List.mem_of_getElem? (i := 1) rfl))) (g := (mkF m 60 #[.val (.int p1), .val (.int p2), .val (.int p3), .val (.int p4), .val (.int p5), .val (.int p6), .val (.int ln), .val (.int (Int32.ofNat (cn + 1))), .val (.ref b1), .unset, .unset, .unset] [(.int p6), (.int (3 : Int32)), (.ref b1)])) rfl (hb hby at_60) t9 k9) ?_
  refine own_st (T' := T7) (g' := (mkF m 63 #[.val (.int p1), .val (.int p2), .val (.int p3), .val (.int p4), .val (.int p5), .val (.int p6), .val (.int ln), .val (.int (Int32.ofNat (cn + 1))), .val (.ref b1), .unset, .unset, .unset] [(.int (p6 &&& (2147483647 : Int32))), (.int (3 : Int32)), (.ref b1)])) (fun t9 k9 => XS.iand X7.here hx rfl (hb hby at_62) rfl k9) ?_
  refine own_st (T' := T7) (g' := (mkF m 65 #[.val (.int p1), .val (.int p2), .val (.int p3), .val (.int p4), .val (.int p5), .val (.int p6), .val (.int ln), .val (.int (Int32.ofNat (cn + 1))), .val (.ref b1), .unset, .unset, .unset] [(.int (Int32.ofNat (cn + 1))), (.int (p6 &&& (2147483647 : Int32))), (.int (3 : Int32)), (.ref b1)])) (fun t9 k9 => XS.iload X7.here hx rfl (hb hby at_63) rfl k9) ?_
  refine own_st (T' := T7) (g' := (mkF m 66 #[.val (.int p1), .val (.int p2), .val (.int p3), .val (.int p4), .val (.int p5), .val (.int p6), .val (.int ln), .val (.int (Int32.ofNat (cn + 1))), .val (.ref b1), .unset, .unset, .unset] [(.int ((p6 &&& (2147483647 : Int32)) % (Int32.ofNat (cn + 1)))), (.int (3 : Int32)), (.ref b1)])) (fun t9 k9 => iremM X7 hx (g := (mkF m 65 #[.val (.int p1), .val (.int p2), .val (.int p3), .val (.int p4), .val (.int p5), .val (.int p6), .val (.int ln), .val (.int (Int32.ofNat (cn + 1))), .val (.ref b1), .unset, .unset, .unset] [(.int (Int32.ofNat (cn + 1))), (.int (p6 &&& (2147483647 : Int32))), (.int (3 : Int32)), (.ref b1)])) rfl (hb hby at_65) rfl hcz k9) ?_
  rw [ex3]
  obtain ⟨clu8, Aru8, qu8, Su8, Nu8, Hu8, Gu8⟩ := (id Va7)
  obtain ⟨T9, h9, X9, e9, W9, st9⟩ := stI X7 hx hZ e7 Aru8 (j := (3 : Int32)) (inb_of Su8 ⟨by decide, by decide⟩) (g := (mkF m 66 #[.val (.int p1), .val (.int p2), .val (.int p3), .val (.int p4), .val (.int p5), .val (.int p6), .val (.int ln), .val (.int (Int32.ofNat (cn + 1))), .val (.ref b1), .unset, .unset, .unset] [(.int (Int32.ofNat x3)), (.int (3 : Int32)), (.ref b1)])) rfl rfl (hb hby at_66)
  have Va9 := Arv.set Aru8 qu8 Su8 Nu8 Hu8 Gu8 rfl W9 3 rfl (Nat.le_of_ble_eq_true rfl)
  have K9 := K7.wr W9 (Or.inr sz_b1)
  have N9 := Fr.snoc X9 N7 g_b1
  have Z9 : n0 ≤ h9.size := by rw [W9.size]; exact Z7
  refine own_st (T' := T9) (g' := (mkF m 67 #[.val (.int p1), .val (.int p2), .val (.int p3), .val (.int p4), .val (.int p5), .val (.int p6), .val (.int ln), .val (.int (Int32.ofNat (cn + 1))), .val (.ref b1), .unset, .unset, .unset] [])) (fun t9 k9 => st9 t9 k9) ?_
  have hrk : ∀ i, i < 4 → (own_rk x0 x1 x2 x3) i < cn + 1 := by
    intro i hi
    match i, hi with
    | 0, _ => exact hx0
    | 1, _ => exact hx1
    | 2, _ => exact hx2
    | 3, _ => exact hx3
  rcases own_len p1 with hl | hl | hl | hl | hl
  · obtain rfl : ln = (0 : Int32) := hln.trans hl
    show own_Go p e below F T9 (mkF m 67 #[.val (.int p1), .val (.int p2), .val (.int p3), .val (.int p4), .val (.int p5), .val (.int p6), .val (.int (0 : Int32)), .val (.int (Int32.ofNat (cn + 1))), .val (.ref b1), .unset, .unset, .unset] [])
    refine own_st (T' := T9) (g' := (mkF m 69 #[.val (.int p1), .val (.int p2), .val (.int p3), .val (.int p4), .val (.int p5), .val (.int p6), .val (.int (0 : Int32)), .val (.int (Int32.ofNat (cn + 1))), .val (.ref b1), .unset, .unset, .unset] [(.int (0 : Int32))])) (fun t9 k9 => XS.iload X9.here hx rfl (hb hby at_67) rfl k9) ?_
    obtain ⟨T10, h10, k10, X10, e10, Ex10, A10, st10⟩ := newP X9 hx hZ (hw _ (List.mem_of_getElem? (i := 0) rfl)) e9 (g := (mkF m 69 #[.val (.int p1), .val (.int p2), .val (.int p3), .val (.int p4), .val (.int p5), .val (.int p6), .val (.int (0 : Int32)), .val (.int (Int32.ofNat (cn + 1))), .val (.ref b1), .unset, .unset, .unset] [(.int (0 : Int32))])) rfl (hb hby at_69) rfl (by decide) (cap := 0) (by decide) (by decide) (by decide) (by decide)
    obtain ⟨b10, gb10⟩ : ∃ z, z = h9.size := ⟨_, rfl⟩
    have ne_b1_b10 : b1 ≠ b10 := own_ne gb10 Va9.lt
    have g_b10 : n0 ≤ b10 := gb10 ▸ Z9
    have sz_b10 : h0.size ≤ b10 := gb10 ▸ K9.1
    rw [← gb10] at A10 st10
    have Va9_11 := Va9.ext Ex10
    have K10 := K9.ext Ex10
    have Z10 : n0 ≤ h10.size := Nat.le_trans Z9 Ex10.1
    have V_b10 : Arv Z h10 b10 k10 .int (0 : Int32) [] (.int (0 : Int32)) := (Arv.new A10 (by decide)).pad (pad_rep [] (.int (0 : Int32)) 0)
    refine own_st (T' := T10) (g' := (mkF m 71 #[.val (.int p1), .val (.int p2), .val (.int p3), .val (.int p4), .val (.int p5), .val (.int p6), .val (.int (0 : Int32)), .val (.int (Int32.ofNat (cn + 1))), .val (.ref b1), .unset, .unset, .unset] [(.ref b10)])) (fun t9 k9 => st10 t9 k9) ?_
    refine own_st (T' := T10) (g' := (mkF m 73 #[.val (.int p1), .val (.int p2), .val (.int p3), .val (.int p4), .val (.int p5), .val (.int p6), .val (.int (0 : Int32)), .val (.int (Int32.ofNat (cn + 1))), .val (.ref b1), .val (.ref b10), .unset, .unset] [])) (fun t9 k9 => XS.astore X10.here hx rfl (hb hby at_71) rfl rfl (l' := #[.val (.int p1), .val (.int p2), .val (.int p3), .val (.int p4), .val (.int p5), .val (.int p6), .val (.int (0 : Int32)), .val (.int (Int32.ofNat (cn + 1))), .val (.ref b1), .val (.ref b10), .unset, .unset]) rfl k9) ?_
    refine own_st (T' := T10) (g' := (mkF m 75 #[.val (.int p1), .val (.int p2), .val (.int p3), .val (.int p4), .val (.int p5), .val (.int p6), .val (.int (0 : Int32)), .val (.int (Int32.ofNat (cn + 1))), .val (.ref b1), .val (.ref b10), .unset, .unset] [(.int (0 : Int32))])) (fun t9 k9 => XS.iload X10.here hx rfl (hb hby at_73) rfl k9) ?_
    refine own_st (T' := T10) (g' := (mkF m 86 #[.val (.int p1), .val (.int p2), .val (.int p3), .val (.int p4), .val (.int p5), .val (.int p6), .val (.int (0 : Int32)), .val (.int (Int32.ofNat (cn + 1))), .val (.ref b1), .val (.ref b10), .unset, .unset] [])) (fun t9 k9 => XS.ifYes X10.here hx rfl (pc0 := 75) (pc' := 86) rfl (hb hby at_75) rfl ((if0 _ _).trans (flt (by decide)).2.2.2) (by decide) (by decide) k9) ?_
    refine own_st (T' := T10) (g' := (mkF m 88 #[.val (.int p1), .val (.int p2), .val (.int p3), .val (.int p4), .val (.int p5), .val (.int p6), .val (.int (0 : Int32)), .val (.int (Int32.ofNat (cn + 1))), .val (.ref b1), .val (.ref b10), .unset, .unset] [(.int (0 : Int32))])) (fun t9 k9 => XS.iload X10.here hx rfl (hb hby at_86) rfl k9) ?_
    refine own_st (T' := T10) (g' := (mkF m 89 #[.val (.int p1), .val (.int p2), .val (.int p3), .val (.int p4), .val (.int p5), .val (.int p6), .val (.int (0 : Int32)), .val (.int (Int32.ofNat (cn + 1))), .val (.ref b1), .val (.ref b10), .unset, .unset] [(.int (1 : Int32)), (.int (0 : Int32))])) (fun t9 k9 => XS.iconst X10.here hx rfl (hb hby at_88) k9) ?_
    refine own_st (T' := T10) (g' := (mkF m 100 #[.val (.int p1), .val (.int p2), .val (.int p3), .val (.int p4), .val (.int p5), .val (.int p6), .val (.int (0 : Int32)), .val (.int (Int32.ofNat (cn + 1))), .val (.ref b1), .val (.ref b10), .unset, .unset] [])) (fun t9 k9 => XS.icmpYes X10.here hx rfl (pc0 := 89) (pc' := 100) rfl (hb hby at_89) rfl (flt (by decide)).2.2.2 (by decide) (by decide) k9) ?_
    refine own_st (T' := T10) (g' := (mkF m 102 #[.val (.int p1), .val (.int p2), .val (.int p3), .val (.int p4), .val (.int p5), .val (.int p6), .val (.int (0 : Int32)), .val (.int (Int32.ofNat (cn + 1))), .val (.ref b1), .val (.ref b10), .unset, .unset] [(.int (0 : Int32))])) (fun t9 k9 => XS.iload X10.here hx rfl (hb hby at_100) rfl k9) ?_
    refine own_st (T' := T10) (g' := (mkF m 103 #[.val (.int p1), .val (.int p2), .val (.int p3), .val (.int p4), .val (.int p5), .val (.int p6), .val (.int (0 : Int32)), .val (.int (Int32.ofNat (cn + 1))), .val (.ref b1), .val (.ref b10), .unset, .unset] [(.int (2 : Int32)), (.int (0 : Int32))])) (fun t9 k9 => XS.iconst X10.here hx rfl (hb hby at_102) k9) ?_
    refine own_st (T' := T10) (g' := (mkF m 114 #[.val (.int p1), .val (.int p2), .val (.int p3), .val (.int p4), .val (.int p5), .val (.int p6), .val (.int (0 : Int32)), .val (.int (Int32.ofNat (cn + 1))), .val (.ref b1), .val (.ref b10), .unset, .unset] [])) (fun t9 k9 => XS.icmpYes X10.here hx rfl (pc0 := 103) (pc' := 114) rfl (hb hby at_103) rfl (flt (by decide)).2.2.2 (by decide) (by decide) k9) ?_
    refine own_st (T' := T10) (g' := (mkF m 116 #[.val (.int p1), .val (.int p2), .val (.int p3), .val (.int p4), .val (.int p5), .val (.int p6), .val (.int (0 : Int32)), .val (.int (Int32.ofNat (cn + 1))), .val (.ref b1), .val (.ref b10), .unset, .unset] [(.int (0 : Int32))])) (fun t9 k9 => XS.iload X10.here hx rfl (hb hby at_114) rfl k9) ?_
    refine own_st (T' := T10) (g' := (mkF m 117 #[.val (.int p1), .val (.int p2), .val (.int p3), .val (.int p4), .val (.int p5), .val (.int p6), .val (.int (0 : Int32)), .val (.int (Int32.ofNat (cn + 1))), .val (.ref b1), .val (.ref b10), .unset, .unset] [(.int (3 : Int32)), (.int (0 : Int32))])) (fun t9 k9 => XS.iconst X10.here hx rfl (hb hby at_116) k9) ?_
    refine own_st (T' := T10) (g' := (mkF m 128 #[.val (.int p1), .val (.int p2), .val (.int p3), .val (.int p4), .val (.int p5), .val (.int p6), .val (.int (0 : Int32)), .val (.int (Int32.ofNat (cn + 1))), .val (.ref b1), .val (.ref b10), .unset, .unset] [])) (fun t9 k9 => XS.icmpYes X10.here hx rfl (pc0 := 117) (pc' := 128) rfl (hb hby at_117) rfl (flt (by decide)).2.2.2 (by decide) (by decide) k9) ?_
    refine own_st (T' := T10) (g' := (mkF m 130 #[.val (.int p1), .val (.int p2), .val (.int p3), .val (.int p4), .val (.int p5), .val (.int p6), .val (.int (0 : Int32)), .val (.int (Int32.ofNat (cn + 1))), .val (.ref b1), .val (.ref b10), .unset, .unset] [(.ref b10)])) (fun t9 k9 => XS.aload X10.here hx rfl (hb hby at_128) rfl rfl k9) ?_
    refine own_st (T' := T10) (g' := (mkF m 132 #[.val (.int p1), .val (.int p2), .val (.int p3), .val (.int p4), .val (.int p5), .val (.int p6), .val (.int (0 : Int32)), .val (.int (Int32.ofNat (cn + 1))), .val (.ref b1), .val (.ref b10), .unset, .unset] [(.int (Int32.ofNat (cn + 1))), (.ref b10)])) (fun t9 k9 => XS.iload X10.here hx rfl (hb hby at_130) rfl k9) ?_
    obtain ⟨_, _, ⟨T12, L12, k12, n12⟩, -, X12, ⟨Lc12, hQ12, l12, y12, z12⟩, st12⟩ := Jvm.LawKit.callS X10 hx (y := (⟨"com/example/shelfwright/shelfwright/checker/Orders", "ascending", "([II)[I"⟩ : MethodName)) hown (mvT hZ (hw _ (List.mem_of_getElem? (i := 2) rfl))) (mvT hZ (hw _ (List.mem_of_getElem? (i := 3) rfl))) (mvT hZ (hw _ (List.mem_of_getElem? (i := 4) rfl))) (mvT hZ (hw _ (List.mem_of_getElem? (i := 5) rfl))) (by decide) (own_back (W := 0) (rm1 l Z a0 hw b10 k10 _ (own_rk x0 x1 x2 x3) 0 (cn + 1) h10 n0 Z10 V_b10 ⟨rfl, fun j hj => absurd hj (Nat.not_lt_zero j)⟩ (by decide) (by omega) (fun i hi => hrk i (by omega))) hZ (hw _ (List.mem_of_getElem? (i := 5) rfl)) (hw _ (List.mem_of_getElem? (i := 4) rfl)) (by decide) (by decide)) (g := (mkF m 132 #[.val (.int p1), .val (.int p2), .val (.int p3), .val (.int p4), .val (.int p5), .val (.int p6), .val (.int (0 : Int32)), .val (.int (Int32.ofNat (cn + 1))), .val (.ref b1), .val (.ref b10), .unset, .unset] [(.int (Int32.ofNat (cn + 1))), (.ref b10)])) rfl (by rw [hml]; rfl) (argsL := [(.ref b10), (.int (Int32.ofNat (cn + 1)))]) (rest := []) (lenOf pd_0 rfl) rfl (by show 2 * 0 + _ ≤ _; exact Nat.le_of_eq rfl) (hb hby at_132) (fun _ _ => ⟨rfl, e10, (Nat.le_of_ble_eq_true rfl), (Nat.le_of_ble_eq_true rfl)⟩)
    dsimp only [Pt.U, Pt.locs, Pt.cells, Pt.slots] at X12 l12 y12 z12 st12 hQ12
    subst l12 y12 z12
    obtain ⟨b12, kb12, vb12, rfl, Nq12, Kq12, Vq12, hO12⟩ := hQ12
    have N12 := Fr.app N9 Nq12
    obtain ⟨h12, e12⟩ : ∃ z, T12.heap = z := ⟨_, rfl⟩
    rw [e12] at Kq12 Vq12
    have Va9_13 := Va9_11.keep Kq12 nin0
    have V_b10_14 := V_b10.keep Kq12 nin0
    have K12 := K10.trans Kq12 all0
    have Z12 : n0 ≤ h12.size := Nat.le_trans Z10 Kq12.1
    refine own_st (T' := T12) (g' := (mkF m 135 #[.val (.int p1), .val (.int p2), .val (.int p3), .val (.int p4), .val (.int p5), .val (.int p6), .val (.int (0 : Int32)), .val (.int (Int32.ofNat (cn + 1))), .val (.ref b1), .val (.ref b10), .unset, .unset] [(.ref b12)])) (fun t9 k9 => st12 t9 k9) ?_
    refine own_st (T' := T12) (g' := (mkF m 137 #[.val (.int p1), .val (.int p2), .val (.int p3), .val (.int p4), .val (.int p5), .val (.int p6), .val (.int (0 : Int32)), .val (.int (Int32.ofNat (cn + 1))), .val (.ref b1), .val (.ref b10), .val (.ref b12), .unset] [])) (fun t9 k9 => XS.astore X12.here hx rfl (hb hby at_135) rfl rfl (l' := #[.val (.int p1), .val (.int p2), .val (.int p3), .val (.int p4), .val (.int p5), .val (.int p6), .val (.int (0 : Int32)), .val (.int (Int32.ofNat (cn + 1))), .val (.ref b1), .val (.ref b10), .val (.ref b12), .unset]) rfl k9) ?_
    refine own_st (T' := T12) (g' := (mkF m 139 #[.val (.int p1), .val (.int p2), .val (.int p3), .val (.int p4), .val (.int p5), .val (.int p6), .val (.int (0 : Int32)), .val (.int (Int32.ofNat (cn + 1))), .val (.ref b1), .val (.ref b10), .val (.ref b12), .unset] [(.ref b12)])) (fun t9 k9 => XS.aload X12.here hx rfl (hb hby at_137) rfl rfl k9) ?_
    refine own_st (T' := T12) (g' := (mkF m 142 #[.val (.int p1), .val (.int p2), .val (.int p3), .val (.int p4), .val (.int p5), .val (.int p6), .val (.int (0 : Int32)), .val (.int (Int32.ofNat (cn + 1))), .val (.ref b1), .val (.ref b10), .val (.ref b12), .unset] [])) (fun t9 k9 => XS.ifnullNo X12.here hx rfl (hb hby at_139) rfl k9) ?_
    refine own_st (T' := T12) (g' := (mkF m 144 #[.val (.int p1), .val (.int p2), .val (.int p3), .val (.int p4), .val (.int p5), .val (.int p6), .val (.int (0 : Int32)), .val (.int (Int32.ofNat (cn + 1))), .val (.ref b1), .val (.ref b10), .val (.ref b12), .unset] [(.ref b12)])) (fun t9 k9 => XS.aload X12.here hx rfl (hb hby at_142) rfl rfl k9) ?_
    obtain ⟨clu15, Aru15, qu15, Su15, Nu15, Hu15, Gu15⟩ := (id Vq12)
    refine own_st (T' := T12) (g' := (mkF m 145 #[.val (.int p1), .val (.int p2), .val (.int p3), .val (.int p4), .val (.int p5), .val (.int p6), .val (.int (0 : Int32)), .val (.int (Int32.ofNat (cn + 1))), .val (.ref b1), .val (.ref b10), .val (.ref b12), .unset] [(.int (0 : Int32))])) (fun t9 k9 => X12.arraylength hx (by rw [e12]; exact Aru15.1) (State.isArrayOf_alike hZ.alike Aru15.2.1) (g := (mkF m 144 #[.val (.int p1), .val (.int p2), .val (.int p3), .val (.int p4), .val (.int p5), .val (.int p6), .val (.int (0 : Int32)), .val (.int (Int32.ofNat (cn + 1))), .val (.ref b1), .val (.ref b10), .val (.ref b12), .unset] [(.ref b12)])) rfl rfl (hb hby at_144) t9 (by rw [len_of Su15 Nu15]; exact k9)) ?_
    refine own_st (T' := T12) (g' := (mkF m 147 #[.val (.int p1), .val (.int p2), .val (.int p3), .val (.int p4), .val (.int p5), .val (.int p6), .val (.int (0 : Int32)), .val (.int (Int32.ofNat (cn + 1))), .val (.ref b1), .val (.ref b10), .val (.ref b12), .unset] [(.int (0 : Int32)), (.int (0 : Int32))])) (fun t9 k9 => XS.iload X12.here hx rfl (hb hby at_145) rfl k9) ?_
    refine own_st (T' := T12) (g' := (mkF m 152 #[.val (.int p1), .val (.int p2), .val (.int p3), .val (.int p4), .val (.int p5), .val (.int p6), .val (.int (0 : Int32)), .val (.int (Int32.ofNat (cn + 1))), .val (.ref b1), .val (.ref b10), .val (.ref b12), .unset] [])) (fun t9 k9 => XS.icmpYes X12.here hx rfl (pc0 := 147) (pc' := 152) rfl (hb hby at_147) rfl (teq rfl).1 (by decide) (by decide) k9) ?_
    refine own_st (T' := T12) (g' := (mkF m 153 #[.val (.int p1), .val (.int p2), .val (.int p3), .val (.int p4), .val (.int p5), .val (.int p6), .val (.int (0 : Int32)), .val (.int (Int32.ofNat (cn + 1))), .val (.ref b1), .val (.ref b10), .val (.ref b12), .unset] [(.int (1 : Int32))])) (fun t9 k9 => XS.iconst X12.here hx rfl (hb hby at_152) k9) ?_
    refine own_st (T' := T12) (g' := (mkF m 155 #[.val (.int p1), .val (.int p2), .val (.int p3), .val (.int p4), .val (.int p5), .val (.int p6), .val (.int (0 : Int32)), .val (.int (Int32.ofNat (cn + 1))), .val (.ref b1), .val (.ref b10), .val (.ref b12), .val (.int (1 : Int32))] [])) (fun t9 k9 => XS.istore X12.here hx rfl (hb hby at_153) rfl (l' := #[.val (.int p1), .val (.int p2), .val (.int p3), .val (.int p4), .val (.int p5), .val (.int p6), .val (.int (0 : Int32)), .val (.int (Int32.ofNat (cn + 1))), .val (.ref b1), .val (.ref b10), .val (.ref b12), .val (.int (1 : Int32))]) rfl k9) ?_
    refine own_st (T' := T12) (g' := (mkF m 157 #[.val (.int p1), .val (.int p2), .val (.int p3), .val (.int p4), .val (.int p5), .val (.int p6), .val (.int (0 : Int32)), .val (.int (Int32.ofNat (cn + 1))), .val (.ref b1), .val (.ref b10), .val (.ref b12), .val (.int (1 : Int32))] [(.int (0 : Int32))])) (fun t9 k9 => XS.iload X12.here hx rfl (hb hby at_155) rfl k9) ?_
    refine own_st (T' := T12) (g' := (mkF m 186 #[.val (.int p1), .val (.int p2), .val (.int p3), .val (.int p4), .val (.int p5), .val (.int p6), .val (.int (0 : Int32)), .val (.int (Int32.ofNat (cn + 1))), .val (.ref b1), .val (.ref b10), .val (.ref b12), .val (.int (1 : Int32))] [])) (fun t9 k9 => XS.ifYes X12.here hx rfl (pc0 := 157) (pc' := 186) rfl (hb hby at_157) rfl ((if0 _ _).trans (flt (by decide)).2.2.2) (by decide) (by decide) k9) ?_
    refine own_st (T' := T12) (g' := (mkF m 188 #[.val (.int p1), .val (.int p2), .val (.int p3), .val (.int p4), .val (.int p5), .val (.int p6), .val (.int (0 : Int32)), .val (.int (Int32.ofNat (cn + 1))), .val (.ref b1), .val (.ref b10), .val (.ref b12), .val (.int (1 : Int32))] [(.int (0 : Int32))])) (fun t9 k9 => XS.iload X12.here hx rfl (hb hby at_186) rfl k9) ?_
    refine own_st (T' := T12) (g' := (mkF m 189 #[.val (.int p1), .val (.int p2), .val (.int p3), .val (.int p4), .val (.int p5), .val (.int p6), .val (.int (0 : Int32)), .val (.int (Int32.ofNat (cn + 1))), .val (.ref b1), .val (.ref b10), .val (.ref b12), .val (.int (1 : Int32))] [(.int (1 : Int32)), (.int (0 : Int32))])) (fun t9 k9 => XS.iconst X12.here hx rfl (hb hby at_188) k9) ?_
    refine own_st (T' := T12) (g' := (mkF m 219 #[.val (.int p1), .val (.int p2), .val (.int p3), .val (.int p4), .val (.int p5), .val (.int p6), .val (.int (0 : Int32)), .val (.int (Int32.ofNat (cn + 1))), .val (.ref b1), .val (.ref b10), .val (.ref b12), .val (.int (1 : Int32))] [])) (fun t9 k9 => XS.icmpYes X12.here hx rfl (pc0 := 189) (pc' := 219) rfl (hb hby at_189) rfl (flt (by decide)).2.2.2 (by decide) (by decide) k9) ?_
    refine own_st (T' := T12) (g' := (mkF m 221 #[.val (.int p1), .val (.int p2), .val (.int p3), .val (.int p4), .val (.int p5), .val (.int p6), .val (.int (0 : Int32)), .val (.int (Int32.ofNat (cn + 1))), .val (.ref b1), .val (.ref b10), .val (.ref b12), .val (.int (1 : Int32))] [(.int (0 : Int32))])) (fun t9 k9 => XS.iload X12.here hx rfl (hb hby at_219) rfl k9) ?_
    refine own_st (T' := T12) (g' := (mkF m 222 #[.val (.int p1), .val (.int p2), .val (.int p3), .val (.int p4), .val (.int p5), .val (.int p6), .val (.int (0 : Int32)), .val (.int (Int32.ofNat (cn + 1))), .val (.ref b1), .val (.ref b10), .val (.ref b12), .val (.int (1 : Int32))] [(.int (2 : Int32)), (.int (0 : Int32))])) (fun t9 k9 => XS.iconst X12.here hx rfl (hb hby at_221) k9) ?_
    refine own_st (T' := T12) (g' := (mkF m 252 #[.val (.int p1), .val (.int p2), .val (.int p3), .val (.int p4), .val (.int p5), .val (.int p6), .val (.int (0 : Int32)), .val (.int (Int32.ofNat (cn + 1))), .val (.ref b1), .val (.ref b10), .val (.ref b12), .val (.int (1 : Int32))] [])) (fun t9 k9 => XS.icmpYes X12.here hx rfl (pc0 := 222) (pc' := 252) rfl (hb hby at_222) rfl (flt (by decide)).2.2.2 (by decide) (by decide) k9) ?_
    refine own_st (T' := T12) (g' := (mkF m 254 #[.val (.int p1), .val (.int p2), .val (.int p3), .val (.int p4), .val (.int p5), .val (.int p6), .val (.int (0 : Int32)), .val (.int (Int32.ofNat (cn + 1))), .val (.ref b1), .val (.ref b10), .val (.ref b12), .val (.int (1 : Int32))] [(.int (0 : Int32))])) (fun t9 k9 => XS.iload X12.here hx rfl (hb hby at_252) rfl k9) ?_
    refine own_st (T' := T12) (g' := (mkF m 255 #[.val (.int p1), .val (.int p2), .val (.int p3), .val (.int p4), .val (.int p5), .val (.int p6), .val (.int (0 : Int32)), .val (.int (Int32.ofNat (cn + 1))), .val (.ref b1), .val (.ref b10), .val (.ref b12), .val (.int (1 : Int32))] [(.int (3 : Int32)), (.int (0 : Int32))])) (fun t9 k9 => XS.iconst X12.here hx rfl (hb hby at_254) k9) ?_
    refine own_st (T' := T12) (g' := (mkF m 285 #[.val (.int p1), .val (.int p2), .val (.int p3), .val (.int p4), .val (.int p5), .val (.int p6), .val (.int (0 : Int32)), .val (.int (Int32.ofNat (cn + 1))), .val (.ref b1), .val (.ref b10), .val (.ref b12), .val (.int (1 : Int32))] [])) (fun t9 k9 => XS.icmpYes X12.here hx rfl (pc0 := 255) (pc' := 285) rfl (hb hby at_255) rfl (flt (by decide)).2.2.2 (by decide) (by decide) k9) ?_
    refine own_st (T' := T12) (g' := (mkF m 287 #[.val (.int p1), .val (.int p2), .val (.int p3), .val (.int p4), .val (.int p5), .val (.int p6), .val (.int (0 : Int32)), .val (.int (Int32.ofNat (cn + 1))), .val (.ref b1), .val (.ref b10), .val (.ref b12), .val (.int (1 : Int32))] [(.int (1 : Int32))])) (fun t9 k9 => XS.iload X12.here hx rfl (hb hby at_285) rfl k9) ?_
    refine own_ret (v := some (.int (1 : Int32))) hF X12 (own_some hret) hlk (fun fs hr => retN X12 hx (t := .boolean) hret (by simp) (hb hby at_287) hr) ?_ (by decide) (by decide)
    try rw [e12]
    exact ⟨rfl, N12⟩
  · obtain rfl : ln = (1 : Int32) := hln.trans hl
    show own_Go p e below F T9 (mkF m 67 #[.val (.int p1), .val (.int p2), .val (.int p3), .val (.int p4), .val (.int p5), .val (.int p6), .val (.int (1 : Int32)), .val (.int (Int32.ofNat (cn + 1))), .val (.ref b1), .unset, .unset, .unset] [])
    refine own_st (T' := T9) (g' := (mkF m 69 #[.val (.int p1), .val (.int p2), .val (.int p3), .val (.int p4), .val (.int p5), .val (.int p6), .val (.int (1 : Int32)), .val (.int (Int32.ofNat (cn + 1))), .val (.ref b1), .unset, .unset, .unset] [(.int (1 : Int32))])) (fun t9 k9 => XS.iload X9.here hx rfl (hb hby at_67) rfl k9) ?_
    obtain ⟨T16, h16, k16, X16, e16, Ex16, A16, st16⟩ := newP X9 hx hZ (hw _ (List.mem_of_getElem? (i := 0) rfl)) e9 (g := (mkF m 69 #[.val (.int p1), .val (.int p2), .val (.int p3), .val (.int p4), .val (.int p5), .val (.int p6), .val (.int (1 : Int32)), .val (.int (Int32.ofNat (cn + 1))), .val (.ref b1), .unset, .unset, .unset] [(.int (1 : Int32))])) rfl (hb hby at_69) rfl (by decide) (cap := 1) (by decide) (by decide) (by decide) (by decide)
    obtain ⟨b16, gb16⟩ : ∃ z, z = h9.size := ⟨_, rfl⟩
    have ne_b1_b16 : b1 ≠ b16 := own_ne gb16 Va9.lt
    have g_b16 : n0 ≤ b16 := gb16 ▸ Z9
    have sz_b16 : h0.size ≤ b16 := gb16 ▸ K9.1
    rw [← gb16] at A16 st16
    have Va9_17 := Va9.ext Ex16
    have K16 := K9.ext Ex16
    have Z16 : n0 ≤ h16.size := Nat.le_trans Z9 Ex16.1
    have V_b16 : Arv Z h16 b16 k16 .int (1 : Int32) [(.int (0 : Int32))] (.int (0 : Int32)) := (Arv.new A16 (by decide)).pad (pad_rep [] (.int (0 : Int32)) 1)
    refine own_st (T' := T16) (g' := (mkF m 71 #[.val (.int p1), .val (.int p2), .val (.int p3), .val (.int p4), .val (.int p5), .val (.int p6), .val (.int (1 : Int32)), .val (.int (Int32.ofNat (cn + 1))), .val (.ref b1), .unset, .unset, .unset] [(.ref b16)])) (fun t9 k9 => st16 t9 k9) ?_
    refine own_st (T' := T16) (g' := (mkF m 73 #[.val (.int p1), .val (.int p2), .val (.int p3), .val (.int p4), .val (.int p5), .val (.int p6), .val (.int (1 : Int32)), .val (.int (Int32.ofNat (cn + 1))), .val (.ref b1), .val (.ref b16), .unset, .unset] [])) (fun t9 k9 => XS.astore X16.here hx rfl (hb hby at_71) rfl rfl (l' := #[.val (.int p1), .val (.int p2), .val (.int p3), .val (.int p4), .val (.int p5), .val (.int p6), .val (.int (1 : Int32)), .val (.int (Int32.ofNat (cn + 1))), .val (.ref b1), .val (.ref b16), .unset, .unset]) rfl k9) ?_
    refine own_st (T' := T16) (g' := (mkF m 75 #[.val (.int p1), .val (.int p2), .val (.int p3), .val (.int p4), .val (.int p5), .val (.int p6), .val (.int (1 : Int32)), .val (.int (Int32.ofNat (cn + 1))), .val (.ref b1), .val (.ref b16), .unset, .unset] [(.int (1 : Int32))])) (fun t9 k9 => XS.iload X16.here hx rfl (hb hby at_73) rfl k9) ?_
    refine own_st (T' := T16) (g' := (mkF m 78 #[.val (.int p1), .val (.int p2), .val (.int p3), .val (.int p4), .val (.int p5), .val (.int p6), .val (.int (1 : Int32)), .val (.int (Int32.ofNat (cn + 1))), .val (.ref b1), .val (.ref b16), .unset, .unset] [])) (fun t9 k9 => XS.ifNo X16.here hx rfl (hb hby at_75) rfl ((if0 _ _).trans (tlt (by decide)).2.2.2) k9) ?_
    refine own_st (T' := T16) (g' := (mkF m 80 #[.val (.int p1), .val (.int p2), .val (.int p3), .val (.int p4), .val (.int p5), .val (.int p6), .val (.int (1 : Int32)), .val (.int (Int32.ofNat (cn + 1))), .val (.ref b1), .val (.ref b16), .unset, .unset] [(.ref b16)])) (fun t9 k9 => XS.aload X16.here hx rfl (hb hby at_78) rfl rfl k9) ?_
    refine own_st (T' := T16) (g' := (mkF m 81 #[.val (.int p1), .val (.int p2), .val (.int p3), .val (.int p4), .val (.int p5), .val (.int p6), .val (.int (1 : Int32)), .val (.int (Int32.ofNat (cn + 1))), .val (.ref b1), .val (.ref b16), .unset, .unset] [(.int (0 : Int32)), (.ref b16)])) (fun t9 k9 => XS.iconst X16.here hx rfl (hb hby at_80) k9) ?_
    refine own_st (T' := T16) (g' := (mkF m 83 #[.val (.int p1), .val (.int p2), .val (.int p3), .val (.int p4), .val (.int p5), .val (.int p6), .val (.int (1 : Int32)), .val (.int (Int32.ofNat (cn + 1))), .val (.ref b1), .val (.ref b16), .unset, .unset] [(.ref b1), (.int (0 : Int32)), (.ref b16)])) (fun t9 k9 => XS.aload X16.here hx rfl (hb hby at_81) rfl rfl k9) ?_
    refine own_st (T' := T16) (g' := (mkF m 84 #[.val (.int p1), .val (.int p2), .val (.int p3), .val (.int p4), .val (.int p5), .val (.int p6), .val (.int (1 : Int32)), .val (.int (Int32.ofNat (cn + 1))), .val (.ref b1), .val (.ref b16), .unset, .unset] [(.int (0 : Int32)), (.ref b1), (.int (0 : Int32)), (.ref b16)])) (fun t9 k9 => XS.iconst X16.here hx rfl (hb hby at_83) k9) ?_
    obtain ⟨clu18, Aru18, qu18, Su18, Nu18, Hu18, Gu18⟩ := (id Va9_17)
    have hinu18 := inb_of Su18 (j := (0 : Int32)) ⟨by decide, by decide⟩
    refine own_st (T' := T16) (g' := (mkF m 85 #[.val (.int p1), .val (.int p2), .val (.int p3), .val (.int p4), .val (.int p5), .val (.int p6), .val (.int (1 : Int32)), .val (.int (Int32.ofNat (cn + 1))), .val (.ref b1), .val (.ref b16), .unset, .unset] [(.int (Int32.ofNat x0)), (.int (0 : Int32)), (.ref b16)])) (fun t9 k9 => X16.iaload hx (j := (0 : Int32)) (v := (.int (Int32.ofNat x0))) (by rw [e16]; exact Aru18.1) (State.isArrayOf_alike hZ.alike Aru18.2.1) Aru18.2.2 hinu18 (Hu18.at hinu18 rfl) (g := (mkF m 84 #[.val (.int p1), .val (.int p2), .val (.int p3), .val (.int p4), .val (.int p5), .val (.int p6), .val (.int (1 : Int32)), .val (.int (Int32.ofNat (cn + 1))), .val (.ref b1), .val (.ref b16), .unset, .unset] [(.int (0 : Int32)), (.ref b1), (.int (0 : Int32)), (.ref b16)])) rfl rfl (hb hby at_84) t9 k9) ?_
    obtain ⟨clu19, Aru19, qu19, Su19, Nu19, Hu19, Gu19⟩ := (id V_b16)
    obtain ⟨T20, h20, X20, e20, W20, st20⟩ := stI X16 hx hZ e16 Aru19 (j := (0 : Int32)) (inb_of Su19 ⟨by decide, by decide⟩) (g := (mkF m 85 #[.val (.int p1), .val (.int p2), .val (.int p3), .val (.int p4), .val (.int p5), .val (.int p6), .val (.int (1 : Int32)), .val (.int (Int32.ofNat (cn + 1))), .val (.ref b1), .val (.ref b16), .unset, .unset] [(.int (Int32.ofNat x0)), (.int (0 : Int32)), (.ref b16)])) rfl rfl (hb hby at_85)
    have Va20 := Arv.set Aru19 qu19 Su19 Nu19 Hu19 Gu19 rfl W20 0 rfl (Nat.le_of_ble_eq_true rfl)
    have Va9_21 := Va9_17.other W20 ne_b1_b16
    have K20 := K16.wr W20 (Or.inr sz_b16)
    have N20 := Fr.snoc X20 N9 g_b16
    have Z20 : n0 ≤ h20.size := by rw [W20.size]; exact Z16
    refine own_st (T' := T20) (g' := (mkF m 86 #[.val (.int p1), .val (.int p2), .val (.int p3), .val (.int p4), .val (.int p5), .val (.int p6), .val (.int (1 : Int32)), .val (.int (Int32.ofNat (cn + 1))), .val (.ref b1), .val (.ref b16), .unset, .unset] [])) (fun t9 k9 => st20 t9 k9) ?_
    refine own_st (T' := T20) (g' := (mkF m 88 #[.val (.int p1), .val (.int p2), .val (.int p3), .val (.int p4), .val (.int p5), .val (.int p6), .val (.int (1 : Int32)), .val (.int (Int32.ofNat (cn + 1))), .val (.ref b1), .val (.ref b16), .unset, .unset] [(.int (1 : Int32))])) (fun t9 k9 => XS.iload X20.here hx rfl (hb hby at_86) rfl k9) ?_
    refine own_st (T' := T20) (g' := (mkF m 89 #[.val (.int p1), .val (.int p2), .val (.int p3), .val (.int p4), .val (.int p5), .val (.int p6), .val (.int (1 : Int32)), .val (.int (Int32.ofNat (cn + 1))), .val (.ref b1), .val (.ref b16), .unset, .unset] [(.int (1 : Int32)), (.int (1 : Int32))])) (fun t9 k9 => XS.iconst X20.here hx rfl (hb hby at_88) k9) ?_
    refine own_st (T' := T20) (g' := (mkF m 100 #[.val (.int p1), .val (.int p2), .val (.int p3), .val (.int p4), .val (.int p5), .val (.int p6), .val (.int (1 : Int32)), .val (.int (Int32.ofNat (cn + 1))), .val (.ref b1), .val (.ref b16), .unset, .unset] [])) (fun t9 k9 => XS.icmpYes X20.here hx rfl (pc0 := 89) (pc' := 100) rfl (hb hby at_89) rfl (flt (by decide)).2.2.2 (by decide) (by decide) k9) ?_
    refine own_st (T' := T20) (g' := (mkF m 102 #[.val (.int p1), .val (.int p2), .val (.int p3), .val (.int p4), .val (.int p5), .val (.int p6), .val (.int (1 : Int32)), .val (.int (Int32.ofNat (cn + 1))), .val (.ref b1), .val (.ref b16), .unset, .unset] [(.int (1 : Int32))])) (fun t9 k9 => XS.iload X20.here hx rfl (hb hby at_100) rfl k9) ?_
    refine own_st (T' := T20) (g' := (mkF m 103 #[.val (.int p1), .val (.int p2), .val (.int p3), .val (.int p4), .val (.int p5), .val (.int p6), .val (.int (1 : Int32)), .val (.int (Int32.ofNat (cn + 1))), .val (.ref b1), .val (.ref b16), .unset, .unset] [(.int (2 : Int32)), (.int (1 : Int32))])) (fun t9 k9 => XS.iconst X20.here hx rfl (hb hby at_102) k9) ?_
    refine own_st (T' := T20) (g' := (mkF m 114 #[.val (.int p1), .val (.int p2), .val (.int p3), .val (.int p4), .val (.int p5), .val (.int p6), .val (.int (1 : Int32)), .val (.int (Int32.ofNat (cn + 1))), .val (.ref b1), .val (.ref b16), .unset, .unset] [])) (fun t9 k9 => XS.icmpYes X20.here hx rfl (pc0 := 103) (pc' := 114) rfl (hb hby at_103) rfl (flt (by decide)).2.2.2 (by decide) (by decide) k9) ?_
    refine own_st (T' := T20) (g' := (mkF m 116 #[.val (.int p1), .val (.int p2), .val (.int p3), .val (.int p4), .val (.int p5), .val (.int p6), .val (.int (1 : Int32)), .val (.int (Int32.ofNat (cn + 1))), .val (.ref b1), .val (.ref b16), .unset, .unset] [(.int (1 : Int32))])) (fun t9 k9 => XS.iload X20.here hx rfl (hb hby at_114) rfl k9) ?_
    refine own_st (T' := T20) (g' := (mkF m 117 #[.val (.int p1), .val (.int p2), .val (.int p3), .val (.int p4), .val (.int p5), .val (.int p6), .val (.int (1 : Int32)), .val (.int (Int32.ofNat (cn + 1))), .val (.ref b1), .val (.ref b16), .unset, .unset] [(.int (3 : Int32)), (.int (1 : Int32))])) (fun t9 k9 => XS.iconst X20.here hx rfl (hb hby at_116) k9) ?_
    refine own_st (T' := T20) (g' := (mkF m 128 #[.val (.int p1), .val (.int p2), .val (.int p3), .val (.int p4), .val (.int p5), .val (.int p6), .val (.int (1 : Int32)), .val (.int (Int32.ofNat (cn + 1))), .val (.ref b1), .val (.ref b16), .unset, .unset] [])) (fun t9 k9 => XS.icmpYes X20.here hx rfl (pc0 := 117) (pc' := 128) rfl (hb hby at_117) rfl (flt (by decide)).2.2.2 (by decide) (by decide) k9) ?_
    refine own_st (T' := T20) (g' := (mkF m 130 #[.val (.int p1), .val (.int p2), .val (.int p3), .val (.int p4), .val (.int p5), .val (.int p6), .val (.int (1 : Int32)), .val (.int (Int32.ofNat (cn + 1))), .val (.ref b1), .val (.ref b16), .unset, .unset] [(.ref b16)])) (fun t9 k9 => XS.aload X20.here hx rfl (hb hby at_128) rfl rfl k9) ?_
    refine own_st (T' := T20) (g' := (mkF m 132 #[.val (.int p1), .val (.int p2), .val (.int p3), .val (.int p4), .val (.int p5), .val (.int p6), .val (.int (1 : Int32)), .val (.int (Int32.ofNat (cn + 1))), .val (.ref b1), .val (.ref b16), .unset, .unset] [(.int (Int32.ofNat (cn + 1))), (.ref b16)])) (fun t9 k9 => XS.iload X20.here hx rfl (hb hby at_130) rfl k9) ?_
    obtain ⟨_, _, ⟨T22, L22, k22, n22⟩, -, X22, ⟨Lc22, hQ22, l22, y22, z22⟩, st22⟩ := Jvm.LawKit.callS X20 hx (y := (⟨"com/example/shelfwright/shelfwright/checker/Orders", "ascending", "([II)[I"⟩ : MethodName)) hown (mvT hZ (hw _ (List.mem_of_getElem? (i := 2) rfl))) (mvT hZ (hw _ (List.mem_of_getElem? (i := 3) rfl))) (mvT hZ (hw _ (List.mem_of_getElem? (i := 4) rfl))) (mvT hZ (hw _ (List.mem_of_getElem? (i := 5) rfl))) (by decide) (own_back (W := 0) (rm1 l Z a0 hw b16 k16 _ (own_rk x0 x1 x2 x3) 1 (cn + 1) h20 n0 Z20 Va20 ⟨rfl, fun j hj => by
          match j, hj with
          | 0, _ => rfl⟩ (by decide) (by omega) (fun i hi => hrk i (by omega))) hZ (hw _ (List.mem_of_getElem? (i := 5) rfl)) (hw _ (List.mem_of_getElem? (i := 4) rfl)) (by decide) (by decide)) (g := (mkF m 132 #[.val (.int p1), .val (.int p2), .val (.int p3), .val (.int p4), .val (.int p5), .val (.int p6), .val (.int (1 : Int32)), .val (.int (Int32.ofNat (cn + 1))), .val (.ref b1), .val (.ref b16), .unset, .unset] [(.int (Int32.ofNat (cn + 1))), (.ref b16)])) rfl (by rw [hml]; rfl) (argsL := [(.ref b16), (.int (Int32.ofNat (cn + 1)))]) (rest := []) (lenOf pd_0 rfl) rfl (by show 2 * 0 + _ ≤ _; exact Nat.le_of_eq rfl) (hb hby at_132) (fun _ _ => ⟨rfl, e20, (Nat.le_of_ble_eq_true rfl), (Nat.le_of_ble_eq_true rfl)⟩)
    dsimp only [Pt.U, Pt.locs, Pt.cells, Pt.slots] at X22 l22 y22 z22 st22 hQ22
    subst l22 y22 z22
    obtain ⟨b22, kb22, vb22, rfl, Nq22, Kq22, Vq22, hO22⟩ := hQ22
    have N22 := Fr.app N20 Nq22
    obtain ⟨h22, e22⟩ : ∃ z, T22.heap = z := ⟨_, rfl⟩
    rw [e22] at Kq22 Vq22
    have Va9_23 := Va9_21.keep Kq22 nin0
    have Va20_24 := Va20.keep Kq22 nin0
    have K22 := K20.trans Kq22 all0
    have Z22 : n0 ≤ h22.size := Nat.le_trans Z20 Kq22.1
    refine own_st (T' := T22) (g' := (mkF m 135 #[.val (.int p1), .val (.int p2), .val (.int p3), .val (.int p4), .val (.int p5), .val (.int p6), .val (.int (1 : Int32)), .val (.int (Int32.ofNat (cn + 1))), .val (.ref b1), .val (.ref b16), .unset, .unset] [(.ref b22)])) (fun t9 k9 => st22 t9 k9) ?_
    refine own_st (T' := T22) (g' := (mkF m 137 #[.val (.int p1), .val (.int p2), .val (.int p3), .val (.int p4), .val (.int p5), .val (.int p6), .val (.int (1 : Int32)), .val (.int (Int32.ofNat (cn + 1))), .val (.ref b1), .val (.ref b16), .val (.ref b22), .unset] [])) (fun t9 k9 => XS.astore X22.here hx rfl (hb hby at_135) rfl rfl (l' := #[.val (.int p1), .val (.int p2), .val (.int p3), .val (.int p4), .val (.int p5), .val (.int p6), .val (.int (1 : Int32)), .val (.int (Int32.ofNat (cn + 1))), .val (.ref b1), .val (.ref b16), .val (.ref b22), .unset]) rfl k9) ?_
    refine own_st (T' := T22) (g' := (mkF m 139 #[.val (.int p1), .val (.int p2), .val (.int p3), .val (.int p4), .val (.int p5), .val (.int p6), .val (.int (1 : Int32)), .val (.int (Int32.ofNat (cn + 1))), .val (.ref b1), .val (.ref b16), .val (.ref b22), .unset] [(.ref b22)])) (fun t9 k9 => XS.aload X22.here hx rfl (hb hby at_137) rfl rfl k9) ?_
    refine own_st (T' := T22) (g' := (mkF m 142 #[.val (.int p1), .val (.int p2), .val (.int p3), .val (.int p4), .val (.int p5), .val (.int p6), .val (.int (1 : Int32)), .val (.int (Int32.ofNat (cn + 1))), .val (.ref b1), .val (.ref b16), .val (.ref b22), .unset] [])) (fun t9 k9 => XS.ifnullNo X22.here hx rfl (hb hby at_139) rfl k9) ?_
    refine own_st (T' := T22) (g' := (mkF m 144 #[.val (.int p1), .val (.int p2), .val (.int p3), .val (.int p4), .val (.int p5), .val (.int p6), .val (.int (1 : Int32)), .val (.int (Int32.ofNat (cn + 1))), .val (.ref b1), .val (.ref b16), .val (.ref b22), .unset] [(.ref b22)])) (fun t9 k9 => XS.aload X22.here hx rfl (hb hby at_142) rfl rfl k9) ?_
    obtain ⟨clu25, Aru25, qu25, Su25, Nu25, Hu25, Gu25⟩ := (id Vq22)
    refine own_st (T' := T22) (g' := (mkF m 145 #[.val (.int p1), .val (.int p2), .val (.int p3), .val (.int p4), .val (.int p5), .val (.int p6), .val (.int (1 : Int32)), .val (.int (Int32.ofNat (cn + 1))), .val (.ref b1), .val (.ref b16), .val (.ref b22), .unset] [(.int (1 : Int32))])) (fun t9 k9 => X22.arraylength hx (by rw [e22]; exact Aru25.1) (State.isArrayOf_alike hZ.alike Aru25.2.1) (g := (mkF m 144 #[.val (.int p1), .val (.int p2), .val (.int p3), .val (.int p4), .val (.int p5), .val (.int p6), .val (.int (1 : Int32)), .val (.int (Int32.ofNat (cn + 1))), .val (.ref b1), .val (.ref b16), .val (.ref b22), .unset] [(.ref b22)])) rfl rfl (hb hby at_144) t9 (by rw [len_of Su25 Nu25]; exact k9)) ?_
    refine own_st (T' := T22) (g' := (mkF m 147 #[.val (.int p1), .val (.int p2), .val (.int p3), .val (.int p4), .val (.int p5), .val (.int p6), .val (.int (1 : Int32)), .val (.int (Int32.ofNat (cn + 1))), .val (.ref b1), .val (.ref b16), .val (.ref b22), .unset] [(.int (1 : Int32)), (.int (1 : Int32))])) (fun t9 k9 => XS.iload X22.here hx rfl (hb hby at_145) rfl k9) ?_
    refine own_st (T' := T22) (g' := (mkF m 152 #[.val (.int p1), .val (.int p2), .val (.int p3), .val (.int p4), .val (.int p5), .val (.int p6), .val (.int (1 : Int32)), .val (.int (Int32.ofNat (cn + 1))), .val (.ref b1), .val (.ref b16), .val (.ref b22), .unset] [])) (fun t9 k9 => XS.icmpYes X22.here hx rfl (pc0 := 147) (pc' := 152) rfl (hb hby at_147) rfl (teq rfl).1 (by decide) (by decide) k9) ?_
    refine own_st (T' := T22) (g' := (mkF m 153 #[.val (.int p1), .val (.int p2), .val (.int p3), .val (.int p4), .val (.int p5), .val (.int p6), .val (.int (1 : Int32)), .val (.int (Int32.ofNat (cn + 1))), .val (.ref b1), .val (.ref b16), .val (.ref b22), .unset] [(.int (1 : Int32))])) (fun t9 k9 => XS.iconst X22.here hx rfl (hb hby at_152) k9) ?_
    refine own_st (T' := T22) (g' := (mkF m 155 #[.val (.int p1), .val (.int p2), .val (.int p3), .val (.int p4), .val (.int p5), .val (.int p6), .val (.int (1 : Int32)), .val (.int (Int32.ofNat (cn + 1))), .val (.ref b1), .val (.ref b16), .val (.ref b22), .val (.int (1 : Int32))] [])) (fun t9 k9 => XS.istore X22.here hx rfl (hb hby at_153) rfl (l' := #[.val (.int p1), .val (.int p2), .val (.int p3), .val (.int p4), .val (.int p5), .val (.int p6), .val (.int (1 : Int32)), .val (.int (Int32.ofNat (cn + 1))), .val (.ref b1), .val (.ref b16), .val (.ref b22), .val (.int (1 : Int32))]) rfl k9) ?_
    refine own_st (T' := T22) (g' := (mkF m 157 #[.val (.int p1), .val (.int p2), .val (.int p3), .val (.int p4), .val (.int p5), .val (.int p6), .val (.int (1 : Int32)), .val (.int (Int32.ofNat (cn + 1))), .val (.ref b1), .val (.ref b16), .val (.ref b22), .val (.int (1 : Int32))] [(.int (1 : Int32))])) (fun t9 k9 => XS.iload X22.here hx rfl (hb hby at_155) rfl k9) ?_
    refine own_st (T' := T22) (g' := (mkF m 160 #[.val (.int p1), .val (.int p2), .val (.int p3), .val (.int p4), .val (.int p5), .val (.int p6), .val (.int (1 : Int32)), .val (.int (Int32.ofNat (cn + 1))), .val (.ref b1), .val (.ref b16), .val (.ref b22), .val (.int (1 : Int32))] [])) (fun t9 k9 => XS.ifNo X22.here hx rfl (hb hby at_157) rfl ((if0 _ _).trans (tlt (by decide)).2.2.2) k9) ?_
    refine own_st (T' := T22) (g' := (mkF m 162 #[.val (.int p1), .val (.int p2), .val (.int p3), .val (.int p4), .val (.int p5), .val (.int p6), .val (.int (1 : Int32)), .val (.int (Int32.ofNat (cn + 1))), .val (.ref b1), .val (.ref b16), .val (.ref b22), .val (.int (1 : Int32))] [(.int (1 : Int32))])) (fun t9 k9 => XS.iload X22.here hx rfl (hb hby at_160) rfl k9) ?_
    refine own_st (T' := T22) (g' := (mkF m 165 #[.val (.int p1), .val (.int p2), .val (.int p3), .val (.int p4), .val (.int p5), .val (.int p6), .val (.int (1 : Int32)), .val (.int (Int32.ofNat (cn + 1))), .val (.ref b1), .val (.ref b16), .val (.ref b22), .val (.int (1 : Int32))] [])) (fun t9 k9 => XS.ifNo X22.here hx rfl (hb hby at_162) rfl ((if0 _ _).trans (feq (by decide)).1) k9) ?_
    refine own_st (T' := T22) (g' := (mkF m 167 #[.val (.int p1), .val (.int p2), .val (.int p3), .val (.int p4), .val (.int p5), .val (.int p6), .val (.int (1 : Int32)), .val (.int (Int32.ofNat (cn + 1))), .val (.ref b1), .val (.ref b16), .val (.ref b22), .val (.int (1 : Int32))] [(.ref b22)])) (fun t9 k9 => XS.aload X22.here hx rfl (hb hby at_165) rfl rfl k9) ?_
    refine own_st (T' := T22) (g' := (mkF m 169 #[.val (.int p1), .val (.int p2), .val (.int p3), .val (.int p4), .val (.int p5), .val (.int p6), .val (.int (1 : Int32)), .val (.int (Int32.ofNat (cn + 1))), .val (.ref b1), .val (.ref b16), .val (.ref b22), .val (.int (1 : Int32))] [(.ref b1), (.ref b22)])) (fun t9 k9 => XS.aload X22.here hx rfl (hb hby at_167) rfl rfl k9) ?_
    refine own_st (T' := T22) (g' := (mkF m 171 #[.val (.int p1), .val (.int p2), .val (.int p3), .val (.int p4), .val (.int p5), .val (.int p6), .val (.int (1 : Int32)), .val (.int (Int32.ofNat (cn + 1))), .val (.ref b1), .val (.ref b16), .val (.ref b22), .val (.int (1 : Int32))] [(.int (1 : Int32)), (.ref b1), (.ref b22)])) (fun t9 k9 => XS.iload X22.here hx rfl (hb hby at_169) rfl k9) ?_
    refine own_st (T' := T22) (g' := (mkF m 172 #[.val (.int p1), .val (.int p2), .val (.int p3), .val (.int p4), .val (.int p5), .val (.int p6), .val (.int (1 : Int32)), .val (.int (Int32.ofNat (cn + 1))), .val (.ref b1), .val (.ref b16), .val (.ref b22), .val (.int (1 : Int32))] [(.int (0 : Int32)), (.int (1 : Int32)), (.ref b1), (.ref b22)])) (fun t9 k9 => XS.iconst X22.here hx rfl (hb hby at_171) k9) ?_
    obtain ⟨_, _, ⟨T26, L26, k26, n26⟩, -, X26, ⟨Lc26, hQ26, l26, y26, z26⟩, st26⟩ := Jvm.LawKit.callS X22 hx (y := (⟨"com/example/shelfwright/shelfwright/checker/OrdersAscendingPinLaw", "pos", "([III)I"⟩ : MethodName)) hown (mvT hZ (hw _ (List.mem_of_getElem? (i := 6) rfl))) (mvT hZ (hw _ (List.mem_of_getElem? (i := 7) rfl))) (mvT hZ (hw _ (List.mem_of_getElem? (i := 8) rfl))) (mvT hZ (hw _ (List.mem_of_getElem? (i := 9) rfl))) (by decide) (own_back (W := 1) (rm2 l Z a0 hw b1 k1 _ (own_rk x0 x1 x2 x3) 1 0 h22 n0 Z22 Va9_23 ⟨rfl, fun j hj => by
          match j, hj with
          | 0, _ => rfl
          | 1, _ => rfl
          | 2, _ => rfl
          | 3, _ => rfl⟩ (fun i hi => Nat.le_trans (Nat.le_of_lt (hrk i hi)) (by omega)) (by decide) (by decide)) hZ (hw _ (List.mem_of_getElem? (i := 9) rfl)) (hw _ (List.mem_of_getElem? (i := 8) rfl)) (by decide) (by decide)) (g := (mkF m 172 #[.val (.int p1), .val (.int p2), .val (.int p3), .val (.int p4), .val (.int p5), .val (.int p6), .val (.int (1 : Int32)), .val (.int (Int32.ofNat (cn + 1))), .val (.ref b1), .val (.ref b16), .val (.ref b22), .val (.int (1 : Int32))] [(.int (0 : Int32)), (.int (1 : Int32)), (.ref b1), (.ref b22)])) rfl (by rw [hml]; rfl) (argsL := [(.ref b1), (.int (1 : Int32)), (.int (0 : Int32))]) (rest := [(.ref b22)]) (lenOf pd_1 rfl) rfl (by show 2 * 0 + _ ≤ _; exact Nat.le_of_eq rfl) (hb hby at_172) (fun _ _ => ⟨rfl, e22, (Nat.le_of_ble_eq_true rfl), (Nat.le_of_ble_eq_true rfl)⟩)
    dsimp only [Pt.U, Pt.locs, Pt.cells, Pt.slots] at X26 l26 y26 z26 st26 hQ26
    subst l26 y26 z26
    obtain ⟨rfl, Nq26, he26⟩ := hQ26
    have N26 := Fr.app N22 Nq26
    have e26 : T26.heap = h22 := he26
    refine own_st (T' := T26) (g' := (mkF m 175 #[.val (.int p1), .val (.int p2), .val (.int p3), .val (.int p4), .val (.int p5), .val (.int p6), .val (.int (1 : Int32)), .val (.int (Int32.ofNat (cn + 1))), .val (.ref b1), .val (.ref b16), .val (.ref b22), .val (.int (1 : Int32))] [(.int (Int32.ofNat (own_pos (own_rk x0 x1 x2 x3) 1 0))), (.ref b22)])) (fun t9 k9 => st26 t9 k9) ?_
    have hps0 := own_pos_lt (rk := (own_rk x0 x1 x2 x3)) (n := 1) (p := 0) (by decide)
    obtain ⟨s10, s20⟩ := own_nat (i := own_pos (own_rk x0 x1 x2 x3) 1 0) (by omega)
    obtain ⟨clu27, Aru27, qu27, Su27, Nu27, Hu27, Gu27⟩ := (id Vq22)
    have hinu27 := inb_of Su27 (j := (Int32.ofNat (own_pos (own_rk x0 x1 x2 x3) 1 0))) ⟨s20, own_lt (n := 1) hps0 (by omega)⟩
    refine own_st (T' := T26) (g' := (mkF m 176 #[.val (.int p1), .val (.int p2), .val (.int p3), .val (.int p4), .val (.int p5), .val (.int p6), .val (.int (1 : Int32)), .val (.int (Int32.ofNat (cn + 1))), .val (.ref b1), .val (.ref b16), .val (.ref b22), .val (.int (1 : Int32))] [(.int (0 : Int32))])) (fun t9 k9 => X26.iaload hx (j := (Int32.ofNat (own_pos (own_rk x0 x1 x2 x3) 1 0))) (v := (.int (0 : Int32))) (by rw [e26]; exact Aru27.1) (State.isArrayOf_alike hZ.alike Aru27.2.1) Aru27.2.2 hinu27 (Hu27.at hinu27 (by rw [s10]; exact hO22 0 (by decide))) (g := (mkF m 175 #[.val (.int p1), .val (.int p2), .val (.int p3), .val (.int p4), .val (.int p5), .val (.int p6), .val (.int (1 : Int32)), .val (.int (Int32.ofNat (cn + 1))), .val (.ref b1), .val (.ref b16), .val (.ref b22), .val (.int (1 : Int32))] [(.int (Int32.ofNat (own_pos (own_rk x0 x1 x2 x3) 1 0))), (.ref b22)])) rfl rfl (hb hby at_175) t9 k9) ?_
    refine own_st (T' := T26) (g' := (mkF m 179 #[.val (.int p1), .val (.int p2), .val (.int p3), .val (.int p4), .val (.int p5), .val (.int p6), .val (.int (1 : Int32)), .val (.int (Int32.ofNat (cn + 1))), .val (.ref b1), .val (.ref b16), .val (.ref b22), .val (.int (1 : Int32))] [])) (fun t9 k9 => XS.ifNo X26.here hx rfl (hb hby at_176) rfl ((if0 _ _).trans (teq rfl).2) k9) ?_
    refine own_st (T' := T26) (g' := (mkF m 180 #[.val (.int p1), .val (.int p2), .val (.int p3), .val (.int p4), .val (.int p5), .val (.int p6), .val (.int (1 : Int32)), .val (.int (Int32.ofNat (cn + 1))), .val (.ref b1), .val (.ref b16), .val (.ref b22), .val (.int (1 : Int32))] [(.int (1 : Int32))])) (fun t9 k9 => XS.iconst X26.here hx rfl (hb hby at_179) k9) ?_
    refine own_st (T' := T26) (g' := (mkF m 184 #[.val (.int p1), .val (.int p2), .val (.int p3), .val (.int p4), .val (.int p5), .val (.int p6), .val (.int (1 : Int32)), .val (.int (Int32.ofNat (cn + 1))), .val (.ref b1), .val (.ref b16), .val (.ref b22), .val (.int (1 : Int32))] [(.int (1 : Int32))])) (fun t9 k9 => XS.goto X26.here hx rfl (pc0 := 180) (pc' := 184) rfl (hb hby at_180) (by decide) (by decide) k9) ?_
    refine own_st (T' := T26) (g' := (mkF m 186 #[.val (.int p1), .val (.int p2), .val (.int p3), .val (.int p4), .val (.int p5), .val (.int p6), .val (.int (1 : Int32)), .val (.int (Int32.ofNat (cn + 1))), .val (.ref b1), .val (.ref b16), .val (.ref b22), .val (.int (1 : Int32))] [])) (fun t9 k9 => XS.istore X26.here hx rfl (hb hby at_184) rfl (l' := #[.val (.int p1), .val (.int p2), .val (.int p3), .val (.int p4), .val (.int p5), .val (.int p6), .val (.int (1 : Int32)), .val (.int (Int32.ofNat (cn + 1))), .val (.ref b1), .val (.ref b16), .val (.ref b22), .val (.int (1 : Int32))]) rfl k9) ?_
    refine own_st (T' := T26) (g' := (mkF m 188 #[.val (.int p1), .val (.int p2), .val (.int p3), .val (.int p4), .val (.int p5), .val (.int p6), .val (.int (1 : Int32)), .val (.int (Int32.ofNat (cn + 1))), .val (.ref b1), .val (.ref b16), .val (.ref b22), .val (.int (1 : Int32))] [(.int (1 : Int32))])) (fun t9 k9 => XS.iload X26.here hx rfl (hb hby at_186) rfl k9) ?_
    refine own_st (T' := T26) (g' := (mkF m 189 #[.val (.int p1), .val (.int p2), .val (.int p3), .val (.int p4), .val (.int p5), .val (.int p6), .val (.int (1 : Int32)), .val (.int (Int32.ofNat (cn + 1))), .val (.ref b1), .val (.ref b16), .val (.ref b22), .val (.int (1 : Int32))] [(.int (1 : Int32)), (.int (1 : Int32))])) (fun t9 k9 => XS.iconst X26.here hx rfl (hb hby at_188) k9) ?_
    refine own_st (T' := T26) (g' := (mkF m 219 #[.val (.int p1), .val (.int p2), .val (.int p3), .val (.int p4), .val (.int p5), .val (.int p6), .val (.int (1 : Int32)), .val (.int (Int32.ofNat (cn + 1))), .val (.ref b1), .val (.ref b16), .val (.ref b22), .val (.int (1 : Int32))] [])) (fun t9 k9 => XS.icmpYes X26.here hx rfl (pc0 := 189) (pc' := 219) rfl (hb hby at_189) rfl (flt (by decide)).2.2.2 (by decide) (by decide) k9) ?_
    refine own_st (T' := T26) (g' := (mkF m 221 #[.val (.int p1), .val (.int p2), .val (.int p3), .val (.int p4), .val (.int p5), .val (.int p6), .val (.int (1 : Int32)), .val (.int (Int32.ofNat (cn + 1))), .val (.ref b1), .val (.ref b16), .val (.ref b22), .val (.int (1 : Int32))] [(.int (1 : Int32))])) (fun t9 k9 => XS.iload X26.here hx rfl (hb hby at_219) rfl k9) ?_
    refine own_st (T' := T26) (g' := (mkF m 222 #[.val (.int p1), .val (.int p2), .val (.int p3), .val (.int p4), .val (.int p5), .val (.int p6), .val (.int (1 : Int32)), .val (.int (Int32.ofNat (cn + 1))), .val (.ref b1), .val (.ref b16), .val (.ref b22), .val (.int (1 : Int32))] [(.int (2 : Int32)), (.int (1 : Int32))])) (fun t9 k9 => XS.iconst X26.here hx rfl (hb hby at_221) k9) ?_
    refine own_st (T' := T26) (g' := (mkF m 252 #[.val (.int p1), .val (.int p2), .val (.int p3), .val (.int p4), .val (.int p5), .val (.int p6), .val (.int (1 : Int32)), .val (.int (Int32.ofNat (cn + 1))), .val (.ref b1), .val (.ref b16), .val (.ref b22), .val (.int (1 : Int32))] [])) (fun t9 k9 => XS.icmpYes X26.here hx rfl (pc0 := 222) (pc' := 252) rfl (hb hby at_222) rfl (flt (by decide)).2.2.2 (by decide) (by decide) k9) ?_
    refine own_st (T' := T26) (g' := (mkF m 254 #[.val (.int p1), .val (.int p2), .val (.int p3), .val (.int p4), .val (.int p5), .val (.int p6), .val (.int (1 : Int32)), .val (.int (Int32.ofNat (cn + 1))), .val (.ref b1), .val (.ref b16), .val (.ref b22), .val (.int (1 : Int32))] [(.int (1 : Int32))])) (fun t9 k9 => XS.iload X26.here hx rfl (hb hby at_252) rfl k9) ?_
    refine own_st (T' := T26) (g' := (mkF m 255 #[.val (.int p1), .val (.int p2), .val (.int p3), .val (.int p4), .val (.int p5), .val (.int p6), .val (.int (1 : Int32)), .val (.int (Int32.ofNat (cn + 1))), .val (.ref b1), .val (.ref b16), .val (.ref b22), .val (.int (1 : Int32))] [(.int (3 : Int32)), (.int (1 : Int32))])) (fun t9 k9 => XS.iconst X26.here hx rfl (hb hby at_254) k9) ?_
    refine own_st (T' := T26) (g' := (mkF m 285 #[.val (.int p1), .val (.int p2), .val (.int p3), .val (.int p4), .val (.int p5), .val (.int p6), .val (.int (1 : Int32)), .val (.int (Int32.ofNat (cn + 1))), .val (.ref b1), .val (.ref b16), .val (.ref b22), .val (.int (1 : Int32))] [])) (fun t9 k9 => XS.icmpYes X26.here hx rfl (pc0 := 255) (pc' := 285) rfl (hb hby at_255) rfl (flt (by decide)).2.2.2 (by decide) (by decide) k9) ?_
    refine own_st (T' := T26) (g' := (mkF m 287 #[.val (.int p1), .val (.int p2), .val (.int p3), .val (.int p4), .val (.int p5), .val (.int p6), .val (.int (1 : Int32)), .val (.int (Int32.ofNat (cn + 1))), .val (.ref b1), .val (.ref b16), .val (.ref b22), .val (.int (1 : Int32))] [(.int (1 : Int32))])) (fun t9 k9 => XS.iload X26.here hx rfl (hb hby at_285) rfl k9) ?_
    refine own_ret (v := some (.int (1 : Int32))) hF X26 (own_some hret) hlk (fun fs hr => retN X26 hx (t := .boolean) hret (by simp) (hb hby at_287) hr) ?_ (by decide) (by decide)
    try rw [e26]
    exact ⟨rfl, N26⟩
  · obtain rfl : ln = (2 : Int32) := hln.trans hl
    show own_Go p e below F T9 (mkF m 67 #[.val (.int p1), .val (.int p2), .val (.int p3), .val (.int p4), .val (.int p5), .val (.int p6), .val (.int (2 : Int32)), .val (.int (Int32.ofNat (cn + 1))), .val (.ref b1), .unset, .unset, .unset] [])
    refine own_st (T' := T9) (g' := (mkF m 69 #[.val (.int p1), .val (.int p2), .val (.int p3), .val (.int p4), .val (.int p5), .val (.int p6), .val (.int (2 : Int32)), .val (.int (Int32.ofNat (cn + 1))), .val (.ref b1), .unset, .unset, .unset] [(.int (2 : Int32))])) (fun t9 k9 => XS.iload X9.here hx rfl (hb hby at_67) rfl k9) ?_
    obtain ⟨T28, h28, k28, X28, e28, Ex28, A28, st28⟩ := newP X9 hx hZ (hw _ (List.mem_of_getElem? (i := 0) rfl)) e9 (g := (mkF m 69 #[.val (.int p1), .val (.int p2), .val (.int p3), .val (.int p4), .val (.int p5), .val (.int p6), .val (.int (2 : Int32)), .val (.int (Int32.ofNat (cn + 1))), .val (.ref b1), .unset, .unset, .unset] [(.int (2 : Int32))])) rfl (hb hby at_69) rfl (by decide) (cap := 2) (by decide) (by decide) (by decide) (by decide)
    obtain ⟨b28, gb28⟩ : ∃ z, z = h9.size := ⟨_, rfl⟩
    have ne_b1_b28 : b1 ≠ b28 := own_ne gb28 Va9.lt
    have g_b28 : n0 ≤ b28 := gb28 ▸ Z9
    have sz_b28 : h0.size ≤ b28 := gb28 ▸ K9.1
    rw [← gb28] at A28 st28
    have Va9_29 := Va9.ext Ex28
    have K28 := K9.ext Ex28
    have Z28 : n0 ≤ h28.size := Nat.le_trans Z9 Ex28.1
    have V_b28 : Arv Z h28 b28 k28 .int (2 : Int32) [(.int (0 : Int32)), (.int (0 : Int32))] (.int (0 : Int32)) := (Arv.new A28 (by decide)).pad (pad_rep [] (.int (0 : Int32)) 2)
    refine own_st (T' := T28) (g' := (mkF m 71 #[.val (.int p1), .val (.int p2), .val (.int p3), .val (.int p4), .val (.int p5), .val (.int p6), .val (.int (2 : Int32)), .val (.int (Int32.ofNat (cn + 1))), .val (.ref b1), .unset, .unset, .unset] [(.ref b28)])) (fun t9 k9 => st28 t9 k9) ?_
    refine own_st (T' := T28) (g' := (mkF m 73 #[.val (.int p1), .val (.int p2), .val (.int p3), .val (.int p4), .val (.int p5), .val (.int p6), .val (.int (2 : Int32)), .val (.int (Int32.ofNat (cn + 1))), .val (.ref b1), .val (.ref b28), .unset, .unset] [])) (fun t9 k9 => XS.astore X28.here hx rfl (hb hby at_71) rfl rfl (l' := #[.val (.int p1), .val (.int p2), .val (.int p3), .val (.int p4), .val (.int p5), .val (.int p6), .val (.int (2 : Int32)), .val (.int (Int32.ofNat (cn + 1))), .val (.ref b1), .val (.ref b28), .unset, .unset]) rfl k9) ?_
    refine own_st (T' := T28) (g' := (mkF m 75 #[.val (.int p1), .val (.int p2), .val (.int p3), .val (.int p4), .val (.int p5), .val (.int p6), .val (.int (2 : Int32)), .val (.int (Int32.ofNat (cn + 1))), .val (.ref b1), .val (.ref b28), .unset, .unset] [(.int (2 : Int32))])) (fun t9 k9 => XS.iload X28.here hx rfl (hb hby at_73) rfl k9) ?_
    refine own_st (T' := T28) (g' := (mkF m 78 #[.val (.int p1), .val (.int p2), .val (.int p3), .val (.int p4), .val (.int p5), .val (.int p6), .val (.int (2 : Int32)), .val (.int (Int32.ofNat (cn + 1))), .val (.ref b1), .val (.ref b28), .unset, .unset] [])) (fun t9 k9 => XS.ifNo X28.here hx rfl (hb hby at_75) rfl ((if0 _ _).trans (tlt (by decide)).2.2.2) k9) ?_
    refine own_st (T' := T28) (g' := (mkF m 80 #[.val (.int p1), .val (.int p2), .val (.int p3), .val (.int p4), .val (.int p5), .val (.int p6), .val (.int (2 : Int32)), .val (.int (Int32.ofNat (cn + 1))), .val (.ref b1), .val (.ref b28), .unset, .unset] [(.ref b28)])) (fun t9 k9 => XS.aload X28.here hx rfl (hb hby at_78) rfl rfl k9) ?_
    refine own_st (T' := T28) (g' := (mkF m 81 #[.val (.int p1), .val (.int p2), .val (.int p3), .val (.int p4), .val (.int p5), .val (.int p6), .val (.int (2 : Int32)), .val (.int (Int32.ofNat (cn + 1))), .val (.ref b1), .val (.ref b28), .unset, .unset] [(.int (0 : Int32)), (.ref b28)])) (fun t9 k9 => XS.iconst X28.here hx rfl (hb hby at_80) k9) ?_
    refine own_st (T' := T28) (g' := (mkF m 83 #[.val (.int p1), .val (.int p2), .val (.int p3), .val (.int p4), .val (.int p5), .val (.int p6), .val (.int (2 : Int32)), .val (.int (Int32.ofNat (cn + 1))), .val (.ref b1), .val (.ref b28), .unset, .unset] [(.ref b1), (.int (0 : Int32)), (.ref b28)])) (fun t9 k9 => XS.aload X28.here hx rfl (hb hby at_81) rfl rfl k9) ?_
    refine own_st (T' := T28) (g' := (mkF m 84 #[.val (.int p1), .val (.int p2), .val (.int p3), .val (.int p4), .val (.int p5), .val (.int p6), .val (.int (2 : Int32)), .val (.int (Int32.ofNat (cn + 1))), .val (.ref b1), .val (.ref b28), .unset, .unset] [(.int (0 : Int32)), (.ref b1), (.int (0 : Int32)), (.ref b28)])) (fun t9 k9 => XS.iconst X28.here hx rfl (hb hby at_83) k9) ?_
    obtain ⟨clu30, Aru30, qu30, Su30, Nu30, Hu30, Gu30⟩ := (id Va9_29)
    have hinu30 := inb_of Su30 (j := (0 : Int32)) ⟨by decide, by decide⟩
    refine own_st (T' := T28) (g' := (mkF m 85 #[.val (.int p1), .val (.int p2), .val (.int p3), .val (.int p4), .val (.int p5), .val (.int p6), .val (.int (2 : Int32)), .val (.int (Int32.ofNat (cn + 1))), .val (.ref b1), .val (.ref b28), .unset, .unset] [(.int (Int32.ofNat x0)), (.int (0 : Int32)), (.ref b28)])) (fun t9 k9 => X28.iaload hx (j := (0 : Int32)) (v := (.int (Int32.ofNat x0))) (by rw [e28]; exact Aru30.1) (State.isArrayOf_alike hZ.alike Aru30.2.1) Aru30.2.2 hinu30 (Hu30.at hinu30 rfl) (g := (mkF m 84 #[.val (.int p1), .val (.int p2), .val (.int p3), .val (.int p4), .val (.int p5), .val (.int p6), .val (.int (2 : Int32)), .val (.int (Int32.ofNat (cn + 1))), .val (.ref b1), .val (.ref b28), .unset, .unset] [(.int (0 : Int32)), (.ref b1), (.int (0 : Int32)), (.ref b28)])) rfl rfl (hb hby at_84) t9 k9) ?_
    obtain ⟨clu31, Aru31, qu31, Su31, Nu31, Hu31, Gu31⟩ := (id V_b28)
    obtain ⟨T32, h32, X32, e32, W32, st32⟩ := stI X28 hx hZ e28 Aru31 (j := (0 : Int32)) (inb_of Su31 ⟨by decide, by decide⟩) (g := (mkF m 85 #[.val (.int p1), .val (.int p2), .val (.int p3), .val (.int p4), .val (.int p5), .val (.int p6), .val (.int (2 : Int32)), .val (.int (Int32.ofNat (cn + 1))), .val (.ref b1), .val (.ref b28), .unset, .unset] [(.int (Int32.ofNat x0)), (.int (0 : Int32)), (.ref b28)])) rfl rfl (hb hby at_85)
    have Va32 := Arv.set Aru31 qu31 Su31 Nu31 Hu31 Gu31 rfl W32 0 rfl (Nat.le_of_ble_eq_true rfl)
    have Va9_33 := Va9_29.other W32 ne_b1_b28
    have K32 := K28.wr W32 (Or.inr sz_b28)
    have N32 := Fr.snoc X32 N9 g_b28
    have Z32 : n0 ≤ h32.size := by rw [W32.size]; exact Z28
    refine own_st (T' := T32) (g' := (mkF m 86 #[.val (.int p1), .val (.int p2), .val (.int p3), .val (.int p4), .val (.int p5), .val (.int p6), .val (.int (2 : Int32)), .val (.int (Int32.ofNat (cn + 1))), .val (.ref b1), .val (.ref b28), .unset, .unset] [])) (fun t9 k9 => st32 t9 k9) ?_
    refine own_st (T' := T32) (g' := (mkF m 88 #[.val (.int p1), .val (.int p2), .val (.int p3), .val (.int p4), .val (.int p5), .val (.int p6), .val (.int (2 : Int32)), .val (.int (Int32.ofNat (cn + 1))), .val (.ref b1), .val (.ref b28), .unset, .unset] [(.int (2 : Int32))])) (fun t9 k9 => XS.iload X32.here hx rfl (hb hby at_86) rfl k9) ?_
    refine own_st (T' := T32) (g' := (mkF m 89 #[.val (.int p1), .val (.int p2), .val (.int p3), .val (.int p4), .val (.int p5), .val (.int p6), .val (.int (2 : Int32)), .val (.int (Int32.ofNat (cn + 1))), .val (.ref b1), .val (.ref b28), .unset, .unset] [(.int (1 : Int32)), (.int (2 : Int32))])) (fun t9 k9 => XS.iconst X32.here hx rfl (hb hby at_88) k9) ?_
    refine own_st (T' := T32) (g' := (mkF m 92 #[.val (.int p1), .val (.int p2), .val (.int p3), .val (.int p4), .val (.int p5), .val (.int p6), .val (.int (2 : Int32)), .val (.int (Int32.ofNat (cn + 1))), .val (.ref b1), .val (.ref b28), .unset, .unset] [])) (fun t9 k9 => XS.icmpNo X32.here hx rfl (hb hby at_89) rfl (tlt (by decide)).2.2.2 k9) ?_
    refine own_st (T' := T32) (g' := (mkF m 94 #[.val (.int p1), .val (.int p2), .val (.int p3), .val (.int p4), .val (.int p5), .val (.int p6), .val (.int (2 : Int32)), .val (.int (Int32.ofNat (cn + 1))), .val (.ref b1), .val (.ref b28), .unset, .unset] [(.ref b28)])) (fun t9 k9 => XS.aload X32.here hx rfl (hb hby at_92) rfl rfl k9) ?_
    refine own_st (T' := T32) (g' := (mkF m 95 #[.val (.int p1), .val (.int p2), .val (.int p3), .val (.int p4), .val (.int p5), .val (.int p6), .val (.int (2 : Int32)), .val (.int (Int32.ofNat (cn + 1))), .val (.ref b1), .val (.ref b28), .unset, .unset] [(.int (1 : Int32)), (.ref b28)])) (fun t9 k9 => XS.iconst X32.here hx rfl (hb hby at_94) k9) ?_
    refine own_st (T' := T32) (g' := (mkF m 97 #[.val (.int p1), .val (.int p2), .val (.int p3), .val (.int p4), .val (.int p5), .val (.int p6), .val (.int (2 : Int32)), .val (.int (Int32.ofNat (cn + 1))), .val (.ref b1), .val (.ref b28), .unset, .unset] [(.ref b1), (.int (1 : Int32)), (.ref b28)])) (fun t9 k9 => XS.aload X32.here hx rfl (hb hby at_95) rfl rfl k9) ?_
    refine own_st (T' := T32) (g' := (mkF m 98 #[.val (.int p1), .val (.int p2), .val (.int p3), .val (.int p4), .val (.int p5), .val (.int p6), .val (.int (2 : Int32)), .val (.int (Int32.ofNat (cn + 1))), .val (.ref b1), .val (.ref b28), .unset, .unset] [(.int (1 : Int32)), (.ref b1), (.int (1 : Int32)), (.ref b28)])) (fun t9 k9 => XS.iconst X32.here hx rfl (hb hby at_97) k9) ?_
    obtain ⟨clu34, Aru34, qu34, Su34, Nu34, Hu34, Gu34⟩ := (id Va9_33)
    have hinu34 := inb_of Su34 (j := (1 : Int32)) ⟨by decide, by decide⟩
    refine own_st (T' := T32) (g' := (mkF m 99 #[.val (.int p1), .val (.int p2), .val (.int p3), .val (.int p4), .val (.int p5), .val (.int p6), .val (.int (2 : Int32)), .val (.int (Int32.ofNat (cn + 1))), .val (.ref b1), .val (.ref b28), .unset, .unset] [(.int (Int32.ofNat x1)), (.int (1 : Int32)), (.ref b28)])) (fun t9 k9 => X32.iaload hx (j := (1 : Int32)) (v := (.int (Int32.ofNat x1))) (by rw [e32]; exact Aru34.1) (State.isArrayOf_alike hZ.alike Aru34.2.1) Aru34.2.2 hinu34 (Hu34.at hinu34 rfl) (g := (mkF m 98 #[.val (.int p1), .val (.int p2), .val (.int p3), .val (.int p4), .val (.int p5), .val (.int p6), .val (.int (2 : Int32)), .val (.int (Int32.ofNat (cn + 1))), .val (.ref b1), .val (.ref b28), .unset, .unset] [(.int (1 : Int32)), (.ref b1), (.int (1 : Int32)), (.ref b28)])) rfl rfl (hb hby at_98) t9 k9) ?_
    obtain ⟨clu35, Aru35, qu35, Su35, Nu35, Hu35, Gu35⟩ := (id Va32)
    obtain ⟨T36, h36, X36, e36, W36, st36⟩ := stI X32 hx hZ e32 Aru35 (j := (1 : Int32)) (inb_of Su35 ⟨by decide, by decide⟩) (g := (mkF m 99 #[.val (.int p1), .val (.int p2), .val (.int p3), .val (.int p4), .val (.int p5), .val (.int p6), .val (.int (2 : Int32)), .val (.int (Int32.ofNat (cn + 1))), .val (.ref b1), .val (.ref b28), .unset, .unset] [(.int (Int32.ofNat x1)), (.int (1 : Int32)), (.ref b28)])) rfl rfl (hb hby at_99)
    have Va36 := Arv.set Aru35 qu35 Su35 Nu35 Hu35 Gu35 rfl W36 1 rfl (Nat.le_of_ble_eq_true rfl)
    have Va9_37 := Va9_33.other W36 ne_b1_b28
    have K36 := K32.wr W36 (Or.inr sz_b28)
    have N36 := Fr.snoc X36 N32 g_b28
    have Z36 : n0 ≤ h36.size := by rw [W36.size]; exact Z32
    refine own_st (T' := T36) (g' := (mkF m 100 #[.val (.int p1), .val (.int p2), .val (.int p3), .val (.int p4), .val (.int p5), .val (.int p6), .val (.int (2 : Int32)), .val (.int (Int32.ofNat (cn + 1))), .val (.ref b1), .val (.ref b28), .unset, .unset] [])) (fun t9 k9 => st36 t9 k9) ?_
    refine own_st (T' := T36) (g' := (mkF m 102 #[.val (.int p1), .val (.int p2), .val (.int p3), .val (.int p4), .val (.int p5), .val (.int p6), .val (.int (2 : Int32)), .val (.int (Int32.ofNat (cn + 1))), .val (.ref b1), .val (.ref b28), .unset, .unset] [(.int (2 : Int32))])) (fun t9 k9 => XS.iload X36.here hx rfl (hb hby at_100) rfl k9) ?_
    refine own_st (T' := T36) (g' := (mkF m 103 #[.val (.int p1), .val (.int p2), .val (.int p3), .val (.int p4), .val (.int p5), .val (.int p6), .val (.int (2 : Int32)), .val (.int (Int32.ofNat (cn + 1))), .val (.ref b1), .val (.ref b28), .unset, .unset] [(.int (2 : Int32)), (.int (2 : Int32))])) (fun t9 k9 => XS.iconst X36.here hx rfl (hb hby at_102) k9) ?_
    refine own_st (T' := T36) (g' := (mkF m 114 #[.val (.int p1), .val (.int p2), .val (.int p3), .val (.int p4), .val (.int p5), .val (.int p6), .val (.int (2 : Int32)), .val (.int (Int32.ofNat (cn + 1))), .val (.ref b1), .val (.ref b28), .unset, .unset] [])) (fun t9 k9 => XS.icmpYes X36.here hx rfl (pc0 := 103) (pc' := 114) rfl (hb hby at_103) rfl (flt (by decide)).2.2.2 (by decide) (by decide) k9) ?_
    refine own_st (T' := T36) (g' := (mkF m 116 #[.val (.int p1), .val (.int p2), .val (.int p3), .val (.int p4), .val (.int p5), .val (.int p6), .val (.int (2 : Int32)), .val (.int (Int32.ofNat (cn + 1))), .val (.ref b1), .val (.ref b28), .unset, .unset] [(.int (2 : Int32))])) (fun t9 k9 => XS.iload X36.here hx rfl (hb hby at_114) rfl k9) ?_
    refine own_st (T' := T36) (g' := (mkF m 117 #[.val (.int p1), .val (.int p2), .val (.int p3), .val (.int p4), .val (.int p5), .val (.int p6), .val (.int (2 : Int32)), .val (.int (Int32.ofNat (cn + 1))), .val (.ref b1), .val (.ref b28), .unset, .unset] [(.int (3 : Int32)), (.int (2 : Int32))])) (fun t9 k9 => XS.iconst X36.here hx rfl (hb hby at_116) k9) ?_
    refine own_st (T' := T36) (g' := (mkF m 128 #[.val (.int p1), .val (.int p2), .val (.int p3), .val (.int p4), .val (.int p5), .val (.int p6), .val (.int (2 : Int32)), .val (.int (Int32.ofNat (cn + 1))), .val (.ref b1), .val (.ref b28), .unset, .unset] [])) (fun t9 k9 => XS.icmpYes X36.here hx rfl (pc0 := 117) (pc' := 128) rfl (hb hby at_117) rfl (flt (by decide)).2.2.2 (by decide) (by decide) k9) ?_
    refine own_st (T' := T36) (g' := (mkF m 130 #[.val (.int p1), .val (.int p2), .val (.int p3), .val (.int p4), .val (.int p5), .val (.int p6), .val (.int (2 : Int32)), .val (.int (Int32.ofNat (cn + 1))), .val (.ref b1), .val (.ref b28), .unset, .unset] [(.ref b28)])) (fun t9 k9 => XS.aload X36.here hx rfl (hb hby at_128) rfl rfl k9) ?_
    refine own_st (T' := T36) (g' := (mkF m 132 #[.val (.int p1), .val (.int p2), .val (.int p3), .val (.int p4), .val (.int p5), .val (.int p6), .val (.int (2 : Int32)), .val (.int (Int32.ofNat (cn + 1))), .val (.ref b1), .val (.ref b28), .unset, .unset] [(.int (Int32.ofNat (cn + 1))), (.ref b28)])) (fun t9 k9 => XS.iload X36.here hx rfl (hb hby at_130) rfl k9) ?_
    obtain ⟨_, _, ⟨T38, L38, k38, n38⟩, -, X38, ⟨Lc38, hQ38, l38, y38, z38⟩, st38⟩ := Jvm.LawKit.callS X36 hx (y := (⟨"com/example/shelfwright/shelfwright/checker/Orders", "ascending", "([II)[I"⟩ : MethodName)) hown (mvT hZ (hw _ (List.mem_of_getElem? (i := 2) rfl))) (mvT hZ (hw _ (List.mem_of_getElem? (i := 3) rfl))) (mvT hZ (hw _ (List.mem_of_getElem? (i := 4) rfl))) (mvT hZ (hw _ (List.mem_of_getElem? (i := 5) rfl))) (by decide) (own_back (W := 0) (rm1 l Z a0 hw b28 k28 _ (own_rk x0 x1 x2 x3) 2 (cn + 1) h36 n0 Z36 Va36 ⟨rfl, fun j hj => by
          match j, hj with
          | 0, _ => rfl
          | 1, _ => rfl⟩ (by decide) (by omega) (fun i hi => hrk i (by omega))) hZ (hw _ (List.mem_of_getElem? (i := 5) rfl)) (hw _ (List.mem_of_getElem? (i := 4) rfl)) (by decide) (by decide)) (g := (mkF m 132 #[.val (.int p1), .val (.int p2), .val (.int p3), .val (.int p4), .val (.int p5), .val (.int p6), .val (.int (2 : Int32)), .val (.int (Int32.ofNat (cn + 1))), .val (.ref b1), .val (.ref b28), .unset, .unset] [(.int (Int32.ofNat (cn + 1))), (.ref b28)])) rfl (by rw [hml]; rfl) (argsL := [(.ref b28), (.int (Int32.ofNat (cn + 1)))]) (rest := []) (lenOf pd_0 rfl) rfl (by show 2 * 0 + _ ≤ _; exact Nat.le_of_eq rfl) (hb hby at_132) (fun _ _ => ⟨rfl, e36, (Nat.le_of_ble_eq_true rfl), (Nat.le_of_ble_eq_true rfl)⟩)
    dsimp only [Pt.U, Pt.locs, Pt.cells, Pt.slots] at X38 l38 y38 z38 st38 hQ38
    subst l38 y38 z38
    obtain ⟨b38, kb38, vb38, rfl, Nq38, Kq38, Vq38, hO38⟩ := hQ38
    have N38 := Fr.app N36 Nq38
    obtain ⟨h38, e38⟩ : ∃ z, T38.heap = z := ⟨_, rfl⟩
    rw [e38] at Kq38 Vq38
    have Va9_39 := Va9_37.keep Kq38 nin0
    have Va36_40 := Va36.keep Kq38 nin0
    have K38 := K36.trans Kq38 all0
    have Z38 : n0 ≤ h38.size := Nat.le_trans Z36 Kq38.1
    refine own_st (T' := T38) (g' := (mkF m 135 #[.val (.int p1), .val (.int p2), .val (.int p3), .val (.int p4), .val (.int p5), .val (.int p6), .val (.int (2 : Int32)), .val (.int (Int32.ofNat (cn + 1))), .val (.ref b1), .val (.ref b28), .unset, .unset] [(.ref b38)])) (fun t9 k9 => st38 t9 k9) ?_
    refine own_st (T' := T38) (g' := (mkF m 137 #[.val (.int p1), .val (.int p2), .val (.int p3), .val (.int p4), .val (.int p5), .val (.int p6), .val (.int (2 : Int32)), .val (.int (Int32.ofNat (cn + 1))), .val (.ref b1), .val (.ref b28), .val (.ref b38), .unset] [])) (fun t9 k9 => XS.astore X38.here hx rfl (hb hby at_135) rfl rfl (l' := #[.val (.int p1), .val (.int p2), .val (.int p3), .val (.int p4), .val (.int p5), .val (.int p6), .val (.int (2 : Int32)), .val (.int (Int32.ofNat (cn + 1))), .val (.ref b1), .val (.ref b28), .val (.ref b38), .unset]) rfl k9) ?_
    refine own_st (T' := T38) (g' := (mkF m 139 #[.val (.int p1), .val (.int p2), .val (.int p3), .val (.int p4), .val (.int p5), .val (.int p6), .val (.int (2 : Int32)), .val (.int (Int32.ofNat (cn + 1))), .val (.ref b1), .val (.ref b28), .val (.ref b38), .unset] [(.ref b38)])) (fun t9 k9 => XS.aload X38.here hx rfl (hb hby at_137) rfl rfl k9) ?_
    refine own_st (T' := T38) (g' := (mkF m 142 #[.val (.int p1), .val (.int p2), .val (.int p3), .val (.int p4), .val (.int p5), .val (.int p6), .val (.int (2 : Int32)), .val (.int (Int32.ofNat (cn + 1))), .val (.ref b1), .val (.ref b28), .val (.ref b38), .unset] [])) (fun t9 k9 => XS.ifnullNo X38.here hx rfl (hb hby at_139) rfl k9) ?_
    refine own_st (T' := T38) (g' := (mkF m 144 #[.val (.int p1), .val (.int p2), .val (.int p3), .val (.int p4), .val (.int p5), .val (.int p6), .val (.int (2 : Int32)), .val (.int (Int32.ofNat (cn + 1))), .val (.ref b1), .val (.ref b28), .val (.ref b38), .unset] [(.ref b38)])) (fun t9 k9 => XS.aload X38.here hx rfl (hb hby at_142) rfl rfl k9) ?_
    obtain ⟨clu41, Aru41, qu41, Su41, Nu41, Hu41, Gu41⟩ := (id Vq38)
    refine own_st (T' := T38) (g' := (mkF m 145 #[.val (.int p1), .val (.int p2), .val (.int p3), .val (.int p4), .val (.int p5), .val (.int p6), .val (.int (2 : Int32)), .val (.int (Int32.ofNat (cn + 1))), .val (.ref b1), .val (.ref b28), .val (.ref b38), .unset] [(.int (2 : Int32))])) (fun t9 k9 => X38.arraylength hx (by rw [e38]; exact Aru41.1) (State.isArrayOf_alike hZ.alike Aru41.2.1) (g := (mkF m 144 #[.val (.int p1), .val (.int p2), .val (.int p3), .val (.int p4), .val (.int p5), .val (.int p6), .val (.int (2 : Int32)), .val (.int (Int32.ofNat (cn + 1))), .val (.ref b1), .val (.ref b28), .val (.ref b38), .unset] [(.ref b38)])) rfl rfl (hb hby at_144) t9 (by rw [len_of Su41 Nu41]; exact k9)) ?_
    refine own_st (T' := T38) (g' := (mkF m 147 #[.val (.int p1), .val (.int p2), .val (.int p3), .val (.int p4), .val (.int p5), .val (.int p6), .val (.int (2 : Int32)), .val (.int (Int32.ofNat (cn + 1))), .val (.ref b1), .val (.ref b28), .val (.ref b38), .unset] [(.int (2 : Int32)), (.int (2 : Int32))])) (fun t9 k9 => XS.iload X38.here hx rfl (hb hby at_145) rfl k9) ?_
    refine own_st (T' := T38) (g' := (mkF m 152 #[.val (.int p1), .val (.int p2), .val (.int p3), .val (.int p4), .val (.int p5), .val (.int p6), .val (.int (2 : Int32)), .val (.int (Int32.ofNat (cn + 1))), .val (.ref b1), .val (.ref b28), .val (.ref b38), .unset] [])) (fun t9 k9 => XS.icmpYes X38.here hx rfl (pc0 := 147) (pc' := 152) rfl (hb hby at_147) rfl (teq rfl).1 (by decide) (by decide) k9) ?_
    refine own_st (T' := T38) (g' := (mkF m 153 #[.val (.int p1), .val (.int p2), .val (.int p3), .val (.int p4), .val (.int p5), .val (.int p6), .val (.int (2 : Int32)), .val (.int (Int32.ofNat (cn + 1))), .val (.ref b1), .val (.ref b28), .val (.ref b38), .unset] [(.int (1 : Int32))])) (fun t9 k9 => XS.iconst X38.here hx rfl (hb hby at_152) k9) ?_
    refine own_st (T' := T38) (g' := (mkF m 155 #[.val (.int p1), .val (.int p2), .val (.int p3), .val (.int p4), .val (.int p5), .val (.int p6), .val (.int (2 : Int32)), .val (.int (Int32.ofNat (cn + 1))), .val (.ref b1), .val (.ref b28), .val (.ref b38), .val (.int (1 : Int32))] [])) (fun t9 k9 => XS.istore X38.here hx rfl (hb hby at_153) rfl (l' := #[.val (.int p1), .val (.int p2), .val (.int p3), .val (.int p4), .val (.int p5), .val (.int p6), .val (.int (2 : Int32)), .val (.int (Int32.ofNat (cn + 1))), .val (.ref b1), .val (.ref b28), .val (.ref b38), .val (.int (1 : Int32))]) rfl k9) ?_
    refine own_st (T' := T38) (g' := (mkF m 157 #[.val (.int p1), .val (.int p2), .val (.int p3), .val (.int p4), .val (.int p5), .val (.int p6), .val (.int (2 : Int32)), .val (.int (Int32.ofNat (cn + 1))), .val (.ref b1), .val (.ref b28), .val (.ref b38), .val (.int (1 : Int32))] [(.int (2 : Int32))])) (fun t9 k9 => XS.iload X38.here hx rfl (hb hby at_155) rfl k9) ?_
    refine own_st (T' := T38) (g' := (mkF m 160 #[.val (.int p1), .val (.int p2), .val (.int p3), .val (.int p4), .val (.int p5), .val (.int p6), .val (.int (2 : Int32)), .val (.int (Int32.ofNat (cn + 1))), .val (.ref b1), .val (.ref b28), .val (.ref b38), .val (.int (1 : Int32))] [])) (fun t9 k9 => XS.ifNo X38.here hx rfl (hb hby at_157) rfl ((if0 _ _).trans (tlt (by decide)).2.2.2) k9) ?_
    refine own_st (T' := T38) (g' := (mkF m 162 #[.val (.int p1), .val (.int p2), .val (.int p3), .val (.int p4), .val (.int p5), .val (.int p6), .val (.int (2 : Int32)), .val (.int (Int32.ofNat (cn + 1))), .val (.ref b1), .val (.ref b28), .val (.ref b38), .val (.int (1 : Int32))] [(.int (1 : Int32))])) (fun t9 k9 => XS.iload X38.here hx rfl (hb hby at_160) rfl k9) ?_
    refine own_st (T' := T38) (g' := (mkF m 165 #[.val (.int p1), .val (.int p2), .val (.int p3), .val (.int p4), .val (.int p5), .val (.int p6), .val (.int (2 : Int32)), .val (.int (Int32.ofNat (cn + 1))), .val (.ref b1), .val (.ref b28), .val (.ref b38), .val (.int (1 : Int32))] [])) (fun t9 k9 => XS.ifNo X38.here hx rfl (hb hby at_162) rfl ((if0 _ _).trans (feq (by decide)).1) k9) ?_
    refine own_st (T' := T38) (g' := (mkF m 167 #[.val (.int p1), .val (.int p2), .val (.int p3), .val (.int p4), .val (.int p5), .val (.int p6), .val (.int (2 : Int32)), .val (.int (Int32.ofNat (cn + 1))), .val (.ref b1), .val (.ref b28), .val (.ref b38), .val (.int (1 : Int32))] [(.ref b38)])) (fun t9 k9 => XS.aload X38.here hx rfl (hb hby at_165) rfl rfl k9) ?_
    refine own_st (T' := T38) (g' := (mkF m 169 #[.val (.int p1), .val (.int p2), .val (.int p3), .val (.int p4), .val (.int p5), .val (.int p6), .val (.int (2 : Int32)), .val (.int (Int32.ofNat (cn + 1))), .val (.ref b1), .val (.ref b28), .val (.ref b38), .val (.int (1 : Int32))] [(.ref b1), (.ref b38)])) (fun t9 k9 => XS.aload X38.here hx rfl (hb hby at_167) rfl rfl k9) ?_
    refine own_st (T' := T38) (g' := (mkF m 171 #[.val (.int p1), .val (.int p2), .val (.int p3), .val (.int p4), .val (.int p5), .val (.int p6), .val (.int (2 : Int32)), .val (.int (Int32.ofNat (cn + 1))), .val (.ref b1), .val (.ref b28), .val (.ref b38), .val (.int (1 : Int32))] [(.int (2 : Int32)), (.ref b1), (.ref b38)])) (fun t9 k9 => XS.iload X38.here hx rfl (hb hby at_169) rfl k9) ?_
    refine own_st (T' := T38) (g' := (mkF m 172 #[.val (.int p1), .val (.int p2), .val (.int p3), .val (.int p4), .val (.int p5), .val (.int p6), .val (.int (2 : Int32)), .val (.int (Int32.ofNat (cn + 1))), .val (.ref b1), .val (.ref b28), .val (.ref b38), .val (.int (1 : Int32))] [(.int (0 : Int32)), (.int (2 : Int32)), (.ref b1), (.ref b38)])) (fun t9 k9 => XS.iconst X38.here hx rfl (hb hby at_171) k9) ?_
    obtain ⟨_, _, ⟨T42, L42, k42, n42⟩, -, X42, ⟨Lc42, hQ42, l42, y42, z42⟩, st42⟩ := Jvm.LawKit.callS X38 hx (y := (⟨"com/example/shelfwright/shelfwright/checker/OrdersAscendingPinLaw", "pos", "([III)I"⟩ : MethodName)) hown (mvT hZ (hw _ (List.mem_of_getElem? (i := 6) rfl))) (mvT hZ (hw _ (List.mem_of_getElem? (i := 7) rfl))) (mvT hZ (hw _ (List.mem_of_getElem? (i := 8) rfl))) (mvT hZ (hw _ (List.mem_of_getElem? (i := 9) rfl))) (by decide) (own_back (W := 1) (rm2 l Z a0 hw b1 k1 _ (own_rk x0 x1 x2 x3) 2 0 h38 n0 Z38 Va9_39 ⟨rfl, fun j hj => by
          match j, hj with
          | 0, _ => rfl
          | 1, _ => rfl
          | 2, _ => rfl
          | 3, _ => rfl⟩ (fun i hi => Nat.le_trans (Nat.le_of_lt (hrk i hi)) (by omega)) (by decide) (by decide)) hZ (hw _ (List.mem_of_getElem? (i := 9) rfl)) (hw _ (List.mem_of_getElem? (i := 8) rfl)) (by decide) (by decide)) (g := (mkF m 172 #[.val (.int p1), .val (.int p2), .val (.int p3), .val (.int p4), .val (.int p5), .val (.int p6), .val (.int (2 : Int32)), .val (.int (Int32.ofNat (cn + 1))), .val (.ref b1), .val (.ref b28), .val (.ref b38), .val (.int (1 : Int32))] [(.int (0 : Int32)), (.int (2 : Int32)), (.ref b1), (.ref b38)])) rfl (by rw [hml]; rfl) (argsL := [(.ref b1), (.int (2 : Int32)), (.int (0 : Int32))]) (rest := [(.ref b38)]) (lenOf pd_1 rfl) rfl (by show 2 * 0 + _ ≤ _; exact Nat.le_of_eq rfl) (hb hby at_172) (fun _ _ => ⟨rfl, e38, (Nat.le_of_ble_eq_true rfl), (Nat.le_of_ble_eq_true rfl)⟩)
    dsimp only [Pt.U, Pt.locs, Pt.cells, Pt.slots] at X42 l42 y42 z42 st42 hQ42
    subst l42 y42 z42
    obtain ⟨rfl, Nq42, he42⟩ := hQ42
    have N42 := Fr.app N38 Nq42
    have e42 : T42.heap = h38 := he42
    refine own_st (T' := T42) (g' := (mkF m 175 #[.val (.int p1), .val (.int p2), .val (.int p3), .val (.int p4), .val (.int p5), .val (.int p6), .val (.int (2 : Int32)), .val (.int (Int32.ofNat (cn + 1))), .val (.ref b1), .val (.ref b28), .val (.ref b38), .val (.int (1 : Int32))] [(.int (Int32.ofNat (own_pos (own_rk x0 x1 x2 x3) 2 0))), (.ref b38)])) (fun t9 k9 => st42 t9 k9) ?_
    have hps0 := own_pos_lt (rk := (own_rk x0 x1 x2 x3)) (n := 2) (p := 0) (by decide)
    obtain ⟨s10, s20⟩ := own_nat (i := own_pos (own_rk x0 x1 x2 x3) 2 0) (by omega)
    obtain ⟨clu43, Aru43, qu43, Su43, Nu43, Hu43, Gu43⟩ := (id Vq38)
    have hinu43 := inb_of Su43 (j := (Int32.ofNat (own_pos (own_rk x0 x1 x2 x3) 2 0))) ⟨s20, own_lt (n := 2) hps0 (by omega)⟩
    refine own_st (T' := T42) (g' := (mkF m 176 #[.val (.int p1), .val (.int p2), .val (.int p3), .val (.int p4), .val (.int p5), .val (.int p6), .val (.int (2 : Int32)), .val (.int (Int32.ofNat (cn + 1))), .val (.ref b1), .val (.ref b28), .val (.ref b38), .val (.int (1 : Int32))] [(.int (0 : Int32))])) (fun t9 k9 => X42.iaload hx (j := (Int32.ofNat (own_pos (own_rk x0 x1 x2 x3) 2 0))) (v := (.int (0 : Int32))) (by rw [e42]; exact Aru43.1) (State.isArrayOf_alike hZ.alike Aru43.2.1) Aru43.2.2 hinu43 (Hu43.at hinu43 (by rw [s10]; exact hO38 0 (by decide))) (g := (mkF m 175 #[.val (.int p1), .val (.int p2), .val (.int p3), .val (.int p4), .val (.int p5), .val (.int p6), .val (.int (2 : Int32)), .val (.int (Int32.ofNat (cn + 1))), .val (.ref b1), .val (.ref b28), .val (.ref b38), .val (.int (1 : Int32))] [(.int (Int32.ofNat (own_pos (own_rk x0 x1 x2 x3) 2 0))), (.ref b38)])) rfl rfl (hb hby at_175) t9 k9) ?_
    refine own_st (T' := T42) (g' := (mkF m 179 #[.val (.int p1), .val (.int p2), .val (.int p3), .val (.int p4), .val (.int p5), .val (.int p6), .val (.int (2 : Int32)), .val (.int (Int32.ofNat (cn + 1))), .val (.ref b1), .val (.ref b28), .val (.ref b38), .val (.int (1 : Int32))] [])) (fun t9 k9 => XS.ifNo X42.here hx rfl (hb hby at_176) rfl ((if0 _ _).trans (teq rfl).2) k9) ?_
    refine own_st (T' := T42) (g' := (mkF m 180 #[.val (.int p1), .val (.int p2), .val (.int p3), .val (.int p4), .val (.int p5), .val (.int p6), .val (.int (2 : Int32)), .val (.int (Int32.ofNat (cn + 1))), .val (.ref b1), .val (.ref b28), .val (.ref b38), .val (.int (1 : Int32))] [(.int (1 : Int32))])) (fun t9 k9 => XS.iconst X42.here hx rfl (hb hby at_179) k9) ?_
    refine own_st (T' := T42) (g' := (mkF m 184 #[.val (.int p1), .val (.int p2), .val (.int p3), .val (.int p4), .val (.int p5), .val (.int p6), .val (.int (2 : Int32)), .val (.int (Int32.ofNat (cn + 1))), .val (.ref b1), .val (.ref b28), .val (.ref b38), .val (.int (1 : Int32))] [(.int (1 : Int32))])) (fun t9 k9 => XS.goto X42.here hx rfl (pc0 := 180) (pc' := 184) rfl (hb hby at_180) (by decide) (by decide) k9) ?_
    refine own_st (T' := T42) (g' := (mkF m 186 #[.val (.int p1), .val (.int p2), .val (.int p3), .val (.int p4), .val (.int p5), .val (.int p6), .val (.int (2 : Int32)), .val (.int (Int32.ofNat (cn + 1))), .val (.ref b1), .val (.ref b28), .val (.ref b38), .val (.int (1 : Int32))] [])) (fun t9 k9 => XS.istore X42.here hx rfl (hb hby at_184) rfl (l' := #[.val (.int p1), .val (.int p2), .val (.int p3), .val (.int p4), .val (.int p5), .val (.int p6), .val (.int (2 : Int32)), .val (.int (Int32.ofNat (cn + 1))), .val (.ref b1), .val (.ref b28), .val (.ref b38), .val (.int (1 : Int32))]) rfl k9) ?_
    refine own_st (T' := T42) (g' := (mkF m 188 #[.val (.int p1), .val (.int p2), .val (.int p3), .val (.int p4), .val (.int p5), .val (.int p6), .val (.int (2 : Int32)), .val (.int (Int32.ofNat (cn + 1))), .val (.ref b1), .val (.ref b28), .val (.ref b38), .val (.int (1 : Int32))] [(.int (2 : Int32))])) (fun t9 k9 => XS.iload X42.here hx rfl (hb hby at_186) rfl k9) ?_
    refine own_st (T' := T42) (g' := (mkF m 189 #[.val (.int p1), .val (.int p2), .val (.int p3), .val (.int p4), .val (.int p5), .val (.int p6), .val (.int (2 : Int32)), .val (.int (Int32.ofNat (cn + 1))), .val (.ref b1), .val (.ref b28), .val (.ref b38), .val (.int (1 : Int32))] [(.int (1 : Int32)), (.int (2 : Int32))])) (fun t9 k9 => XS.iconst X42.here hx rfl (hb hby at_188) k9) ?_
    refine own_st (T' := T42) (g' := (mkF m 192 #[.val (.int p1), .val (.int p2), .val (.int p3), .val (.int p4), .val (.int p5), .val (.int p6), .val (.int (2 : Int32)), .val (.int (Int32.ofNat (cn + 1))), .val (.ref b1), .val (.ref b28), .val (.ref b38), .val (.int (1 : Int32))] [])) (fun t9 k9 => XS.icmpNo X42.here hx rfl (hb hby at_189) rfl (tlt (by decide)).2.2.2 k9) ?_
    refine own_st (T' := T42) (g' := (mkF m 194 #[.val (.int p1), .val (.int p2), .val (.int p3), .val (.int p4), .val (.int p5), .val (.int p6), .val (.int (2 : Int32)), .val (.int (Int32.ofNat (cn + 1))), .val (.ref b1), .val (.ref b28), .val (.ref b38), .val (.int (1 : Int32))] [(.int (1 : Int32))])) (fun t9 k9 => XS.iload X42.here hx rfl (hb hby at_192) rfl k9) ?_
    refine own_st (T' := T42) (g' := (mkF m 197 #[.val (.int p1), .val (.int p2), .val (.int p3), .val (.int p4), .val (.int p5), .val (.int p6), .val (.int (2 : Int32)), .val (.int (Int32.ofNat (cn + 1))), .val (.ref b1), .val (.ref b28), .val (.ref b38), .val (.int (1 : Int32))] [])) (fun t9 k9 => XS.ifNo X42.here hx rfl (hb hby at_194) rfl ((if0 _ _).trans (feq (by decide)).1) k9) ?_
    refine own_st (T' := T42) (g' := (mkF m 199 #[.val (.int p1), .val (.int p2), .val (.int p3), .val (.int p4), .val (.int p5), .val (.int p6), .val (.int (2 : Int32)), .val (.int (Int32.ofNat (cn + 1))), .val (.ref b1), .val (.ref b28), .val (.ref b38), .val (.int (1 : Int32))] [(.ref b38)])) (fun t9 k9 => XS.aload X42.here hx rfl (hb hby at_197) rfl rfl k9) ?_
    refine own_st (T' := T42) (g' := (mkF m 201 #[.val (.int p1), .val (.int p2), .val (.int p3), .val (.int p4), .val (.int p5), .val (.int p6), .val (.int (2 : Int32)), .val (.int (Int32.ofNat (cn + 1))), .val (.ref b1), .val (.ref b28), .val (.ref b38), .val (.int (1 : Int32))] [(.ref b1), (.ref b38)])) (fun t9 k9 => XS.aload X42.here hx rfl (hb hby at_199) rfl rfl k9) ?_
    refine own_st (T' := T42) (g' := (mkF m 203 #[.val (.int p1), .val (.int p2), .val (.int p3), .val (.int p4), .val (.int p5), .val (.int p6), .val (.int (2 : Int32)), .val (.int (Int32.ofNat (cn + 1))), .val (.ref b1), .val (.ref b28), .val (.ref b38), .val (.int (1 : Int32))] [(.int (2 : Int32)), (.ref b1), (.ref b38)])) (fun t9 k9 => XS.iload X42.here hx rfl (hb hby at_201) rfl k9) ?_
    refine own_st (T' := T42) (g' := (mkF m 204 #[.val (.int p1), .val (.int p2), .val (.int p3), .val (.int p4), .val (.int p5), .val (.int p6), .val (.int (2 : Int32)), .val (.int (Int32.ofNat (cn + 1))), .val (.ref b1), .val (.ref b28), .val (.ref b38), .val (.int (1 : Int32))] [(.int (1 : Int32)), (.int (2 : Int32)), (.ref b1), (.ref b38)])) (fun t9 k9 => XS.iconst X42.here hx rfl (hb hby at_203) k9) ?_
    obtain ⟨_, _, ⟨T44, L44, k44, n44⟩, -, X44, ⟨Lc44, hQ44, l44, y44, z44⟩, st44⟩ := Jvm.LawKit.callS X42 hx (y := (⟨"com/example/shelfwright/shelfwright/checker/OrdersAscendingPinLaw", "pos", "([III)I"⟩ : MethodName)) hown (mvT hZ (hw _ (List.mem_of_getElem? (i := 6) rfl))) (mvT hZ (hw _ (List.mem_of_getElem? (i := 7) rfl))) (mvT hZ (hw _ (List.mem_of_getElem? (i := 8) rfl))) (mvT hZ (hw _ (List.mem_of_getElem? (i := 9) rfl))) (by decide) (own_back (W := 1) (rm2 l Z a0 hw b1 k1 _ (own_rk x0 x1 x2 x3) 2 1 h38 n0 Z38 Va9_39 ⟨rfl, fun j hj => by
          match j, hj with
          | 0, _ => rfl
          | 1, _ => rfl
          | 2, _ => rfl
          | 3, _ => rfl⟩ (fun i hi => Nat.le_trans (Nat.le_of_lt (hrk i hi)) (by omega)) (by decide) (by decide)) hZ (hw _ (List.mem_of_getElem? (i := 9) rfl)) (hw _ (List.mem_of_getElem? (i := 8) rfl)) (by decide) (by decide)) (g := (mkF m 204 #[.val (.int p1), .val (.int p2), .val (.int p3), .val (.int p4), .val (.int p5), .val (.int p6), .val (.int (2 : Int32)), .val (.int (Int32.ofNat (cn + 1))), .val (.ref b1), .val (.ref b28), .val (.ref b38), .val (.int (1 : Int32))] [(.int (1 : Int32)), (.int (2 : Int32)), (.ref b1), (.ref b38)])) rfl (by rw [hml]; rfl) (argsL := [(.ref b1), (.int (2 : Int32)), (.int (1 : Int32))]) (rest := [(.ref b38)]) (lenOf pd_1 rfl) rfl (by show 2 * 0 + _ ≤ _; exact Nat.le_of_eq rfl) (hb hby at_204) (fun _ _ => ⟨rfl, e42, (Nat.le_of_ble_eq_true rfl), (Nat.le_of_ble_eq_true rfl)⟩)
    dsimp only [Pt.U, Pt.locs, Pt.cells, Pt.slots] at X44 l44 y44 z44 st44 hQ44
    subst l44 y44 z44
    obtain ⟨rfl, Nq44, he44⟩ := hQ44
    have N44 := Fr.app N42 Nq44
    have e44 : T44.heap = h38 := he44
    refine own_st (T' := T44) (g' := (mkF m 207 #[.val (.int p1), .val (.int p2), .val (.int p3), .val (.int p4), .val (.int p5), .val (.int p6), .val (.int (2 : Int32)), .val (.int (Int32.ofNat (cn + 1))), .val (.ref b1), .val (.ref b28), .val (.ref b38), .val (.int (1 : Int32))] [(.int (Int32.ofNat (own_pos (own_rk x0 x1 x2 x3) 2 1))), (.ref b38)])) (fun t9 k9 => st44 t9 k9) ?_
    have hps1 := own_pos_lt (rk := (own_rk x0 x1 x2 x3)) (n := 2) (p := 1) (by decide)
    obtain ⟨s11, s21⟩ := own_nat (i := own_pos (own_rk x0 x1 x2 x3) 2 1) (by omega)
    obtain ⟨clu45, Aru45, qu45, Su45, Nu45, Hu45, Gu45⟩ := (id Vq38)
    have hinu45 := inb_of Su45 (j := (Int32.ofNat (own_pos (own_rk x0 x1 x2 x3) 2 1))) ⟨s21, own_lt (n := 2) hps1 (by omega)⟩
    refine own_st (T' := T44) (g' := (mkF m 208 #[.val (.int p1), .val (.int p2), .val (.int p3), .val (.int p4), .val (.int p5), .val (.int p6), .val (.int (2 : Int32)), .val (.int (Int32.ofNat (cn + 1))), .val (.ref b1), .val (.ref b28), .val (.ref b38), .val (.int (1 : Int32))] [(.int (1 : Int32))])) (fun t9 k9 => X44.iaload hx (j := (Int32.ofNat (own_pos (own_rk x0 x1 x2 x3) 2 1))) (v := (.int (1 : Int32))) (by rw [e44]; exact Aru45.1) (State.isArrayOf_alike hZ.alike Aru45.2.1) Aru45.2.2 hinu45 (Hu45.at hinu45 (by rw [s11]; exact hO38 1 (by decide))) (g := (mkF m 207 #[.val (.int p1), .val (.int p2), .val (.int p3), .val (.int p4), .val (.int p5), .val (.int p6), .val (.int (2 : Int32)), .val (.int (Int32.ofNat (cn + 1))), .val (.ref b1), .val (.ref b28), .val (.ref b38), .val (.int (1 : Int32))] [(.int (Int32.ofNat (own_pos (own_rk x0 x1 x2 x3) 2 1))), (.ref b38)])) rfl rfl (hb hby at_207) t9 k9) ?_
    refine own_st (T' := T44) (g' := (mkF m 209 #[.val (.int p1), .val (.int p2), .val (.int p3), .val (.int p4), .val (.int p5), .val (.int p6), .val (.int (2 : Int32)), .val (.int (Int32.ofNat (cn + 1))), .val (.ref b1), .val (.ref b28), .val (.ref b38), .val (.int (1 : Int32))] [(.int (1 : Int32)), (.int (1 : Int32))])) (fun t9 k9 => XS.iconst X44.here hx rfl (hb hby at_208) k9) ?_
    refine own_st (T' := T44) (g' := (mkF m 212 #[.val (.int p1), .val (.int p2), .val (.int p3), .val (.int p4), .val (.int p5), .val (.int p6), .val (.int (2 : Int32)), .val (.int (Int32.ofNat (cn + 1))), .val (.ref b1), .val (.ref b28), .val (.ref b38), .val (.int (1 : Int32))] [])) (fun t9 k9 => XS.icmpNo X44.here hx rfl (hb hby at_209) rfl (teq rfl).2 k9) ?_
    refine own_st (T' := T44) (g' := (mkF m 213 #[.val (.int p1), .val (.int p2), .val (.int p3), .val (.int p4), .val (.int p5), .val (.int p6), .val (.int (2 : Int32)), .val (.int (Int32.ofNat (cn + 1))), .val (.ref b1), .val (.ref b28), .val (.ref b38), .val (.int (1 : Int32))] [(.int (1 : Int32))])) (fun t9 k9 => XS.iconst X44.here hx rfl (hb hby at_212) k9) ?_
    refine own_st (T' := T44) (g' := (mkF m 217 #[.val (.int p1), .val (.int p2), .val (.int p3), .val (.int p4), .val (.int p5), .val (.int p6), .val (.int (2 : Int32)), .val (.int (Int32.ofNat (cn + 1))), .val (.ref b1), .val (.ref b28), .val (.ref b38), .val (.int (1 : Int32))] [(.int (1 : Int32))])) (fun t9 k9 => XS.goto X44.here hx rfl (pc0 := 213) (pc' := 217) rfl (hb hby at_213) (by decide) (by decide) k9) ?_
    refine own_st (T' := T44) (g' := (mkF m 219 #[.val (.int p1), .val (.int p2), .val (.int p3), .val (.int p4), .val (.int p5), .val (.int p6), .val (.int (2 : Int32)), .val (.int (Int32.ofNat (cn + 1))), .val (.ref b1), .val (.ref b28), .val (.ref b38), .val (.int (1 : Int32))] [])) (fun t9 k9 => XS.istore X44.here hx rfl (hb hby at_217) rfl (l' := #[.val (.int p1), .val (.int p2), .val (.int p3), .val (.int p4), .val (.int p5), .val (.int p6), .val (.int (2 : Int32)), .val (.int (Int32.ofNat (cn + 1))), .val (.ref b1), .val (.ref b28), .val (.ref b38), .val (.int (1 : Int32))]) rfl k9) ?_
    refine own_st (T' := T44) (g' := (mkF m 221 #[.val (.int p1), .val (.int p2), .val (.int p3), .val (.int p4), .val (.int p5), .val (.int p6), .val (.int (2 : Int32)), .val (.int (Int32.ofNat (cn + 1))), .val (.ref b1), .val (.ref b28), .val (.ref b38), .val (.int (1 : Int32))] [(.int (2 : Int32))])) (fun t9 k9 => XS.iload X44.here hx rfl (hb hby at_219) rfl k9) ?_
    refine own_st (T' := T44) (g' := (mkF m 222 #[.val (.int p1), .val (.int p2), .val (.int p3), .val (.int p4), .val (.int p5), .val (.int p6), .val (.int (2 : Int32)), .val (.int (Int32.ofNat (cn + 1))), .val (.ref b1), .val (.ref b28), .val (.ref b38), .val (.int (1 : Int32))] [(.int (2 : Int32)), (.int (2 : Int32))])) (fun t9 k9 => XS.iconst X44.here hx rfl (hb hby at_221) k9) ?_
    refine own_st (T' := T44) (g' := (mkF m 252 #[.val (.int p1), .val (.int p2), .val (.int p3), .val (.int p4), .val (.int p5), .val (.int p6), .val (.int (2 : Int32)), .val (.int (Int32.ofNat (cn + 1))), .val (.ref b1), .val (.ref b28), .val (.ref b38), .val (.int (1 : Int32))] [])) (fun t9 k9 => XS.icmpYes X44.here hx rfl (pc0 := 222) (pc' := 252) rfl (hb hby at_222) rfl (flt (by decide)).2.2.2 (by decide) (by decide) k9) ?_
    refine own_st (T' := T44) (g' := (mkF m 254 #[.val (.int p1), .val (.int p2), .val (.int p3), .val (.int p4), .val (.int p5), .val (.int p6), .val (.int (2 : Int32)), .val (.int (Int32.ofNat (cn + 1))), .val (.ref b1), .val (.ref b28), .val (.ref b38), .val (.int (1 : Int32))] [(.int (2 : Int32))])) (fun t9 k9 => XS.iload X44.here hx rfl (hb hby at_252) rfl k9) ?_
    refine own_st (T' := T44) (g' := (mkF m 255 #[.val (.int p1), .val (.int p2), .val (.int p3), .val (.int p4), .val (.int p5), .val (.int p6), .val (.int (2 : Int32)), .val (.int (Int32.ofNat (cn + 1))), .val (.ref b1), .val (.ref b28), .val (.ref b38), .val (.int (1 : Int32))] [(.int (3 : Int32)), (.int (2 : Int32))])) (fun t9 k9 => XS.iconst X44.here hx rfl (hb hby at_254) k9) ?_
    refine own_st (T' := T44) (g' := (mkF m 285 #[.val (.int p1), .val (.int p2), .val (.int p3), .val (.int p4), .val (.int p5), .val (.int p6), .val (.int (2 : Int32)), .val (.int (Int32.ofNat (cn + 1))), .val (.ref b1), .val (.ref b28), .val (.ref b38), .val (.int (1 : Int32))] [])) (fun t9 k9 => XS.icmpYes X44.here hx rfl (pc0 := 255) (pc' := 285) rfl (hb hby at_255) rfl (flt (by decide)).2.2.2 (by decide) (by decide) k9) ?_
    refine own_st (T' := T44) (g' := (mkF m 287 #[.val (.int p1), .val (.int p2), .val (.int p3), .val (.int p4), .val (.int p5), .val (.int p6), .val (.int (2 : Int32)), .val (.int (Int32.ofNat (cn + 1))), .val (.ref b1), .val (.ref b28), .val (.ref b38), .val (.int (1 : Int32))] [(.int (1 : Int32))])) (fun t9 k9 => XS.iload X44.here hx rfl (hb hby at_285) rfl k9) ?_
    refine own_ret (v := some (.int (1 : Int32))) hF X44 (own_some hret) hlk (fun fs hr => retN X44 hx (t := .boolean) hret (by simp) (hb hby at_287) hr) ?_ (by decide) (by decide)
    try rw [e44]
    exact ⟨rfl, N44⟩
  · obtain rfl : ln = (3 : Int32) := hln.trans hl
    show own_Go p e below F T9 (mkF m 67 #[.val (.int p1), .val (.int p2), .val (.int p3), .val (.int p4), .val (.int p5), .val (.int p6), .val (.int (3 : Int32)), .val (.int (Int32.ofNat (cn + 1))), .val (.ref b1), .unset, .unset, .unset] [])
    refine own_st (T' := T9) (g' := (mkF m 69 #[.val (.int p1), .val (.int p2), .val (.int p3), .val (.int p4), .val (.int p5), .val (.int p6), .val (.int (3 : Int32)), .val (.int (Int32.ofNat (cn + 1))), .val (.ref b1), .unset, .unset, .unset] [(.int (3 : Int32))])) (fun t9 k9 => XS.iload X9.here hx rfl (hb hby at_67) rfl k9) ?_
    obtain ⟨T46, h46, k46, X46, e46, Ex46, A46, st46⟩ := newP X9 hx hZ (hw _ (List.mem_of_getElem? (i := 0) rfl)) e9 (g := (mkF m 69 #[.val (.int p1), .val (.int p2), .val (.int p3), .val (.int p4), .val (.int p5), .val (.int p6), .val (.int (3 : Int32)), .val (.int (Int32.ofNat (cn + 1))), .val (.ref b1), .unset, .unset, .unset] [(.int (3 : Int32))])) rfl (hb hby at_69) rfl (by decide) (cap := 3) (by decide) (by decide) (by decide) (by decide)
    obtain ⟨b46, gb46⟩ : ∃ z, z = h9.size := ⟨_, rfl⟩
    have ne_b1_b46 : b1 ≠ b46 := own_ne gb46 Va9.lt
    have g_b46 : n0 ≤ b46 := gb46 ▸ Z9
    have sz_b46 : h0.size ≤ b46 := gb46 ▸ K9.1
    rw [← gb46] at A46 st46
    have Va9_47 := Va9.ext Ex46
    have K46 := K9.ext Ex46
    have Z46 : n0 ≤ h46.size := Nat.le_trans Z9 Ex46.1
    have V_b46 : Arv Z h46 b46 k46 .int (3 : Int32) [(.int (0 : Int32)), (.int (0 : Int32)), (.int (0 : Int32))] (.int (0 : Int32)) := (Arv.new A46 (by decide)).pad (pad_rep [] (.int (0 : Int32)) 3)
    refine own_st (T' := T46) (g' := (mkF m 71 #[.val (.int p1), .val (.int p2), .val (.int p3), .val (.int p4), .val (.int p5), .val (.int p6), .val (.int (3 : Int32)), .val (.int (Int32.ofNat (cn + 1))), .val (.ref b1), .unset, .unset, .unset] [(.ref b46)])) (fun t9 k9 => st46 t9 k9) ?_
    refine own_st (T' := T46) (g' := (mkF m 73 #[.val (.int p1), .val (.int p2), .val (.int p3), .val (.int p4), .val (.int p5), .val (.int p6), .val (.int (3 : Int32)), .val (.int (Int32.ofNat (cn + 1))), .val (.ref b1), .val (.ref b46), .unset, .unset] [])) (fun t9 k9 => XS.astore X46.here hx rfl (hb hby at_71) rfl rfl (l' := #[.val (.int p1), .val (.int p2), .val (.int p3), .val (.int p4), .val (.int p5), .val (.int p6), .val (.int (3 : Int32)), .val (.int (Int32.ofNat (cn + 1))), .val (.ref b1), .val (.ref b46), .unset, .unset]) rfl k9) ?_
    refine own_st (T' := T46) (g' := (mkF m 75 #[.val (.int p1), .val (.int p2), .val (.int p3), .val (.int p4), .val (.int p5), .val (.int p6), .val (.int (3 : Int32)), .val (.int (Int32.ofNat (cn + 1))), .val (.ref b1), .val (.ref b46), .unset, .unset] [(.int (3 : Int32))])) (fun t9 k9 => XS.iload X46.here hx rfl (hb hby at_73) rfl k9) ?_
    refine own_st (T' := T46) (g' := (mkF m 78 #[.val (.int p1), .val (.int p2), .val (.int p3), .val (.int p4), .val (.int p5), .val (.int p6), .val (.int (3 : Int32)), .val (.int (Int32.ofNat (cn + 1))), .val (.ref b1), .val (.ref b46), .unset, .unset] [])) (fun t9 k9 => XS.ifNo X46.here hx rfl (hb hby at_75) rfl ((if0 _ _).trans (tlt (by decide)).2.2.2) k9) ?_
    refine own_st (T' := T46) (g' := (mkF m 80 #[.val (.int p1), .val (.int p2), .val (.int p3), .val (.int p4), .val (.int p5), .val (.int p6), .val (.int (3 : Int32)), .val (.int (Int32.ofNat (cn + 1))), .val (.ref b1), .val (.ref b46), .unset, .unset] [(.ref b46)])) (fun t9 k9 => XS.aload X46.here hx rfl (hb hby at_78) rfl rfl k9) ?_
    refine own_st (T' := T46) (g' := (mkF m 81 #[.val (.int p1), .val (.int p2), .val (.int p3), .val (.int p4), .val (.int p5), .val (.int p6), .val (.int (3 : Int32)), .val (.int (Int32.ofNat (cn + 1))), .val (.ref b1), .val (.ref b46), .unset, .unset] [(.int (0 : Int32)), (.ref b46)])) (fun t9 k9 => XS.iconst X46.here hx rfl (hb hby at_80) k9) ?_
    refine own_st (T' := T46) (g' := (mkF m 83 #[.val (.int p1), .val (.int p2), .val (.int p3), .val (.int p4), .val (.int p5), .val (.int p6), .val (.int (3 : Int32)), .val (.int (Int32.ofNat (cn + 1))), .val (.ref b1), .val (.ref b46), .unset, .unset] [(.ref b1), (.int (0 : Int32)), (.ref b46)])) (fun t9 k9 => XS.aload X46.here hx rfl (hb hby at_81) rfl rfl k9) ?_
    refine own_st (T' := T46) (g' := (mkF m 84 #[.val (.int p1), .val (.int p2), .val (.int p3), .val (.int p4), .val (.int p5), .val (.int p6), .val (.int (3 : Int32)), .val (.int (Int32.ofNat (cn + 1))), .val (.ref b1), .val (.ref b46), .unset, .unset] [(.int (0 : Int32)), (.ref b1), (.int (0 : Int32)), (.ref b46)])) (fun t9 k9 => XS.iconst X46.here hx rfl (hb hby at_83) k9) ?_
    obtain ⟨clu48, Aru48, qu48, Su48, Nu48, Hu48, Gu48⟩ := (id Va9_47)
    have hinu48 := inb_of Su48 (j := (0 : Int32)) ⟨by decide, by decide⟩
    refine own_st (T' := T46) (g' := (mkF m 85 #[.val (.int p1), .val (.int p2), .val (.int p3), .val (.int p4), .val (.int p5), .val (.int p6), .val (.int (3 : Int32)), .val (.int (Int32.ofNat (cn + 1))), .val (.ref b1), .val (.ref b46), .unset, .unset] [(.int (Int32.ofNat x0)), (.int (0 : Int32)), (.ref b46)])) (fun t9 k9 => X46.iaload hx (j := (0 : Int32)) (v := (.int (Int32.ofNat x0))) (by rw [e46]; exact Aru48.1) (State.isArrayOf_alike hZ.alike Aru48.2.1) Aru48.2.2 hinu48 (Hu48.at hinu48 rfl) (g := (mkF m 84 #[.val (.int p1), .val (.int p2), .val (.int p3), .val (.int p4), .val (.int p5), .val (.int p6), .val (.int (3 : Int32)), .val (.int (Int32.ofNat (cn + 1))), .val (.ref b1), .val (.ref b46), .unset, .unset] [(.int (0 : Int32)), (.ref b1), (.int (0 : Int32)), (.ref b46)])) rfl rfl (hb hby at_84) t9 k9) ?_
    obtain ⟨clu49, Aru49, qu49, Su49, Nu49, Hu49, Gu49⟩ := (id V_b46)
    obtain ⟨T50, h50, X50, e50, W50, st50⟩ := stI X46 hx hZ e46 Aru49 (j := (0 : Int32)) (inb_of Su49 ⟨by decide, by decide⟩) (g := (mkF m 85 #[.val (.int p1), .val (.int p2), .val (.int p3), .val (.int p4), .val (.int p5), .val (.int p6), .val (.int (3 : Int32)), .val (.int (Int32.ofNat (cn + 1))), .val (.ref b1), .val (.ref b46), .unset, .unset] [(.int (Int32.ofNat x0)), (.int (0 : Int32)), (.ref b46)])) rfl rfl (hb hby at_85)
    have Va50 := Arv.set Aru49 qu49 Su49 Nu49 Hu49 Gu49 rfl W50 0 rfl (Nat.le_of_ble_eq_true rfl)
    have Va9_51 := Va9_47.other W50 ne_b1_b46
    have K50 := K46.wr W50 (Or.inr sz_b46)
    have N50 := Fr.snoc X50 N9 g_b46
    have Z50 : n0 ≤ h50.size := by rw [W50.size]; exact Z46
    refine own_st (T' := T50) (g' := (mkF m 86 #[.val (.int p1), .val (.int p2), .val (.int p3), .val (.int p4), .val (.int p5), .val (.int p6), .val (.int (3 : Int32)), .val (.int (Int32.ofNat (cn + 1))), .val (.ref b1), .val (.ref b46), .unset, .unset] [])) (fun t9 k9 => st50 t9 k9) ?_
    refine own_st (T' := T50) (g' := (mkF m 88 #[.val (.int p1), .val (.int p2), .val (.int p3), .val (.int p4), .val (.int p5), .val (.int p6), .val (.int (3 : Int32)), .val (.int (Int32.ofNat (cn + 1))), .val (.ref b1), .val (.ref b46), .unset, .unset] [(.int (3 : Int32))])) (fun t9 k9 => XS.iload X50.here hx rfl (hb hby at_86) rfl k9) ?_
    refine own_st (T' := T50) (g' := (mkF m 89 #[.val (.int p1), .val (.int p2), .val (.int p3), .val (.int p4), .val (.int p5), .val (.int p6), .val (.int (3 : Int32)), .val (.int (Int32.ofNat (cn + 1))), .val (.ref b1), .val (.ref b46), .unset, .unset] [(.int (1 : Int32)), (.int (3 : Int32))])) (fun t9 k9 => XS.iconst X50.here hx rfl (hb hby at_88) k9) ?_
    refine own_st (T' := T50) (g' := (mkF m 92 #[.val (.int p1), .val (.int p2), .val (.int p3), .val (.int p4), .val (.int p5), .val (.int p6), .val (.int (3 : Int32)), .val (.int (Int32.ofNat (cn + 1))), .val (.ref b1), .val (.ref b46), .unset, .unset] [])) (fun t9 k9 => XS.icmpNo X50.here hx rfl (hb hby at_89) rfl (tlt (by decide)).2.2.2 k9) ?_
    refine own_st (T' := T50) (g' := (mkF m 94 #[.val (.int p1), .val (.int p2), .val (.int p3), .val (.int p4), .val (.int p5), .val (.int p6), .val (.int (3 : Int32)), .val (.int (Int32.ofNat (cn + 1))), .val (.ref b1), .val (.ref b46), .unset, .unset] [(.ref b46)])) (fun t9 k9 => XS.aload X50.here hx rfl (hb hby at_92) rfl rfl k9) ?_
    refine own_st (T' := T50) (g' := (mkF m 95 #[.val (.int p1), .val (.int p2), .val (.int p3), .val (.int p4), .val (.int p5), .val (.int p6), .val (.int (3 : Int32)), .val (.int (Int32.ofNat (cn + 1))), .val (.ref b1), .val (.ref b46), .unset, .unset] [(.int (1 : Int32)), (.ref b46)])) (fun t9 k9 => XS.iconst X50.here hx rfl (hb hby at_94) k9) ?_
    refine own_st (T' := T50) (g' := (mkF m 97 #[.val (.int p1), .val (.int p2), .val (.int p3), .val (.int p4), .val (.int p5), .val (.int p6), .val (.int (3 : Int32)), .val (.int (Int32.ofNat (cn + 1))), .val (.ref b1), .val (.ref b46), .unset, .unset] [(.ref b1), (.int (1 : Int32)), (.ref b46)])) (fun t9 k9 => XS.aload X50.here hx rfl (hb hby at_95) rfl rfl k9) ?_
    refine own_st (T' := T50) (g' := (mkF m 98 #[.val (.int p1), .val (.int p2), .val (.int p3), .val (.int p4), .val (.int p5), .val (.int p6), .val (.int (3 : Int32)), .val (.int (Int32.ofNat (cn + 1))), .val (.ref b1), .val (.ref b46), .unset, .unset] [(.int (1 : Int32)), (.ref b1), (.int (1 : Int32)), (.ref b46)])) (fun t9 k9 => XS.iconst X50.here hx rfl (hb hby at_97) k9) ?_
    obtain ⟨clu52, Aru52, qu52, Su52, Nu52, Hu52, Gu52⟩ := (id Va9_51)
    have hinu52 := inb_of Su52 (j := (1 : Int32)) ⟨by decide, by decide⟩
    refine own_st (T' := T50) (g' := (mkF m 99 #[.val (.int p1), .val (.int p2), .val (.int p3), .val (.int p4), .val (.int p5), .val (.int p6), .val (.int (3 : Int32)), .val (.int (Int32.ofNat (cn + 1))), .val (.ref b1), .val (.ref b46), .unset, .unset] [(.int (Int32.ofNat x1)), (.int (1 : Int32)), (.ref b46)])) (fun t9 k9 => X50.iaload hx (j := (1 : Int32)) (v := (.int (Int32.ofNat x1))) (by rw [e50]; exact Aru52.1) (State.isArrayOf_alike hZ.alike Aru52.2.1) Aru52.2.2 hinu52 (Hu52.at hinu52 rfl) (g := (mkF m 98 #[.val (.int p1), .val (.int p2), .val (.int p3), .val (.int p4), .val (.int p5), .val (.int p6), .val (.int (3 : Int32)), .val (.int (Int32.ofNat (cn + 1))), .val (.ref b1), .val (.ref b46), .unset, .unset] [(.int (1 : Int32)), (.ref b1), (.int (1 : Int32)), (.ref b46)])) rfl rfl (hb hby at_98) t9 k9) ?_
    obtain ⟨clu53, Aru53, qu53, Su53, Nu53, Hu53, Gu53⟩ := (id Va50)
    obtain ⟨T54, h54, X54, e54, W54, st54⟩ := stI X50 hx hZ e50 Aru53 (j := (1 : Int32)) (inb_of Su53 ⟨by decide, by decide⟩) (g := (mkF m 99 #[.val (.int p1), .val (.int p2), .val (.int p3), .val (.int p4), .val (.int p5), .val (.int p6), .val (.int (3 : Int32)), .val (.int (Int32.ofNat (cn + 1))), .val (.ref b1), .val (.ref b46), .unset, .unset] [(.int (Int32.ofNat x1)), (.int (1 : Int32)), (.ref b46)])) rfl rfl (hb hby at_99)
    have Va54 := Arv.set Aru53 qu53 Su53 Nu53 Hu53 Gu53 rfl W54 1 rfl (Nat.le_of_ble_eq_true rfl)
    have Va9_55 := Va9_51.other W54 ne_b1_b46
    have K54 := K50.wr W54 (Or.inr sz_b46)
    have N54 := Fr.snoc X54 N50 g_b46
    have Z54 : n0 ≤ h54.size := by rw [W54.size]; exact Z50
    refine own_st (T' := T54) (g' := (mkF m 100 #[.val (.int p1), .val (.int p2), .val (.int p3), .val (.int p4), .val (.int p5), .val (.int p6), .val (.int (3 : Int32)), .val (.int (Int32.ofNat (cn + 1))), .val (.ref b1), .val (.ref b46), .unset, .unset] [])) (fun t9 k9 => st54 t9 k9) ?_
    refine own_st (T' := T54) (g' := (mkF m 102 #[.val (.int p1), .val (.int p2), .val (.int p3), .val (.int p4), .val (.int p5), .val (.int p6), .val (.int (3 : Int32)), .val (.int (Int32.ofNat (cn + 1))), .val (.ref b1), .val (.ref b46), .unset, .unset] [(.int (3 : Int32))])) (fun t9 k9 => XS.iload X54.here hx rfl (hb hby at_100) rfl k9) ?_
    refine own_st (T' := T54) (g' := (mkF m 103 #[.val (.int p1), .val (.int p2), .val (.int p3), .val (.int p4), .val (.int p5), .val (.int p6), .val (.int (3 : Int32)), .val (.int (Int32.ofNat (cn + 1))), .val (.ref b1), .val (.ref b46), .unset, .unset] [(.int (2 : Int32)), (.int (3 : Int32))])) (fun t9 k9 => XS.iconst X54.here hx rfl (hb hby at_102) k9) ?_
    refine own_st (T' := T54) (g' := (mkF m 106 #[.val (.int p1), .val (.int p2), .val (.int p3), .val (.int p4), .val (.int p5), .val (.int p6), .val (.int (3 : Int32)), .val (.int (Int32.ofNat (cn + 1))), .val (.ref b1), .val (.ref b46), .unset, .unset] [])) (fun t9 k9 => XS.icmpNo X54.here hx rfl (hb hby at_103) rfl (tlt (by decide)).2.2.2 k9) ?_
    refine own_st (T' := T54) (g' := (mkF m 108 #[.val (.int p1), .val (.int p2), .val (.int p3), .val (.int p4), .val (.int p5), .val (.int p6), .val (.int (3 : Int32)), .val (.int (Int32.ofNat (cn + 1))), .val (.ref b1), .val (.ref b46), .unset, .unset] [(.ref b46)])) (fun t9 k9 => XS.aload X54.here hx rfl (hb hby at_106) rfl rfl k9) ?_
    refine own_st (T' := T54) (g' := (mkF m 109 #[.val (.int p1), .val (.int p2), .val (.int p3), .val (.int p4), .val (.int p5), .val (.int p6), .val (.int (3 : Int32)), .val (.int (Int32.ofNat (cn + 1))), .val (.ref b1), .val (.ref b46), .unset, .unset] [(.int (2 : Int32)), (.ref b46)])) (fun t9 k9 => XS.iconst X54.here hx rfl (hb hby at_108) k9) ?_
    refine own_st (T' := T54) (g' := (mkF m 111 #[.val (.int p1), .val (.int p2), .val (.int p3), .val (.int p4), .val (.int p5), .val (.int p6), .val (.int (3 : Int32)), .val (.int (Int32.ofNat (cn + 1))), .val (.ref b1), .val (.ref b46), .unset, .unset] [(.ref b1), (.int (2 : Int32)), (.ref b46)])) (fun t9 k9 => XS.aload X54.here hx rfl (hb hby at_109) rfl rfl k9) ?_
    refine own_st (T' := T54) (g' := (mkF m 112 #[.val (.int p1), .val (.int p2), .val (.int p3), .val (.int p4), .val (.int p5), .val (.int p6), .val (.int (3 : Int32)), .val (.int (Int32.ofNat (cn + 1))), .val (.ref b1), .val (.ref b46), .unset, .unset] [(.int (2 : Int32)), (.ref b1), (.int (2 : Int32)), (.ref b46)])) (fun t9 k9 => XS.iconst X54.here hx rfl (hb hby at_111) k9) ?_
    obtain ⟨clu56, Aru56, qu56, Su56, Nu56, Hu56, Gu56⟩ := (id Va9_55)
    have hinu56 := inb_of Su56 (j := (2 : Int32)) ⟨by decide, by decide⟩
    refine own_st (T' := T54) (g' := (mkF m 113 #[.val (.int p1), .val (.int p2), .val (.int p3), .val (.int p4), .val (.int p5), .val (.int p6), .val (.int (3 : Int32)), .val (.int (Int32.ofNat (cn + 1))), .val (.ref b1), .val (.ref b46), .unset, .unset] [(.int (Int32.ofNat x2)), (.int (2 : Int32)), (.ref b46)])) (fun t9 k9 => X54.iaload hx (j := (2 : Int32)) (v := (.int (Int32.ofNat x2))) (by rw [e54]; exact Aru56.1) (State.isArrayOf_alike hZ.alike Aru56.2.1) Aru56.2.2 hinu56 (Hu56.at hinu56 rfl) (g := (mkF m 112 #[.val (.int p1), .val (.int p2), .val (.int p3), .val (.int p4), .val (.int p5), .val (.int p6), .val (.int (3 : Int32)), .val (.int (Int32.ofNat (cn + 1))), .val (.ref b1), .val (.ref b46), .unset, .unset] [(.int (2 : Int32)), (.ref b1), (.int (2 : Int32)), (.ref b46)])) rfl rfl (hb hby at_112) t9 k9) ?_
    obtain ⟨clu57, Aru57, qu57, Su57, Nu57, Hu57, Gu57⟩ := (id Va54)
    obtain ⟨T58, h58, X58, e58, W58, st58⟩ := stI X54 hx hZ e54 Aru57 (j := (2 : Int32)) (inb_of Su57 ⟨by decide, by decide⟩) (g := (mkF m 113 #[.val (.int p1), .val (.int p2), .val (.int p3), .val (.int p4), .val (.int p5), .val (.int p6), .val (.int (3 : Int32)), .val (.int (Int32.ofNat (cn + 1))), .val (.ref b1), .val (.ref b46), .unset, .unset] [(.int (Int32.ofNat x2)), (.int (2 : Int32)), (.ref b46)])) rfl rfl (hb hby at_113)
    have Va58 := Arv.set Aru57 qu57 Su57 Nu57 Hu57 Gu57 rfl W58 2 rfl (Nat.le_of_ble_eq_true rfl)
    have Va9_59 := Va9_55.other W58 ne_b1_b46
    have K58 := K54.wr W58 (Or.inr sz_b46)
    have N58 := Fr.snoc X58 N54 g_b46
    have Z58 : n0 ≤ h58.size := by rw [W58.size]; exact Z54
    refine own_st (T' := T58) (g' := (mkF m 114 #[.val (.int p1), .val (.int p2), .val (.int p3), .val (.int p4), .val (.int p5), .val (.int p6), .val (.int (3 : Int32)), .val (.int (Int32.ofNat (cn + 1))), .val (.ref b1), .val (.ref b46), .unset, .unset] [])) (fun t9 k9 => st58 t9 k9) ?_
    refine own_st (T' := T58) (g' := (mkF m 116 #[.val (.int p1), .val (.int p2), .val (.int p3), .val (.int p4), .val (.int p5), .val (.int p6), .val (.int (3 : Int32)), .val (.int (Int32.ofNat (cn + 1))), .val (.ref b1), .val (.ref b46), .unset, .unset] [(.int (3 : Int32))])) (fun t9 k9 => XS.iload X58.here hx rfl (hb hby at_114) rfl k9) ?_
    refine own_st (T' := T58) (g' := (mkF m 117 #[.val (.int p1), .val (.int p2), .val (.int p3), .val (.int p4), .val (.int p5), .val (.int p6), .val (.int (3 : Int32)), .val (.int (Int32.ofNat (cn + 1))), .val (.ref b1), .val (.ref b46), .unset, .unset] [(.int (3 : Int32)), (.int (3 : Int32))])) (fun t9 k9 => XS.iconst X58.here hx rfl (hb hby at_116) k9) ?_
    refine own_st (T' := T58) (g' := (mkF m 128 #[.val (.int p1), .val (.int p2), .val (.int p3), .val (.int p4), .val (.int p5), .val (.int p6), .val (.int (3 : Int32)), .val (.int (Int32.ofNat (cn + 1))), .val (.ref b1), .val (.ref b46), .unset, .unset] [])) (fun t9 k9 => XS.icmpYes X58.here hx rfl (pc0 := 117) (pc' := 128) rfl (hb hby at_117) rfl (flt (by decide)).2.2.2 (by decide) (by decide) k9) ?_
    refine own_st (T' := T58) (g' := (mkF m 130 #[.val (.int p1), .val (.int p2), .val (.int p3), .val (.int p4), .val (.int p5), .val (.int p6), .val (.int (3 : Int32)), .val (.int (Int32.ofNat (cn + 1))), .val (.ref b1), .val (.ref b46), .unset, .unset] [(.ref b46)])) (fun t9 k9 => XS.aload X58.here hx rfl (hb hby at_128) rfl rfl k9) ?_
    refine own_st (T' := T58) (g' := (mkF m 132 #[.val (.int p1), .val (.int p2), .val (.int p3), .val (.int p4), .val (.int p5), .val (.int p6), .val (.int (3 : Int32)), .val (.int (Int32.ofNat (cn + 1))), .val (.ref b1), .val (.ref b46), .unset, .unset] [(.int (Int32.ofNat (cn + 1))), (.ref b46)])) (fun t9 k9 => XS.iload X58.here hx rfl (hb hby at_130) rfl k9) ?_
    obtain ⟨_, _, ⟨T60, L60, k60, n60⟩, -, X60, ⟨Lc60, hQ60, l60, y60, z60⟩, st60⟩ := Jvm.LawKit.callS X58 hx (y := (⟨"com/example/shelfwright/shelfwright/checker/Orders", "ascending", "([II)[I"⟩ : MethodName)) hown (mvT hZ (hw _ (List.mem_of_getElem? (i := 2) rfl))) (mvT hZ (hw _ (List.mem_of_getElem? (i := 3) rfl))) (mvT hZ (hw _ (List.mem_of_getElem? (i := 4) rfl))) (mvT hZ (hw _ (List.mem_of_getElem? (i := 5) rfl))) (by decide) (own_back (W := 0) (rm1 l Z a0 hw b46 k46 _ (own_rk x0 x1 x2 x3) 3 (cn + 1) h58 n0 Z58 Va58 ⟨rfl, fun j hj => by
          match j, hj with
          | 0, _ => rfl
          | 1, _ => rfl
          | 2, _ => rfl⟩ (by decide) (by omega) (fun i hi => hrk i (by omega))) hZ (hw _ (List.mem_of_getElem? (i := 5) rfl)) (hw _ (List.mem_of_getElem? (i := 4) rfl)) (by decide) (by decide)) (g := (mkF m 132 #[.val (.int p1), .val (.int p2), .val (.int p3), .val (.int p4), .val (.int p5), .val (.int p6), .val (.int (3 : Int32)), .val (.int (Int32.ofNat (cn + 1))), .val (.ref b1), .val (.ref b46), .unset, .unset] [(.int (Int32.ofNat (cn + 1))), (.ref b46)])) rfl (by rw [hml]; rfl) (argsL := [(.ref b46), (.int (Int32.ofNat (cn + 1)))]) (rest := []) (lenOf pd_0 rfl) rfl (by show 2 * 0 + _ ≤ _; exact Nat.le_of_eq rfl) (hb hby at_132) (fun _ _ => ⟨rfl, e58, (Nat.le_of_ble_eq_true rfl), (Nat.le_of_ble_eq_true rfl)⟩)
    dsimp only [Pt.U, Pt.locs, Pt.cells, Pt.slots] at X60 l60 y60 z60 st60 hQ60
    subst l60 y60 z60
    obtain ⟨b60, kb60, vb60, rfl, Nq60, Kq60, Vq60, hO60⟩ := hQ60
    have N60 := Fr.app N58 Nq60
    obtain ⟨h60, e60⟩ : ∃ z, T60.heap = z := ⟨_, rfl⟩
    rw [e60] at Kq60 Vq60
    have Va9_61 := Va9_59.keep Kq60 nin0
    have Va58_62 := Va58.keep Kq60 nin0
    have K60 := K58.trans Kq60 all0
    have Z60 : n0 ≤ h60.size := Nat.le_trans Z58 Kq60.1
    refine own_st (T' := T60) (g' := (mkF m 135 #[.val (.int p1), .val (.int p2), .val (.int p3), .val (.int p4), .val (.int p5), .val (.int p6), .val (.int (3 : Int32)), .val (.int (Int32.ofNat (cn + 1))), .val (.ref b1), .val (.ref b46), .unset, .unset] [(.ref b60)])) (fun t9 k9 => st60 t9 k9) ?_
    refine own_st (T' := T60) (g' := (mkF m 137 #[.val (.int p1), .val (.int p2), .val (.int p3), .val (.int p4), .val (.int p5), .val (.int p6), .val (.int (3 : Int32)), .val (.int (Int32.ofNat (cn + 1))), .val (.ref b1), .val (.ref b46), .val (.ref b60), .unset] [])) (fun t9 k9 => XS.astore X60.here hx rfl (hb hby at_135) rfl rfl (l' := #[.val (.int p1), .val (.int p2), .val (.int p3), .val (.int p4), .val (.int p5), .val (.int p6), .val (.int (3 : Int32)), .val (.int (Int32.ofNat (cn + 1))), .val (.ref b1), .val (.ref b46), .val (.ref b60), .unset]) rfl k9) ?_
    refine own_st (T' := T60) (g' := (mkF m 139 #[.val (.int p1), .val (.int p2), .val (.int p3), .val (.int p4), .val (.int p5), .val (.int p6), .val (.int (3 : Int32)), .val (.int (Int32.ofNat (cn + 1))), .val (.ref b1), .val (.ref b46), .val (.ref b60), .unset] [(.ref b60)])) (fun t9 k9 => XS.aload X60.here hx rfl (hb hby at_137) rfl rfl k9) ?_
    refine own_st (T' := T60) (g' := (mkF m 142 #[.val (.int p1), .val (.int p2), .val (.int p3), .val (.int p4), .val (.int p5), .val (.int p6), .val (.int (3 : Int32)), .val (.int (Int32.ofNat (cn + 1))), .val (.ref b1), .val (.ref b46), .val (.ref b60), .unset] [])) (fun t9 k9 => XS.ifnullNo X60.here hx rfl (hb hby at_139) rfl k9) ?_
    refine own_st (T' := T60) (g' := (mkF m 144 #[.val (.int p1), .val (.int p2), .val (.int p3), .val (.int p4), .val (.int p5), .val (.int p6), .val (.int (3 : Int32)), .val (.int (Int32.ofNat (cn + 1))), .val (.ref b1), .val (.ref b46), .val (.ref b60), .unset] [(.ref b60)])) (fun t9 k9 => XS.aload X60.here hx rfl (hb hby at_142) rfl rfl k9) ?_
    obtain ⟨clu63, Aru63, qu63, Su63, Nu63, Hu63, Gu63⟩ := (id Vq60)
    refine own_st (T' := T60) (g' := (mkF m 145 #[.val (.int p1), .val (.int p2), .val (.int p3), .val (.int p4), .val (.int p5), .val (.int p6), .val (.int (3 : Int32)), .val (.int (Int32.ofNat (cn + 1))), .val (.ref b1), .val (.ref b46), .val (.ref b60), .unset] [(.int (3 : Int32))])) (fun t9 k9 => X60.arraylength hx (by rw [e60]; exact Aru63.1) (State.isArrayOf_alike hZ.alike Aru63.2.1) (g := (mkF m 144 #[.val (.int p1), .val (.int p2), .val (.int p3), .val (.int p4), .val (.int p5), .val (.int p6), .val (.int (3 : Int32)), .val (.int (Int32.ofNat (cn + 1))), .val (.ref b1), .val (.ref b46), .val (.ref b60), .unset] [(.ref b60)])) rfl rfl (hb hby at_144) t9 (by rw [len_of Su63 Nu63]; exact k9)) ?_
    refine own_st (T' := T60) (g' := (mkF m 147 #[.val (.int p1), .val (.int p2), .val (.int p3), .val (.int p4), .val (.int p5), .val (.int p6), .val (.int (3 : Int32)), .val (.int (Int32.ofNat (cn + 1))), .val (.ref b1), .val (.ref b46), .val (.ref b60), .unset] [(.int (3 : Int32)), (.int (3 : Int32))])) (fun t9 k9 => XS.iload X60.here hx rfl (hb hby at_145) rfl k9) ?_
    refine own_st (T' := T60) (g' := (mkF m 152 #[.val (.int p1), .val (.int p2), .val (.int p3), .val (.int p4), .val (.int p5), .val (.int p6), .val (.int (3 : Int32)), .val (.int (Int32.ofNat (cn + 1))), .val (.ref b1), .val (.ref b46), .val (.ref b60), .unset] [])) (fun t9 k9 => XS.icmpYes X60.here hx rfl (pc0 := 147) (pc' := 152) rfl (hb hby at_147) rfl (teq rfl).1 (by decide) (by decide) k9) ?_
    refine own_st (T' := T60) (g' := (mkF m 153 #[.val (.int p1), .val (.int p2), .val (.int p3), .val (.int p4), .val (.int p5), .val (.int p6), .val (.int (3 : Int32)), .val (.int (Int32.ofNat (cn + 1))), .val (.ref b1), .val (.ref b46), .val (.ref b60), .unset] [(.int (1 : Int32))])) (fun t9 k9 => XS.iconst X60.here hx rfl (hb hby at_152) k9) ?_
    refine own_st (T' := T60) (g' := (mkF m 155 #[.val (.int p1), .val (.int p2), .val (.int p3), .val (.int p4), .val (.int p5), .val (.int p6), .val (.int (3 : Int32)), .val (.int (Int32.ofNat (cn + 1))), .val (.ref b1), .val (.ref b46), .val (.ref b60), .val (.int (1 : Int32))] [])) (fun t9 k9 => XS.istore X60.here hx rfl (hb hby at_153) rfl (l' := #[.val (.int p1), .val (.int p2), .val (.int p3), .val (.int p4), .val (.int p5), .val (.int p6), .val (.int (3 : Int32)), .val (.int (Int32.ofNat (cn + 1))), .val (.ref b1), .val (.ref b46), .val (.ref b60), .val (.int (1 : Int32))]) rfl k9) ?_
    refine own_st (T' := T60) (g' := (mkF m 157 #[.val (.int p1), .val (.int p2), .val (.int p3), .val (.int p4), .val (.int p5), .val (.int p6), .val (.int (3 : Int32)), .val (.int (Int32.ofNat (cn + 1))), .val (.ref b1), .val (.ref b46), .val (.ref b60), .val (.int (1 : Int32))] [(.int (3 : Int32))])) (fun t9 k9 => XS.iload X60.here hx rfl (hb hby at_155) rfl k9) ?_
    refine own_st (T' := T60) (g' := (mkF m 160 #[.val (.int p1), .val (.int p2), .val (.int p3), .val (.int p4), .val (.int p5), .val (.int p6), .val (.int (3 : Int32)), .val (.int (Int32.ofNat (cn + 1))), .val (.ref b1), .val (.ref b46), .val (.ref b60), .val (.int (1 : Int32))] [])) (fun t9 k9 => XS.ifNo X60.here hx rfl (hb hby at_157) rfl ((if0 _ _).trans (tlt (by decide)).2.2.2) k9) ?_
    refine own_st (T' := T60) (g' := (mkF m 162 #[.val (.int p1), .val (.int p2), .val (.int p3), .val (.int p4), .val (.int p5), .val (.int p6), .val (.int (3 : Int32)), .val (.int (Int32.ofNat (cn + 1))), .val (.ref b1), .val (.ref b46), .val (.ref b60), .val (.int (1 : Int32))] [(.int (1 : Int32))])) (fun t9 k9 => XS.iload X60.here hx rfl (hb hby at_160) rfl k9) ?_
    refine own_st (T' := T60) (g' := (mkF m 165 #[.val (.int p1), .val (.int p2), .val (.int p3), .val (.int p4), .val (.int p5), .val (.int p6), .val (.int (3 : Int32)), .val (.int (Int32.ofNat (cn + 1))), .val (.ref b1), .val (.ref b46), .val (.ref b60), .val (.int (1 : Int32))] [])) (fun t9 k9 => XS.ifNo X60.here hx rfl (hb hby at_162) rfl ((if0 _ _).trans (feq (by decide)).1) k9) ?_
    refine own_st (T' := T60) (g' := (mkF m 167 #[.val (.int p1), .val (.int p2), .val (.int p3), .val (.int p4), .val (.int p5), .val (.int p6), .val (.int (3 : Int32)), .val (.int (Int32.ofNat (cn + 1))), .val (.ref b1), .val (.ref b46), .val (.ref b60), .val (.int (1 : Int32))] [(.ref b60)])) (fun t9 k9 => XS.aload X60.here hx rfl (hb hby at_165) rfl rfl k9) ?_
    refine own_st (T' := T60) (g' := (mkF m 169 #[.val (.int p1), .val (.int p2), .val (.int p3), .val (.int p4), .val (.int p5), .val (.int p6), .val (.int (3 : Int32)), .val (.int (Int32.ofNat (cn + 1))), .val (.ref b1), .val (.ref b46), .val (.ref b60), .val (.int (1 : Int32))] [(.ref b1), (.ref b60)])) (fun t9 k9 => XS.aload X60.here hx rfl (hb hby at_167) rfl rfl k9) ?_
    refine own_st (T' := T60) (g' := (mkF m 171 #[.val (.int p1), .val (.int p2), .val (.int p3), .val (.int p4), .val (.int p5), .val (.int p6), .val (.int (3 : Int32)), .val (.int (Int32.ofNat (cn + 1))), .val (.ref b1), .val (.ref b46), .val (.ref b60), .val (.int (1 : Int32))] [(.int (3 : Int32)), (.ref b1), (.ref b60)])) (fun t9 k9 => XS.iload X60.here hx rfl (hb hby at_169) rfl k9) ?_
    refine own_st (T' := T60) (g' := (mkF m 172 #[.val (.int p1), .val (.int p2), .val (.int p3), .val (.int p4), .val (.int p5), .val (.int p6), .val (.int (3 : Int32)), .val (.int (Int32.ofNat (cn + 1))), .val (.ref b1), .val (.ref b46), .val (.ref b60), .val (.int (1 : Int32))] [(.int (0 : Int32)), (.int (3 : Int32)), (.ref b1), (.ref b60)])) (fun t9 k9 => XS.iconst X60.here hx rfl (hb hby at_171) k9) ?_
    obtain ⟨_, _, ⟨T64, L64, k64, n64⟩, -, X64, ⟨Lc64, hQ64, l64, y64, z64⟩, st64⟩ := Jvm.LawKit.callS X60 hx (y := (⟨"com/example/shelfwright/shelfwright/checker/OrdersAscendingPinLaw", "pos", "([III)I"⟩ : MethodName)) hown (mvT hZ (hw _ (List.mem_of_getElem? (i := 6) rfl))) (mvT hZ (hw _ (List.mem_of_getElem? (i := 7) rfl))) (mvT hZ (hw _ (List.mem_of_getElem? (i := 8) rfl))) (mvT hZ (hw _ (List.mem_of_getElem? (i := 9) rfl))) (by decide) (own_back (W := 1) (rm2 l Z a0 hw b1 k1 _ (own_rk x0 x1 x2 x3) 3 0 h60 n0 Z60 Va9_61 ⟨rfl, fun j hj => by
          match j, hj with
          | 0, _ => rfl
          | 1, _ => rfl
          | 2, _ => rfl
          | 3, _ => rfl⟩ (fun i hi => Nat.le_trans (Nat.le_of_lt (hrk i hi)) (by omega)) (by decide) (by decide)) hZ (hw _ (List.mem_of_getElem? (i := 9) rfl)) (hw _ (List.mem_of_getElem? (i := 8) rfl)) (by decide) (by decide)) (g := (mkF m 172 #[.val (.int p1), .val (.int p2), .val (.int p3), .val (.int p4), .val (.int p5), .val (.int p6), .val (.int (3 : Int32)), .val (.int (Int32.ofNat (cn + 1))), .val (.ref b1), .val (.ref b46), .val (.ref b60), .val (.int (1 : Int32))] [(.int (0 : Int32)), (.int (3 : Int32)), (.ref b1), (.ref b60)])) rfl (by rw [hml]; rfl) (argsL := [(.ref b1), (.int (3 : Int32)), (.int (0 : Int32))]) (rest := [(.ref b60)]) (lenOf pd_1 rfl) rfl (by show 2 * 0 + _ ≤ _; exact Nat.le_of_eq rfl) (hb hby at_172) (fun _ _ => ⟨rfl, e60, (Nat.le_of_ble_eq_true rfl), (Nat.le_of_ble_eq_true rfl)⟩)
    dsimp only [Pt.U, Pt.locs, Pt.cells, Pt.slots] at X64 l64 y64 z64 st64 hQ64
    subst l64 y64 z64
    obtain ⟨rfl, Nq64, he64⟩ := hQ64
    have N64 := Fr.app N60 Nq64
    have e64 : T64.heap = h60 := he64
    refine own_st (T' := T64) (g' := (mkF m 175 #[.val (.int p1), .val (.int p2), .val (.int p3), .val (.int p4), .val (.int p5), .val (.int p6), .val (.int (3 : Int32)), .val (.int (Int32.ofNat (cn + 1))), .val (.ref b1), .val (.ref b46), .val (.ref b60), .val (.int (1 : Int32))] [(.int (Int32.ofNat (own_pos (own_rk x0 x1 x2 x3) 3 0))), (.ref b60)])) (fun t9 k9 => st64 t9 k9) ?_
    have hps0 := own_pos_lt (rk := (own_rk x0 x1 x2 x3)) (n := 3) (p := 0) (by decide)
    obtain ⟨s10, s20⟩ := own_nat (i := own_pos (own_rk x0 x1 x2 x3) 3 0) (by omega)
    obtain ⟨clu65, Aru65, qu65, Su65, Nu65, Hu65, Gu65⟩ := (id Vq60)
    have hinu65 := inb_of Su65 (j := (Int32.ofNat (own_pos (own_rk x0 x1 x2 x3) 3 0))) ⟨s20, own_lt (n := 3) hps0 (by omega)⟩
    refine own_st (T' := T64) (g' := (mkF m 176 #[.val (.int p1), .val (.int p2), .val (.int p3), .val (.int p4), .val (.int p5), .val (.int p6), .val (.int (3 : Int32)), .val (.int (Int32.ofNat (cn + 1))), .val (.ref b1), .val (.ref b46), .val (.ref b60), .val (.int (1 : Int32))] [(.int (0 : Int32))])) (fun t9 k9 => X64.iaload hx (j := (Int32.ofNat (own_pos (own_rk x0 x1 x2 x3) 3 0))) (v := (.int (0 : Int32))) (by rw [e64]; exact Aru65.1) (State.isArrayOf_alike hZ.alike Aru65.2.1) Aru65.2.2 hinu65 (Hu65.at hinu65 (by rw [s10]; exact hO60 0 (by decide))) (g := (mkF m 175 #[.val (.int p1), .val (.int p2), .val (.int p3), .val (.int p4), .val (.int p5), .val (.int p6), .val (.int (3 : Int32)), .val (.int (Int32.ofNat (cn + 1))), .val (.ref b1), .val (.ref b46), .val (.ref b60), .val (.int (1 : Int32))] [(.int (Int32.ofNat (own_pos (own_rk x0 x1 x2 x3) 3 0))), (.ref b60)])) rfl rfl (hb hby at_175) t9 k9) ?_
    refine own_st (T' := T64) (g' := (mkF m 179 #[.val (.int p1), .val (.int p2), .val (.int p3), .val (.int p4), .val (.int p5), .val (.int p6), .val (.int (3 : Int32)), .val (.int (Int32.ofNat (cn + 1))), .val (.ref b1), .val (.ref b46), .val (.ref b60), .val (.int (1 : Int32))] [])) (fun t9 k9 => XS.ifNo X64.here hx rfl (hb hby at_176) rfl ((if0 _ _).trans (teq rfl).2) k9) ?_
    refine own_st (T' := T64) (g' := (mkF m 180 #[.val (.int p1), .val (.int p2), .val (.int p3), .val (.int p4), .val (.int p5), .val (.int p6), .val (.int (3 : Int32)), .val (.int (Int32.ofNat (cn + 1))), .val (.ref b1), .val (.ref b46), .val (.ref b60), .val (.int (1 : Int32))] [(.int (1 : Int32))])) (fun t9 k9 => XS.iconst X64.here hx rfl (hb hby at_179) k9) ?_
    refine own_st (T' := T64) (g' := (mkF m 184 #[.val (.int p1), .val (.int p2), .val (.int p3), .val (.int p4), .val (.int p5), .val (.int p6), .val (.int (3 : Int32)), .val (.int (Int32.ofNat (cn + 1))), .val (.ref b1), .val (.ref b46), .val (.ref b60), .val (.int (1 : Int32))] [(.int (1 : Int32))])) (fun t9 k9 => XS.goto X64.here hx rfl (pc0 := 180) (pc' := 184) rfl (hb hby at_180) (by decide) (by decide) k9) ?_
    refine own_st (T' := T64) (g' := (mkF m 186 #[.val (.int p1), .val (.int p2), .val (.int p3), .val (.int p4), .val (.int p5), .val (.int p6), .val (.int (3 : Int32)), .val (.int (Int32.ofNat (cn + 1))), .val (.ref b1), .val (.ref b46), .val (.ref b60), .val (.int (1 : Int32))] [])) (fun t9 k9 => XS.istore X64.here hx rfl (hb hby at_184) rfl (l' := #[.val (.int p1), .val (.int p2), .val (.int p3), .val (.int p4), .val (.int p5), .val (.int p6), .val (.int (3 : Int32)), .val (.int (Int32.ofNat (cn + 1))), .val (.ref b1), .val (.ref b46), .val (.ref b60), .val (.int (1 : Int32))]) rfl k9) ?_
    refine own_st (T' := T64) (g' := (mkF m 188 #[.val (.int p1), .val (.int p2), .val (.int p3), .val (.int p4), .val (.int p5), .val (.int p6), .val (.int (3 : Int32)), .val (.int (Int32.ofNat (cn + 1))), .val (.ref b1), .val (.ref b46), .val (.ref b60), .val (.int (1 : Int32))] [(.int (3 : Int32))])) (fun t9 k9 => XS.iload X64.here hx rfl (hb hby at_186) rfl k9) ?_
    refine own_st (T' := T64) (g' := (mkF m 189 #[.val (.int p1), .val (.int p2), .val (.int p3), .val (.int p4), .val (.int p5), .val (.int p6), .val (.int (3 : Int32)), .val (.int (Int32.ofNat (cn + 1))), .val (.ref b1), .val (.ref b46), .val (.ref b60), .val (.int (1 : Int32))] [(.int (1 : Int32)), (.int (3 : Int32))])) (fun t9 k9 => XS.iconst X64.here hx rfl (hb hby at_188) k9) ?_
    refine own_st (T' := T64) (g' := (mkF m 192 #[.val (.int p1), .val (.int p2), .val (.int p3), .val (.int p4), .val (.int p5), .val (.int p6), .val (.int (3 : Int32)), .val (.int (Int32.ofNat (cn + 1))), .val (.ref b1), .val (.ref b46), .val (.ref b60), .val (.int (1 : Int32))] [])) (fun t9 k9 => XS.icmpNo X64.here hx rfl (hb hby at_189) rfl (tlt (by decide)).2.2.2 k9) ?_
    refine own_st (T' := T64) (g' := (mkF m 194 #[.val (.int p1), .val (.int p2), .val (.int p3), .val (.int p4), .val (.int p5), .val (.int p6), .val (.int (3 : Int32)), .val (.int (Int32.ofNat (cn + 1))), .val (.ref b1), .val (.ref b46), .val (.ref b60), .val (.int (1 : Int32))] [(.int (1 : Int32))])) (fun t9 k9 => XS.iload X64.here hx rfl (hb hby at_192) rfl k9) ?_
    refine own_st (T' := T64) (g' := (mkF m 197 #[.val (.int p1), .val (.int p2), .val (.int p3), .val (.int p4), .val (.int p5), .val (.int p6), .val (.int (3 : Int32)), .val (.int (Int32.ofNat (cn + 1))), .val (.ref b1), .val (.ref b46), .val (.ref b60), .val (.int (1 : Int32))] [])) (fun t9 k9 => XS.ifNo X64.here hx rfl (hb hby at_194) rfl ((if0 _ _).trans (feq (by decide)).1) k9) ?_
    refine own_st (T' := T64) (g' := (mkF m 199 #[.val (.int p1), .val (.int p2), .val (.int p3), .val (.int p4), .val (.int p5), .val (.int p6), .val (.int (3 : Int32)), .val (.int (Int32.ofNat (cn + 1))), .val (.ref b1), .val (.ref b46), .val (.ref b60), .val (.int (1 : Int32))] [(.ref b60)])) (fun t9 k9 => XS.aload X64.here hx rfl (hb hby at_197) rfl rfl k9) ?_
    refine own_st (T' := T64) (g' := (mkF m 201 #[.val (.int p1), .val (.int p2), .val (.int p3), .val (.int p4), .val (.int p5), .val (.int p6), .val (.int (3 : Int32)), .val (.int (Int32.ofNat (cn + 1))), .val (.ref b1), .val (.ref b46), .val (.ref b60), .val (.int (1 : Int32))] [(.ref b1), (.ref b60)])) (fun t9 k9 => XS.aload X64.here hx rfl (hb hby at_199) rfl rfl k9) ?_
    refine own_st (T' := T64) (g' := (mkF m 203 #[.val (.int p1), .val (.int p2), .val (.int p3), .val (.int p4), .val (.int p5), .val (.int p6), .val (.int (3 : Int32)), .val (.int (Int32.ofNat (cn + 1))), .val (.ref b1), .val (.ref b46), .val (.ref b60), .val (.int (1 : Int32))] [(.int (3 : Int32)), (.ref b1), (.ref b60)])) (fun t9 k9 => XS.iload X64.here hx rfl (hb hby at_201) rfl k9) ?_
    refine own_st (T' := T64) (g' := (mkF m 204 #[.val (.int p1), .val (.int p2), .val (.int p3), .val (.int p4), .val (.int p5), .val (.int p6), .val (.int (3 : Int32)), .val (.int (Int32.ofNat (cn + 1))), .val (.ref b1), .val (.ref b46), .val (.ref b60), .val (.int (1 : Int32))] [(.int (1 : Int32)), (.int (3 : Int32)), (.ref b1), (.ref b60)])) (fun t9 k9 => XS.iconst X64.here hx rfl (hb hby at_203) k9) ?_
    obtain ⟨_, _, ⟨T66, L66, k66, n66⟩, -, X66, ⟨Lc66, hQ66, l66, y66, z66⟩, st66⟩ := Jvm.LawKit.callS X64 hx (y := (⟨"com/example/shelfwright/shelfwright/checker/OrdersAscendingPinLaw", "pos", "([III)I"⟩ : MethodName)) hown (mvT hZ (hw _ (List.mem_of_getElem? (i := 6) rfl))) (mvT hZ (hw _ (List.mem_of_getElem? (i := 7) rfl))) (mvT hZ (hw _ (List.mem_of_getElem? (i := 8) rfl))) (mvT hZ (hw _ (List.mem_of_getElem? (i := 9) rfl))) (by decide) (own_back (W := 1) (rm2 l Z a0 hw b1 k1 _ (own_rk x0 x1 x2 x3) 3 1 h60 n0 Z60 Va9_61 ⟨rfl, fun j hj => by
          match j, hj with
          | 0, _ => rfl
          | 1, _ => rfl
          | 2, _ => rfl
          | 3, _ => rfl⟩ (fun i hi => Nat.le_trans (Nat.le_of_lt (hrk i hi)) (by omega)) (by decide) (by decide)) hZ (hw _ (List.mem_of_getElem? (i := 9) rfl)) (hw _ (List.mem_of_getElem? (i := 8) rfl)) (by decide) (by decide)) (g := (mkF m 204 #[.val (.int p1), .val (.int p2), .val (.int p3), .val (.int p4), .val (.int p5), .val (.int p6), .val (.int (3 : Int32)), .val (.int (Int32.ofNat (cn + 1))), .val (.ref b1), .val (.ref b46), .val (.ref b60), .val (.int (1 : Int32))] [(.int (1 : Int32)), (.int (3 : Int32)), (.ref b1), (.ref b60)])) rfl (by rw [hml]; rfl) (argsL := [(.ref b1), (.int (3 : Int32)), (.int (1 : Int32))]) (rest := [(.ref b60)]) (lenOf pd_1 rfl) rfl (by show 2 * 0 + _ ≤ _; exact Nat.le_of_eq rfl) (hb hby at_204) (fun _ _ => ⟨rfl, e64, (Nat.le_of_ble_eq_true rfl), (Nat.le_of_ble_eq_true rfl)⟩)
    dsimp only [Pt.U, Pt.locs, Pt.cells, Pt.slots] at X66 l66 y66 z66 st66 hQ66
    subst l66 y66 z66
    obtain ⟨rfl, Nq66, he66⟩ := hQ66
    have N66 := Fr.app N64 Nq66
    have e66 : T66.heap = h60 := he66
    refine own_st (T' := T66) (g' := (mkF m 207 #[.val (.int p1), .val (.int p2), .val (.int p3), .val (.int p4), .val (.int p5), .val (.int p6), .val (.int (3 : Int32)), .val (.int (Int32.ofNat (cn + 1))), .val (.ref b1), .val (.ref b46), .val (.ref b60), .val (.int (1 : Int32))] [(.int (Int32.ofNat (own_pos (own_rk x0 x1 x2 x3) 3 1))), (.ref b60)])) (fun t9 k9 => st66 t9 k9) ?_
    have hps1 := own_pos_lt (rk := (own_rk x0 x1 x2 x3)) (n := 3) (p := 1) (by decide)
    obtain ⟨s11, s21⟩ := own_nat (i := own_pos (own_rk x0 x1 x2 x3) 3 1) (by omega)
    obtain ⟨clu67, Aru67, qu67, Su67, Nu67, Hu67, Gu67⟩ := (id Vq60)
    have hinu67 := inb_of Su67 (j := (Int32.ofNat (own_pos (own_rk x0 x1 x2 x3) 3 1))) ⟨s21, own_lt (n := 3) hps1 (by omega)⟩
    refine own_st (T' := T66) (g' := (mkF m 208 #[.val (.int p1), .val (.int p2), .val (.int p3), .val (.int p4), .val (.int p5), .val (.int p6), .val (.int (3 : Int32)), .val (.int (Int32.ofNat (cn + 1))), .val (.ref b1), .val (.ref b46), .val (.ref b60), .val (.int (1 : Int32))] [(.int (1 : Int32))])) (fun t9 k9 => X66.iaload hx (j := (Int32.ofNat (own_pos (own_rk x0 x1 x2 x3) 3 1))) (v := (.int (1 : Int32))) (by rw [e66]; exact Aru67.1) (State.isArrayOf_alike hZ.alike Aru67.2.1) Aru67.2.2 hinu67 (Hu67.at hinu67 (by rw [s11]; exact hO60 1 (by decide))) (g := (mkF m 207 #[.val (.int p1), .val (.int p2), .val (.int p3), .val (.int p4), .val (.int p5), .val (.int p6), .val (.int (3 : Int32)), .val (.int (Int32.ofNat (cn + 1))), .val (.ref b1), .val (.ref b46), .val (.ref b60), .val (.int (1 : Int32))] [(.int (Int32.ofNat (own_pos (own_rk x0 x1 x2 x3) 3 1))), (.ref b60)])) rfl rfl (hb hby at_207) t9 k9) ?_
    refine own_st (T' := T66) (g' := (mkF m 209 #[.val (.int p1), .val (.int p2), .val (.int p3), .val (.int p4), .val (.int p5), .val (.int p6), .val (.int (3 : Int32)), .val (.int (Int32.ofNat (cn + 1))), .val (.ref b1), .val (.ref b46), .val (.ref b60), .val (.int (1 : Int32))] [(.int (1 : Int32)), (.int (1 : Int32))])) (fun t9 k9 => XS.iconst X66.here hx rfl (hb hby at_208) k9) ?_
    refine own_st (T' := T66) (g' := (mkF m 212 #[.val (.int p1), .val (.int p2), .val (.int p3), .val (.int p4), .val (.int p5), .val (.int p6), .val (.int (3 : Int32)), .val (.int (Int32.ofNat (cn + 1))), .val (.ref b1), .val (.ref b46), .val (.ref b60), .val (.int (1 : Int32))] [])) (fun t9 k9 => XS.icmpNo X66.here hx rfl (hb hby at_209) rfl (teq rfl).2 k9) ?_
    refine own_st (T' := T66) (g' := (mkF m 213 #[.val (.int p1), .val (.int p2), .val (.int p3), .val (.int p4), .val (.int p5), .val (.int p6), .val (.int (3 : Int32)), .val (.int (Int32.ofNat (cn + 1))), .val (.ref b1), .val (.ref b46), .val (.ref b60), .val (.int (1 : Int32))] [(.int (1 : Int32))])) (fun t9 k9 => XS.iconst X66.here hx rfl (hb hby at_212) k9) ?_
    refine own_st (T' := T66) (g' := (mkF m 217 #[.val (.int p1), .val (.int p2), .val (.int p3), .val (.int p4), .val (.int p5), .val (.int p6), .val (.int (3 : Int32)), .val (.int (Int32.ofNat (cn + 1))), .val (.ref b1), .val (.ref b46), .val (.ref b60), .val (.int (1 : Int32))] [(.int (1 : Int32))])) (fun t9 k9 => XS.goto X66.here hx rfl (pc0 := 213) (pc' := 217) rfl (hb hby at_213) (by decide) (by decide) k9) ?_
    refine own_st (T' := T66) (g' := (mkF m 219 #[.val (.int p1), .val (.int p2), .val (.int p3), .val (.int p4), .val (.int p5), .val (.int p6), .val (.int (3 : Int32)), .val (.int (Int32.ofNat (cn + 1))), .val (.ref b1), .val (.ref b46), .val (.ref b60), .val (.int (1 : Int32))] [])) (fun t9 k9 => XS.istore X66.here hx rfl (hb hby at_217) rfl (l' := #[.val (.int p1), .val (.int p2), .val (.int p3), .val (.int p4), .val (.int p5), .val (.int p6), .val (.int (3 : Int32)), .val (.int (Int32.ofNat (cn + 1))), .val (.ref b1), .val (.ref b46), .val (.ref b60), .val (.int (1 : Int32))]) rfl k9) ?_
    refine own_st (T' := T66) (g' := (mkF m 221 #[.val (.int p1), .val (.int p2), .val (.int p3), .val (.int p4), .val (.int p5), .val (.int p6), .val (.int (3 : Int32)), .val (.int (Int32.ofNat (cn + 1))), .val (.ref b1), .val (.ref b46), .val (.ref b60), .val (.int (1 : Int32))] [(.int (3 : Int32))])) (fun t9 k9 => XS.iload X66.here hx rfl (hb hby at_219) rfl k9) ?_
    refine own_st (T' := T66) (g' := (mkF m 222 #[.val (.int p1), .val (.int p2), .val (.int p3), .val (.int p4), .val (.int p5), .val (.int p6), .val (.int (3 : Int32)), .val (.int (Int32.ofNat (cn + 1))), .val (.ref b1), .val (.ref b46), .val (.ref b60), .val (.int (1 : Int32))] [(.int (2 : Int32)), (.int (3 : Int32))])) (fun t9 k9 => XS.iconst X66.here hx rfl (hb hby at_221) k9) ?_
    refine own_st (T' := T66) (g' := (mkF m 225 #[.val (.int p1), .val (.int p2), .val (.int p3), .val (.int p4), .val (.int p5), .val (.int p6), .val (.int (3 : Int32)), .val (.int (Int32.ofNat (cn + 1))), .val (.ref b1), .val (.ref b46), .val (.ref b60), .val (.int (1 : Int32))] [])) (fun t9 k9 => XS.icmpNo X66.here hx rfl (hb hby at_222) rfl (tlt (by decide)).2.2.2 k9) ?_
    refine own_st (T' := T66) (g' := (mkF m 227 #[.val (.int p1), .val (.int p2), .val (.int p3), .val (.int p4), .val (.int p5), .val (.int p6), .val (.int (3 : Int32)), .val (.int (Int32.ofNat (cn + 1))), .val (.ref b1), .val (.ref b46), .val (.ref b60), .val (.int (1 : Int32))] [(.int (1 : Int32))])) (fun t9 k9 => XS.iload X66.here hx rfl (hb hby at_225) rfl k9) ?_
    refine own_st (T' := T66) (g' := (mkF m 230 #[.val (.int p1), .val (.int p2), .val (.int p3), .val (.int p4), .val (.int p5), .val (.int p6), .val (.int (3 : Int32)), .val (.int (Int32.ofNat (cn + 1))), .val (.ref b1), .val (.ref b46), .val (.ref b60), .val (.int (1 : Int32))] [])) (fun t9 k9 => XS.ifNo X66.here hx rfl (hb hby at_227) rfl ((if0 _ _).trans (feq (by decide)).1) k9) ?_
    refine own_st (T' := T66) (g' := (mkF m 232 #[.val (.int p1), .val (.int p2), .val (.int p3), .val (.int p4), .val (.int p5), .val (.int p6), .val (.int (3 : Int32)), .val (.int (Int32.ofNat (cn + 1))), .val (.ref b1), .val (.ref b46), .val (.ref b60), .val (.int (1 : Int32))] [(.ref b60)])) (fun t9 k9 => XS.aload X66.here hx rfl (hb hby at_230) rfl rfl k9) ?_
    refine own_st (T' := T66) (g' := (mkF m 234 #[.val (.int p1), .val (.int p2), .val (.int p3), .val (.int p4), .val (.int p5), .val (.int p6), .val (.int (3 : Int32)), .val (.int (Int32.ofNat (cn + 1))), .val (.ref b1), .val (.ref b46), .val (.ref b60), .val (.int (1 : Int32))] [(.ref b1), (.ref b60)])) (fun t9 k9 => XS.aload X66.here hx rfl (hb hby at_232) rfl rfl k9) ?_
    refine own_st (T' := T66) (g' := (mkF m 236 #[.val (.int p1), .val (.int p2), .val (.int p3), .val (.int p4), .val (.int p5), .val (.int p6), .val (.int (3 : Int32)), .val (.int (Int32.ofNat (cn + 1))), .val (.ref b1), .val (.ref b46), .val (.ref b60), .val (.int (1 : Int32))] [(.int (3 : Int32)), (.ref b1), (.ref b60)])) (fun t9 k9 => XS.iload X66.here hx rfl (hb hby at_234) rfl k9) ?_
    refine own_st (T' := T66) (g' := (mkF m 237 #[.val (.int p1), .val (.int p2), .val (.int p3), .val (.int p4), .val (.int p5), .val (.int p6), .val (.int (3 : Int32)), .val (.int (Int32.ofNat (cn + 1))), .val (.ref b1), .val (.ref b46), .val (.ref b60), .val (.int (1 : Int32))] [(.int (2 : Int32)), (.int (3 : Int32)), (.ref b1), (.ref b60)])) (fun t9 k9 => XS.iconst X66.here hx rfl (hb hby at_236) k9) ?_
    obtain ⟨_, _, ⟨T68, L68, k68, n68⟩, -, X68, ⟨Lc68, hQ68, l68, y68, z68⟩, st68⟩ := Jvm.LawKit.callS X66 hx (y := (⟨"com/example/shelfwright/shelfwright/checker/OrdersAscendingPinLaw", "pos", "([III)I"⟩ : MethodName)) hown (mvT hZ (hw _ (List.mem_of_getElem? (i := 6) rfl))) (mvT hZ (hw _ (List.mem_of_getElem? (i := 7) rfl))) (mvT hZ (hw _ (List.mem_of_getElem? (i := 8) rfl))) (mvT hZ (hw _ (List.mem_of_getElem? (i := 9) rfl))) (by decide) (own_back (W := 1) (rm2 l Z a0 hw b1 k1 _ (own_rk x0 x1 x2 x3) 3 2 h60 n0 Z60 Va9_61 ⟨rfl, fun j hj => by
          match j, hj with
          | 0, _ => rfl
          | 1, _ => rfl
          | 2, _ => rfl
          | 3, _ => rfl⟩ (fun i hi => Nat.le_trans (Nat.le_of_lt (hrk i hi)) (by omega)) (by decide) (by decide)) hZ (hw _ (List.mem_of_getElem? (i := 9) rfl)) (hw _ (List.mem_of_getElem? (i := 8) rfl)) (by decide) (by decide)) (g := (mkF m 237 #[.val (.int p1), .val (.int p2), .val (.int p3), .val (.int p4), .val (.int p5), .val (.int p6), .val (.int (3 : Int32)), .val (.int (Int32.ofNat (cn + 1))), .val (.ref b1), .val (.ref b46), .val (.ref b60), .val (.int (1 : Int32))] [(.int (2 : Int32)), (.int (3 : Int32)), (.ref b1), (.ref b60)])) rfl (by rw [hml]; rfl) (argsL := [(.ref b1), (.int (3 : Int32)), (.int (2 : Int32))]) (rest := [(.ref b60)]) (lenOf pd_1 rfl) rfl (by show 2 * 0 + _ ≤ _; exact Nat.le_of_eq rfl) (hb hby at_237) (fun _ _ => ⟨rfl, e66, (Nat.le_of_ble_eq_true rfl), (Nat.le_of_ble_eq_true rfl)⟩)
    dsimp only [Pt.U, Pt.locs, Pt.cells, Pt.slots] at X68 l68 y68 z68 st68 hQ68
    subst l68 y68 z68
    obtain ⟨rfl, Nq68, he68⟩ := hQ68
    have N68 := Fr.app N66 Nq68
    have e68 : T68.heap = h60 := he68
    refine own_st (T' := T68) (g' := (mkF m 240 #[.val (.int p1), .val (.int p2), .val (.int p3), .val (.int p4), .val (.int p5), .val (.int p6), .val (.int (3 : Int32)), .val (.int (Int32.ofNat (cn + 1))), .val (.ref b1), .val (.ref b46), .val (.ref b60), .val (.int (1 : Int32))] [(.int (Int32.ofNat (own_pos (own_rk x0 x1 x2 x3) 3 2))), (.ref b60)])) (fun t9 k9 => st68 t9 k9) ?_
    have hps2 := own_pos_lt (rk := (own_rk x0 x1 x2 x3)) (n := 3) (p := 2) (by decide)
    obtain ⟨s12, s22⟩ := own_nat (i := own_pos (own_rk x0 x1 x2 x3) 3 2) (by omega)
    obtain ⟨clu69, Aru69, qu69, Su69, Nu69, Hu69, Gu69⟩ := (id Vq60)
    have hinu69 := inb_of Su69 (j := (Int32.ofNat (own_pos (own_rk x0 x1 x2 x3) 3 2))) ⟨s22, own_lt (n := 3) hps2 (by omega)⟩
    refine own_st (T' := T68) (g' := (mkF m 241 #[.val (.int p1), .val (.int p2), .val (.int p3), .val (.int p4), .val (.int p5), .val (.int p6), .val (.int (3 : Int32)), .val (.int (Int32.ofNat (cn + 1))), .val (.ref b1), .val (.ref b46), .val (.ref b60), .val (.int (1 : Int32))] [(.int (2 : Int32))])) (fun t9 k9 => X68.iaload hx (j := (Int32.ofNat (own_pos (own_rk x0 x1 x2 x3) 3 2))) (v := (.int (2 : Int32))) (by rw [e68]; exact Aru69.1) (State.isArrayOf_alike hZ.alike Aru69.2.1) Aru69.2.2 hinu69 (Hu69.at hinu69 (by rw [s12]; exact hO60 2 (by decide))) (g := (mkF m 240 #[.val (.int p1), .val (.int p2), .val (.int p3), .val (.int p4), .val (.int p5), .val (.int p6), .val (.int (3 : Int32)), .val (.int (Int32.ofNat (cn + 1))), .val (.ref b1), .val (.ref b46), .val (.ref b60), .val (.int (1 : Int32))] [(.int (Int32.ofNat (own_pos (own_rk x0 x1 x2 x3) 3 2))), (.ref b60)])) rfl rfl (hb hby at_240) t9 k9) ?_
    refine own_st (T' := T68) (g' := (mkF m 242 #[.val (.int p1), .val (.int p2), .val (.int p3), .val (.int p4), .val (.int p5), .val (.int p6), .val (.int (3 : Int32)), .val (.int (Int32.ofNat (cn + 1))), .val (.ref b1), .val (.ref b46), .val (.ref b60), .val (.int (1 : Int32))] [(.int (2 : Int32)), (.int (2 : Int32))])) (fun t9 k9 => XS.iconst X68.here hx rfl (hb hby at_241) k9) ?_
    refine own_st (T' := T68) (g' := (mkF m 245 #[.val (.int p1), .val (.int p2), .val (.int p3), .val (.int p4), .val (.int p5), .val (.int p6), .val (.int (3 : Int32)), .val (.int (Int32.ofNat (cn + 1))), .val (.ref b1), .val (.ref b46), .val (.ref b60), .val (.int (1 : Int32))] [])) (fun t9 k9 => XS.icmpNo X68.here hx rfl (hb hby at_242) rfl (teq rfl).2 k9) ?_
    refine own_st (T' := T68) (g' := (mkF m 246 #[.val (.int p1), .val (.int p2), .val (.int p3), .val (.int p4), .val (.int p5), .val (.int p6), .val (.int (3 : Int32)), .val (.int (Int32.ofNat (cn + 1))), .val (.ref b1), .val (.ref b46), .val (.ref b60), .val (.int (1 : Int32))] [(.int (1 : Int32))])) (fun t9 k9 => XS.iconst X68.here hx rfl (hb hby at_245) k9) ?_
    refine own_st (T' := T68) (g' := (mkF m 250 #[.val (.int p1), .val (.int p2), .val (.int p3), .val (.int p4), .val (.int p5), .val (.int p6), .val (.int (3 : Int32)), .val (.int (Int32.ofNat (cn + 1))), .val (.ref b1), .val (.ref b46), .val (.ref b60), .val (.int (1 : Int32))] [(.int (1 : Int32))])) (fun t9 k9 => XS.goto X68.here hx rfl (pc0 := 246) (pc' := 250) rfl (hb hby at_246) (by decide) (by decide) k9) ?_
    refine own_st (T' := T68) (g' := (mkF m 252 #[.val (.int p1), .val (.int p2), .val (.int p3), .val (.int p4), .val (.int p5), .val (.int p6), .val (.int (3 : Int32)), .val (.int (Int32.ofNat (cn + 1))), .val (.ref b1), .val (.ref b46), .val (.ref b60), .val (.int (1 : Int32))] [])) (fun t9 k9 => XS.istore X68.here hx rfl (hb hby at_250) rfl (l' := #[.val (.int p1), .val (.int p2), .val (.int p3), .val (.int p4), .val (.int p5), .val (.int p6), .val (.int (3 : Int32)), .val (.int (Int32.ofNat (cn + 1))), .val (.ref b1), .val (.ref b46), .val (.ref b60), .val (.int (1 : Int32))]) rfl k9) ?_
    refine own_st (T' := T68) (g' := (mkF m 254 #[.val (.int p1), .val (.int p2), .val (.int p3), .val (.int p4), .val (.int p5), .val (.int p6), .val (.int (3 : Int32)), .val (.int (Int32.ofNat (cn + 1))), .val (.ref b1), .val (.ref b46), .val (.ref b60), .val (.int (1 : Int32))] [(.int (3 : Int32))])) (fun t9 k9 => XS.iload X68.here hx rfl (hb hby at_252) rfl k9) ?_
    refine own_st (T' := T68) (g' := (mkF m 255 #[.val (.int p1), .val (.int p2), .val (.int p3), .val (.int p4), .val (.int p5), .val (.int p6), .val (.int (3 : Int32)), .val (.int (Int32.ofNat (cn + 1))), .val (.ref b1), .val (.ref b46), .val (.ref b60), .val (.int (1 : Int32))] [(.int (3 : Int32)), (.int (3 : Int32))])) (fun t9 k9 => XS.iconst X68.here hx rfl (hb hby at_254) k9) ?_
    refine own_st (T' := T68) (g' := (mkF m 285 #[.val (.int p1), .val (.int p2), .val (.int p3), .val (.int p4), .val (.int p5), .val (.int p6), .val (.int (3 : Int32)), .val (.int (Int32.ofNat (cn + 1))), .val (.ref b1), .val (.ref b46), .val (.ref b60), .val (.int (1 : Int32))] [])) (fun t9 k9 => XS.icmpYes X68.here hx rfl (pc0 := 255) (pc' := 285) rfl (hb hby at_255) rfl (flt (by decide)).2.2.2 (by decide) (by decide) k9) ?_
    refine own_st (T' := T68) (g' := (mkF m 287 #[.val (.int p1), .val (.int p2), .val (.int p3), .val (.int p4), .val (.int p5), .val (.int p6), .val (.int (3 : Int32)), .val (.int (Int32.ofNat (cn + 1))), .val (.ref b1), .val (.ref b46), .val (.ref b60), .val (.int (1 : Int32))] [(.int (1 : Int32))])) (fun t9 k9 => XS.iload X68.here hx rfl (hb hby at_285) rfl k9) ?_
    refine own_ret (v := some (.int (1 : Int32))) hF X68 (own_some hret) hlk (fun fs hr => retN X68 hx (t := .boolean) hret (by simp) (hb hby at_287) hr) ?_ (by decide) (by decide)
    try rw [e68]
    exact ⟨rfl, N68⟩
  · obtain rfl : ln = (4 : Int32) := hln.trans hl
    show own_Go p e below F T9 (mkF m 67 #[.val (.int p1), .val (.int p2), .val (.int p3), .val (.int p4), .val (.int p5), .val (.int p6), .val (.int (4 : Int32)), .val (.int (Int32.ofNat (cn + 1))), .val (.ref b1), .unset, .unset, .unset] [])
    refine own_st (T' := T9) (g' := (mkF m 69 #[.val (.int p1), .val (.int p2), .val (.int p3), .val (.int p4), .val (.int p5), .val (.int p6), .val (.int (4 : Int32)), .val (.int (Int32.ofNat (cn + 1))), .val (.ref b1), .unset, .unset, .unset] [(.int (4 : Int32))])) (fun t9 k9 => XS.iload X9.here hx rfl (hb hby at_67) rfl k9) ?_
    obtain ⟨T70, h70, k70, X70, e70, Ex70, A70, st70⟩ := newP X9 hx hZ (hw _ (List.mem_of_getElem? (i := 0) rfl)) e9 (g := (mkF m 69 #[.val (.int p1), .val (.int p2), .val (.int p3), .val (.int p4), .val (.int p5), .val (.int p6), .val (.int (4 : Int32)), .val (.int (Int32.ofNat (cn + 1))), .val (.ref b1), .unset, .unset, .unset] [(.int (4 : Int32))])) rfl (hb hby at_69) rfl (by decide) (cap := 4) (by decide) (by decide) (by decide) (by decide)
    obtain ⟨b70, gb70⟩ : ∃ z, z = h9.size := ⟨_, rfl⟩
    have ne_b1_b70 : b1 ≠ b70 := own_ne gb70 Va9.lt
    have g_b70 : n0 ≤ b70 := gb70 ▸ Z9
    have sz_b70 : h0.size ≤ b70 := gb70 ▸ K9.1
    rw [← gb70] at A70 st70
    have Va9_71 := Va9.ext Ex70
    have K70 := K9.ext Ex70
    have Z70 : n0 ≤ h70.size := Nat.le_trans Z9 Ex70.1
    have V_b70 : Arv Z h70 b70 k70 .int (4 : Int32) [(.int (0 : Int32)), (.int (0 : Int32)), (.int (0 : Int32)), (.int (0 : Int32))] (.int (0 : Int32)) := (Arv.new A70 (by decide)).pad (pad_rep [] (.int (0 : Int32)) 4)
    refine own_st (T' := T70) (g' := (mkF m 71 #[.val (.int p1), .val (.int p2), .val (.int p3), .val (.int p4), .val (.int p5), .val (.int p6), .val (.int (4 : Int32)), .val (.int (Int32.ofNat (cn + 1))), .val (.ref b1), .unset, .unset, .unset] [(.ref b70)])) (fun t9 k9 => st70 t9 k9) ?_
    refine own_st (T' := T70) (g' := (mkF m 73 #[.val (.int p1), .val (.int p2), .val (.int p3), .val (.int p4), .val (.int p5), .val (.int p6), .val (.int (4 : Int32)), .val (.int (Int32.ofNat (cn + 1))), .val (.ref b1), .val (.ref b70), .unset, .unset] [])) (fun t9 k9 => XS.astore X70.here hx rfl (hb hby at_71) rfl rfl (l' := #[.val (.int p1), .val (.int p2), .val (.int p3), .val (.int p4), .val (.int p5), .val (.int p6), .val (.int (4 : Int32)), .val (.int (Int32.ofNat (cn + 1))), .val (.ref b1), .val (.ref b70), .unset, .unset]) rfl k9) ?_
    refine own_st (T' := T70) (g' := (mkF m 75 #[.val (.int p1), .val (.int p2), .val (.int p3), .val (.int p4), .val (.int p5), .val (.int p6), .val (.int (4 : Int32)), .val (.int (Int32.ofNat (cn + 1))), .val (.ref b1), .val (.ref b70), .unset, .unset] [(.int (4 : Int32))])) (fun t9 k9 => XS.iload X70.here hx rfl (hb hby at_73) rfl k9) ?_
    refine own_st (T' := T70) (g' := (mkF m 78 #[.val (.int p1), .val (.int p2), .val (.int p3), .val (.int p4), .val (.int p5), .val (.int p6), .val (.int (4 : Int32)), .val (.int (Int32.ofNat (cn + 1))), .val (.ref b1), .val (.ref b70), .unset, .unset] [])) (fun t9 k9 => XS.ifNo X70.here hx rfl (hb hby at_75) rfl ((if0 _ _).trans (tlt (by decide)).2.2.2) k9) ?_
    refine own_st (T' := T70) (g' := (mkF m 80 #[.val (.int p1), .val (.int p2), .val (.int p3), .val (.int p4), .val (.int p5), .val (.int p6), .val (.int (4 : Int32)), .val (.int (Int32.ofNat (cn + 1))), .val (.ref b1), .val (.ref b70), .unset, .unset] [(.ref b70)])) (fun t9 k9 => XS.aload X70.here hx rfl (hb hby at_78) rfl rfl k9) ?_
    refine own_st (T' := T70) (g' := (mkF m 81 #[.val (.int p1), .val (.int p2), .val (.int p3), .val (.int p4), .val (.int p5), .val (.int p6), .val (.int (4 : Int32)), .val (.int (Int32.ofNat (cn + 1))), .val (.ref b1), .val (.ref b70), .unset, .unset] [(.int (0 : Int32)), (.ref b70)])) (fun t9 k9 => XS.iconst X70.here hx rfl (hb hby at_80) k9) ?_
    refine own_st (T' := T70) (g' := (mkF m 83 #[.val (.int p1), .val (.int p2), .val (.int p3), .val (.int p4), .val (.int p5), .val (.int p6), .val (.int (4 : Int32)), .val (.int (Int32.ofNat (cn + 1))), .val (.ref b1), .val (.ref b70), .unset, .unset] [(.ref b1), (.int (0 : Int32)), (.ref b70)])) (fun t9 k9 => XS.aload X70.here hx rfl (hb hby at_81) rfl rfl k9) ?_
    refine own_st (T' := T70) (g' := (mkF m 84 #[.val (.int p1), .val (.int p2), .val (.int p3), .val (.int p4), .val (.int p5), .val (.int p6), .val (.int (4 : Int32)), .val (.int (Int32.ofNat (cn + 1))), .val (.ref b1), .val (.ref b70), .unset, .unset] [(.int (0 : Int32)), (.ref b1), (.int (0 : Int32)), (.ref b70)])) (fun t9 k9 => XS.iconst X70.here hx rfl (hb hby at_83) k9) ?_
    obtain ⟨clu72, Aru72, qu72, Su72, Nu72, Hu72, Gu72⟩ := (id Va9_71)
    have hinu72 := inb_of Su72 (j := (0 : Int32)) ⟨by decide, by decide⟩
    refine own_st (T' := T70) (g' := (mkF m 85 #[.val (.int p1), .val (.int p2), .val (.int p3), .val (.int p4), .val (.int p5), .val (.int p6), .val (.int (4 : Int32)), .val (.int (Int32.ofNat (cn + 1))), .val (.ref b1), .val (.ref b70), .unset, .unset] [(.int (Int32.ofNat x0)), (.int (0 : Int32)), (.ref b70)])) (fun t9 k9 => X70.iaload hx (j := (0 : Int32)) (v := (.int (Int32.ofNat x0))) (by rw [e70]; exact Aru72.1) (State.isArrayOf_alike hZ.alike Aru72.2.1) Aru72.2.2 hinu72 (Hu72.at hinu72 rfl) (g := (mkF m 84 #[.val (.int p1), .val (.int p2), .val (.int p3), .val (.int p4), .val (.int p5), .val (.int p6), .val (.int (4 : Int32)), .val (.int (Int32.ofNat (cn + 1))), .val (.ref b1), .val (.ref b70), .unset, .unset] [(.int (0 : Int32)), (.ref b1), (.int (0 : Int32)), (.ref b70)])) rfl rfl (hb hby at_84) t9 k9) ?_
    obtain ⟨clu73, Aru73, qu73, Su73, Nu73, Hu73, Gu73⟩ := (id V_b70)
    obtain ⟨T74, h74, X74, e74, W74, st74⟩ := stI X70 hx hZ e70 Aru73 (j := (0 : Int32)) (inb_of Su73 ⟨by decide, by decide⟩) (g := (mkF m 85 #[.val (.int p1), .val (.int p2), .val (.int p3), .val (.int p4), .val (.int p5), .val (.int p6), .val (.int (4 : Int32)), .val (.int (Int32.ofNat (cn + 1))), .val (.ref b1), .val (.ref b70), .unset, .unset] [(.int (Int32.ofNat x0)), (.int (0 : Int32)), (.ref b70)])) rfl rfl (hb hby at_85)
    have Va74 := Arv.set Aru73 qu73 Su73 Nu73 Hu73 Gu73 rfl W74 0 rfl (Nat.le_of_ble_eq_true rfl)
    have Va9_75 := Va9_71.other W74 ne_b1_b70
    have K74 := K70.wr W74 (Or.inr sz_b70)
    have N74 := Fr.snoc X74 N9 g_b70
    have Z74 : n0 ≤ h74.size := by rw [W74.size]; exact Z70
    refine own_st (T' := T74) (g' := (mkF m 86 #[.val (.int p1), .val (.int p2), .val (.int p3), .val (.int p4), .val (.int p5), .val (.int p6), .val (.int (4 : Int32)), .val (.int (Int32.ofNat (cn + 1))), .val (.ref b1), .val (.ref b70), .unset, .unset] [])) (fun t9 k9 => st74 t9 k9) ?_
    refine own_st (T' := T74) (g' := (mkF m 88 #[.val (.int p1), .val (.int p2), .val (.int p3), .val (.int p4), .val (.int p5), .val (.int p6), .val (.int (4 : Int32)), .val (.int (Int32.ofNat (cn + 1))), .val (.ref b1), .val (.ref b70), .unset, .unset] [(.int (4 : Int32))])) (fun t9 k9 => XS.iload X74.here hx rfl (hb hby at_86) rfl k9) ?_
    refine own_st (T' := T74) (g' := (mkF m 89 #[.val (.int p1), .val (.int p2), .val (.int p3), .val (.int p4), .val (.int p5), .val (.int p6), .val (.int (4 : Int32)), .val (.int (Int32.ofNat (cn + 1))), .val (.ref b1), .val (.ref b70), .unset, .unset] [(.int (1 : Int32)), (.int (4 : Int32))])) (fun t9 k9 => XS.iconst X74.here hx rfl (hb hby at_88) k9) ?_
    refine own_st (T' := T74) (g' := (mkF m 92 #[.val (.int p1), .val (.int p2), .val (.int p3), .val (.int p4), .val (.int p5), .val (.int p6), .val (.int (4 : Int32)), .val (.int (Int32.ofNat (cn + 1))), .val (.ref b1), .val (.ref b70), .unset, .unset] [])) (fun t9 k9 => XS.icmpNo X74.here hx rfl (hb hby at_89) rfl (tlt (by decide)).2.2.2 k9) ?_
    refine own_st (T' := T74) (g' := (mkF m 94 #[.val (.int p1), .val (.int p2), .val (.int p3), .val (.int p4), .val (.int p5), .val (.int p6), .val (.int (4 : Int32)), .val (.int (Int32.ofNat (cn + 1))), .val (.ref b1), .val (.ref b70), .unset, .unset] [(.ref b70)])) (fun t9 k9 => XS.aload X74.here hx rfl (hb hby at_92) rfl rfl k9) ?_
    refine own_st (T' := T74) (g' := (mkF m 95 #[.val (.int p1), .val (.int p2), .val (.int p3), .val (.int p4), .val (.int p5), .val (.int p6), .val (.int (4 : Int32)), .val (.int (Int32.ofNat (cn + 1))), .val (.ref b1), .val (.ref b70), .unset, .unset] [(.int (1 : Int32)), (.ref b70)])) (fun t9 k9 => XS.iconst X74.here hx rfl (hb hby at_94) k9) ?_
    refine own_st (T' := T74) (g' := (mkF m 97 #[.val (.int p1), .val (.int p2), .val (.int p3), .val (.int p4), .val (.int p5), .val (.int p6), .val (.int (4 : Int32)), .val (.int (Int32.ofNat (cn + 1))), .val (.ref b1), .val (.ref b70), .unset, .unset] [(.ref b1), (.int (1 : Int32)), (.ref b70)])) (fun t9 k9 => XS.aload X74.here hx rfl (hb hby at_95) rfl rfl k9) ?_
    refine own_st (T' := T74) (g' := (mkF m 98 #[.val (.int p1), .val (.int p2), .val (.int p3), .val (.int p4), .val (.int p5), .val (.int p6), .val (.int (4 : Int32)), .val (.int (Int32.ofNat (cn + 1))), .val (.ref b1), .val (.ref b70), .unset, .unset] [(.int (1 : Int32)), (.ref b1), (.int (1 : Int32)), (.ref b70)])) (fun t9 k9 => XS.iconst X74.here hx rfl (hb hby at_97) k9) ?_
    obtain ⟨clu76, Aru76, qu76, Su76, Nu76, Hu76, Gu76⟩ := (id Va9_75)
    have hinu76 := inb_of Su76 (j := (1 : Int32)) ⟨by decide, by decide⟩
    refine own_st (T' := T74) (g' := (mkF m 99 #[.val (.int p1), .val (.int p2), .val (.int p3), .val (.int p4), .val (.int p5), .val (.int p6), .val (.int (4 : Int32)), .val (.int (Int32.ofNat (cn + 1))), .val (.ref b1), .val (.ref b70), .unset, .unset] [(.int (Int32.ofNat x1)), (.int (1 : Int32)), (.ref b70)])) (fun t9 k9 => X74.iaload hx (j := (1 : Int32)) (v := (.int (Int32.ofNat x1))) (by rw [e74]; exact Aru76.1) (State.isArrayOf_alike hZ.alike Aru76.2.1) Aru76.2.2 hinu76 (Hu76.at hinu76 rfl) (g := (mkF m 98 #[.val (.int p1), .val (.int p2), .val (.int p3), .val (.int p4), .val (.int p5), .val (.int p6), .val (.int (4 : Int32)), .val (.int (Int32.ofNat (cn + 1))), .val (.ref b1), .val (.ref b70), .unset, .unset] [(.int (1 : Int32)), (.ref b1), (.int (1 : Int32)), (.ref b70)])) rfl rfl (hb hby at_98) t9 k9) ?_
    obtain ⟨clu77, Aru77, qu77, Su77, Nu77, Hu77, Gu77⟩ := (id Va74)
    obtain ⟨T78, h78, X78, e78, W78, st78⟩ := stI X74 hx hZ e74 Aru77 (j := (1 : Int32)) (inb_of Su77 ⟨by decide, by decide⟩) (g := (mkF m 99 #[.val (.int p1), .val (.int p2), .val (.int p3), .val (.int p4), .val (.int p5), .val (.int p6), .val (.int (4 : Int32)), .val (.int (Int32.ofNat (cn + 1))), .val (.ref b1), .val (.ref b70), .unset, .unset] [(.int (Int32.ofNat x1)), (.int (1 : Int32)), (.ref b70)])) rfl rfl (hb hby at_99)
    have Va78 := Arv.set Aru77 qu77 Su77 Nu77 Hu77 Gu77 rfl W78 1 rfl (Nat.le_of_ble_eq_true rfl)
    have Va9_79 := Va9_75.other W78 ne_b1_b70
    have K78 := K74.wr W78 (Or.inr sz_b70)
    have N78 := Fr.snoc X78 N74 g_b70
    have Z78 : n0 ≤ h78.size := by rw [W78.size]; exact Z74
    refine own_st (T' := T78) (g' := (mkF m 100 #[.val (.int p1), .val (.int p2), .val (.int p3), .val (.int p4), .val (.int p5), .val (.int p6), .val (.int (4 : Int32)), .val (.int (Int32.ofNat (cn + 1))), .val (.ref b1), .val (.ref b70), .unset, .unset] [])) (fun t9 k9 => st78 t9 k9) ?_
    refine own_st (T' := T78) (g' := (mkF m 102 #[.val (.int p1), .val (.int p2), .val (.int p3), .val (.int p4), .val (.int p5), .val (.int p6), .val (.int (4 : Int32)), .val (.int (Int32.ofNat (cn + 1))), .val (.ref b1), .val (.ref b70), .unset, .unset] [(.int (4 : Int32))])) (fun t9 k9 => XS.iload X78.here hx rfl (hb hby at_100) rfl k9) ?_
    refine own_st (T' := T78) (g' := (mkF m 103 #[.val (.int p1), .val (.int p2), .val (.int p3), .val (.int p4), .val (.int p5), .val (.int p6), .val (.int (4 : Int32)), .val (.int (Int32.ofNat (cn + 1))), .val (.ref b1), .val (.ref b70), .unset, .unset] [(.int (2 : Int32)), (.int (4 : Int32))])) (fun t9 k9 => XS.iconst X78.here hx rfl (hb hby at_102) k9) ?_
    refine own_st (T' := T78) (g' := (mkF m 106 #[.val (.int p1), .val (.int p2), .val (.int p3), .val (.int p4), .val (.int p5), .val (.int p6), .val (.int (4 : Int32)), .val (.int (Int32.ofNat (cn + 1))), .val (.ref b1), .val (.ref b70), .unset, .unset] [])) (fun t9 k9 => XS.icmpNo X78.here hx rfl (hb hby at_103) rfl (tlt (by decide)).2.2.2 k9) ?_
    refine own_st (T' := T78) (g' := (mkF m 108 #[.val (.int p1), .val (.int p2), .val (.int p3), .val (.int p4), .val (.int p5), .val (.int p6), .val (.int (4 : Int32)), .val (.int (Int32.ofNat (cn + 1))), .val (.ref b1), .val (.ref b70), .unset, .unset] [(.ref b70)])) (fun t9 k9 => XS.aload X78.here hx rfl (hb hby at_106) rfl rfl k9) ?_
    refine own_st (T' := T78) (g' := (mkF m 109 #[.val (.int p1), .val (.int p2), .val (.int p3), .val (.int p4), .val (.int p5), .val (.int p6), .val (.int (4 : Int32)), .val (.int (Int32.ofNat (cn + 1))), .val (.ref b1), .val (.ref b70), .unset, .unset] [(.int (2 : Int32)), (.ref b70)])) (fun t9 k9 => XS.iconst X78.here hx rfl (hb hby at_108) k9) ?_
    refine own_st (T' := T78) (g' := (mkF m 111 #[.val (.int p1), .val (.int p2), .val (.int p3), .val (.int p4), .val (.int p5), .val (.int p6), .val (.int (4 : Int32)), .val (.int (Int32.ofNat (cn + 1))), .val (.ref b1), .val (.ref b70), .unset, .unset] [(.ref b1), (.int (2 : Int32)), (.ref b70)])) (fun t9 k9 => XS.aload X78.here hx rfl (hb hby at_109) rfl rfl k9) ?_
    refine own_st (T' := T78) (g' := (mkF m 112 #[.val (.int p1), .val (.int p2), .val (.int p3), .val (.int p4), .val (.int p5), .val (.int p6), .val (.int (4 : Int32)), .val (.int (Int32.ofNat (cn + 1))), .val (.ref b1), .val (.ref b70), .unset, .unset] [(.int (2 : Int32)), (.ref b1), (.int (2 : Int32)), (.ref b70)])) (fun t9 k9 => XS.iconst X78.here hx rfl (hb hby at_111) k9) ?_
    obtain ⟨clu80, Aru80, qu80, Su80, Nu80, Hu80, Gu80⟩ := (id Va9_79)
    have hinu80 := inb_of Su80 (j := (2 : Int32)) ⟨by decide, by decide⟩
    refine own_st (T' := T78) (g' := (mkF m 113 #[.val (.int p1), .val (.int p2), .val (.int p3), .val (.int p4), .val (.int p5), .val (.int p6), .val (.int (4 : Int32)), .val (.int (Int32.ofNat (cn + 1))), .val (.ref b1), .val (.ref b70), .unset, .unset] [(.int (Int32.ofNat x2)), (.int (2 : Int32)), (.ref b70)])) (fun t9 k9 => X78.iaload hx (j := (2 : Int32)) (v := (.int (Int32.ofNat x2))) (by rw [e78]; exact Aru80.1) (State.isArrayOf_alike hZ.alike Aru80.2.1) Aru80.2.2 hinu80 (Hu80.at hinu80 rfl) (g := (mkF m 112 #[.val (.int p1), .val (.int p2), .val (.int p3), .val (.int p4), .val (.int p5), .val (.int p6), .val (.int (4 : Int32)), .val (.int (Int32.ofNat (cn + 1))), .val (.ref b1), .val (.ref b70), .unset, .unset] [(.int (2 : Int32)), (.ref b1), (.int (2 : Int32)), (.ref b70)])) rfl rfl (hb hby at_112) t9 k9) ?_
    obtain ⟨clu81, Aru81, qu81, Su81, Nu81, Hu81, Gu81⟩ := (id Va78)
    obtain ⟨T82, h82, X82, e82, W82, st82⟩ := stI X78 hx hZ e78 Aru81 (j := (2 : Int32)) (inb_of Su81 ⟨by decide, by decide⟩) (g := (mkF m 113 #[.val (.int p1), .val (.int p2), .val (.int p3), .val (.int p4), .val (.int p5), .val (.int p6), .val (.int (4 : Int32)), .val (.int (Int32.ofNat (cn + 1))), .val (.ref b1), .val (.ref b70), .unset, .unset] [(.int (Int32.ofNat x2)), (.int (2 : Int32)), (.ref b70)])) rfl rfl (hb hby at_113)
    have Va82 := Arv.set Aru81 qu81 Su81 Nu81 Hu81 Gu81 rfl W82 2 rfl (Nat.le_of_ble_eq_true rfl)
    have Va9_83 := Va9_79.other W82 ne_b1_b70
    have K82 := K78.wr W82 (Or.inr sz_b70)
    have N82 := Fr.snoc X82 N78 g_b70
    have Z82 : n0 ≤ h82.size := by rw [W82.size]; exact Z78
    refine own_st (T' := T82) (g' := (mkF m 114 #[.val (.int p1), .val (.int p2), .val (.int p3), .val (.int p4), .val (.int p5), .val (.int p6), .val (.int (4 : Int32)), .val (.int (Int32.ofNat (cn + 1))), .val (.ref b1), .val (.ref b70), .unset, .unset] [])) (fun t9 k9 => st82 t9 k9) ?_
    refine own_st (T' := T82) (g' := (mkF m 116 #[.val (.int p1), .val (.int p2), .val (.int p3), .val (.int p4), .val (.int p5), .val (.int p6), .val (.int (4 : Int32)), .val (.int (Int32.ofNat (cn + 1))), .val (.ref b1), .val (.ref b70), .unset, .unset] [(.int (4 : Int32))])) (fun t9 k9 => XS.iload X82.here hx rfl (hb hby at_114) rfl k9) ?_
    refine own_st (T' := T82) (g' := (mkF m 117 #[.val (.int p1), .val (.int p2), .val (.int p3), .val (.int p4), .val (.int p5), .val (.int p6), .val (.int (4 : Int32)), .val (.int (Int32.ofNat (cn + 1))), .val (.ref b1), .val (.ref b70), .unset, .unset] [(.int (3 : Int32)), (.int (4 : Int32))])) (fun t9 k9 => XS.iconst X82.here hx rfl (hb hby at_116) k9) ?_
    refine own_st (T' := T82) (g' := (mkF m 120 #[.val (.int p1), .val (.int p2), .val (.int p3), .val (.int p4), .val (.int p5), .val (.int p6), .val (.int (4 : Int32)), .val (.int (Int32.ofNat (cn + 1))), .val (.ref b1), .val (.ref b70), .unset, .unset] [])) (fun t9 k9 => XS.icmpNo X82.here hx rfl (hb hby at_117) rfl (tlt (by decide)).2.2.2 k9) ?_
    refine own_st (T' := T82) (g' := (mkF m 122 #[.val (.int p1), .val (.int p2), .val (.int p3), .val (.int p4), .val (.int p5), .val (.int p6), .val (.int (4 : Int32)), .val (.int (Int32.ofNat (cn + 1))), .val (.ref b1), .val (.ref b70), .unset, .unset] [(.ref b70)])) (fun t9 k9 => XS.aload X82.here hx rfl (hb hby at_120) rfl rfl k9) ?_
    refine own_st (T' := T82) (g' := (mkF m 123 #[.val (.int p1), .val (.int p2), .val (.int p3), .val (.int p4), .val (.int p5), .val (.int p6), .val (.int (4 : Int32)), .val (.int (Int32.ofNat (cn + 1))), .val (.ref b1), .val (.ref b70), .unset, .unset] [(.int (3 : Int32)), (.ref b70)])) (fun t9 k9 => XS.iconst X82.here hx rfl (hb hby at_122) k9) ?_
    refine own_st (T' := T82) (g' := (mkF m 125 #[.val (.int p1), .val (.int p2), .val (.int p3), .val (.int p4), .val (.int p5), .val (.int p6), .val (.int (4 : Int32)), .val (.int (Int32.ofNat (cn + 1))), .val (.ref b1), .val (.ref b70), .unset, .unset] [(.ref b1), (.int (3 : Int32)), (.ref b70)])) (fun t9 k9 => XS.aload X82.here hx rfl (hb hby at_123) rfl rfl k9) ?_
    refine own_st (T' := T82) (g' := (mkF m 126 #[.val (.int p1), .val (.int p2), .val (.int p3), .val (.int p4), .val (.int p5), .val (.int p6), .val (.int (4 : Int32)), .val (.int (Int32.ofNat (cn + 1))), .val (.ref b1), .val (.ref b70), .unset, .unset] [(.int (3 : Int32)), (.ref b1), (.int (3 : Int32)), (.ref b70)])) (fun t9 k9 => XS.iconst X82.here hx rfl (hb hby at_125) k9) ?_
    obtain ⟨clu84, Aru84, qu84, Su84, Nu84, Hu84, Gu84⟩ := (id Va9_83)
    have hinu84 := inb_of Su84 (j := (3 : Int32)) ⟨by decide, by decide⟩
    refine own_st (T' := T82) (g' := (mkF m 127 #[.val (.int p1), .val (.int p2), .val (.int p3), .val (.int p4), .val (.int p5), .val (.int p6), .val (.int (4 : Int32)), .val (.int (Int32.ofNat (cn + 1))), .val (.ref b1), .val (.ref b70), .unset, .unset] [(.int (Int32.ofNat x3)), (.int (3 : Int32)), (.ref b70)])) (fun t9 k9 => X82.iaload hx (j := (3 : Int32)) (v := (.int (Int32.ofNat x3))) (by rw [e82]; exact Aru84.1) (State.isArrayOf_alike hZ.alike Aru84.2.1) Aru84.2.2 hinu84 (Hu84.at hinu84 rfl) (g := (mkF m 126 #[.val (.int p1), .val (.int p2), .val (.int p3), .val (.int p4), .val (.int p5), .val (.int p6), .val (.int (4 : Int32)), .val (.int (Int32.ofNat (cn + 1))), .val (.ref b1), .val (.ref b70), .unset, .unset] [(.int (3 : Int32)), (.ref b1), (.int (3 : Int32)), (.ref b70)])) rfl rfl (hb hby at_126) t9 k9) ?_
    obtain ⟨clu85, Aru85, qu85, Su85, Nu85, Hu85, Gu85⟩ := (id Va82)
    obtain ⟨T86, h86, X86, e86, W86, st86⟩ := stI X82 hx hZ e82 Aru85 (j := (3 : Int32)) (inb_of Su85 ⟨by decide, by decide⟩) (g := (mkF m 127 #[.val (.int p1), .val (.int p2), .val (.int p3), .val (.int p4), .val (.int p5), .val (.int p6), .val (.int (4 : Int32)), .val (.int (Int32.ofNat (cn + 1))), .val (.ref b1), .val (.ref b70), .unset, .unset] [(.int (Int32.ofNat x3)), (.int (3 : Int32)), (.ref b70)])) rfl rfl (hb hby at_127)
    have Va86 := Arv.set Aru85 qu85 Su85 Nu85 Hu85 Gu85 rfl W86 3 rfl (Nat.le_of_ble_eq_true rfl)
    have Va9_87 := Va9_83.other W86 ne_b1_b70
    have K86 := K82.wr W86 (Or.inr sz_b70)
    have N86 := Fr.snoc X86 N82 g_b70
    have Z86 : n0 ≤ h86.size := by rw [W86.size]; exact Z82
    refine own_st (T' := T86) (g' := (mkF m 128 #[.val (.int p1), .val (.int p2), .val (.int p3), .val (.int p4), .val (.int p5), .val (.int p6), .val (.int (4 : Int32)), .val (.int (Int32.ofNat (cn + 1))), .val (.ref b1), .val (.ref b70), .unset, .unset] [])) (fun t9 k9 => st86 t9 k9) ?_
    refine own_st (T' := T86) (g' := (mkF m 130 #[.val (.int p1), .val (.int p2), .val (.int p3), .val (.int p4), .val (.int p5), .val (.int p6), .val (.int (4 : Int32)), .val (.int (Int32.ofNat (cn + 1))), .val (.ref b1), .val (.ref b70), .unset, .unset] [(.ref b70)])) (fun t9 k9 => XS.aload X86.here hx rfl (hb hby at_128) rfl rfl k9) ?_
    refine own_st (T' := T86) (g' := (mkF m 132 #[.val (.int p1), .val (.int p2), .val (.int p3), .val (.int p4), .val (.int p5), .val (.int p6), .val (.int (4 : Int32)), .val (.int (Int32.ofNat (cn + 1))), .val (.ref b1), .val (.ref b70), .unset, .unset] [(.int (Int32.ofNat (cn + 1))), (.ref b70)])) (fun t9 k9 => XS.iload X86.here hx rfl (hb hby at_130) rfl k9) ?_
    obtain ⟨_, _, ⟨T88, L88, k88, n88⟩, -, X88, ⟨Lc88, hQ88, l88, y88, z88⟩, st88⟩ := Jvm.LawKit.callS X86 hx (y := (⟨"com/example/shelfwright/shelfwright/checker/Orders", "ascending", "([II)[I"⟩ : MethodName)) hown (mvT hZ (hw _ (List.mem_of_getElem? (i := 2) rfl))) (mvT hZ (hw _ (List.mem_of_getElem? (i := 3) rfl))) (mvT hZ (hw _ (List.mem_of_getElem? (i := 4) rfl))) (mvT hZ (hw _ (List.mem_of_getElem? (i := 5) rfl))) (by decide) (own_back (W := 0) (rm1 l Z a0 hw b70 k70 _ (own_rk x0 x1 x2 x3) 4 (cn + 1) h86 n0 Z86 Va86 ⟨rfl, fun j hj => by
          match j, hj with
          | 0, _ => rfl
          | 1, _ => rfl
          | 2, _ => rfl
          | 3, _ => rfl⟩ (by decide) (by omega) (fun i hi => hrk i (by omega))) hZ (hw _ (List.mem_of_getElem? (i := 5) rfl)) (hw _ (List.mem_of_getElem? (i := 4) rfl)) (by decide) (by decide)) (g := (mkF m 132 #[.val (.int p1), .val (.int p2), .val (.int p3), .val (.int p4), .val (.int p5), .val (.int p6), .val (.int (4 : Int32)), .val (.int (Int32.ofNat (cn + 1))), .val (.ref b1), .val (.ref b70), .unset, .unset] [(.int (Int32.ofNat (cn + 1))), (.ref b70)])) rfl (by rw [hml]; rfl) (argsL := [(.ref b70), (.int (Int32.ofNat (cn + 1)))]) (rest := []) (lenOf pd_0 rfl) rfl (by show 2 * 0 + _ ≤ _; exact Nat.le_of_eq rfl) (hb hby at_132) (fun _ _ => ⟨rfl, e86, (Nat.le_of_ble_eq_true rfl), (Nat.le_of_ble_eq_true rfl)⟩)
    dsimp only [Pt.U, Pt.locs, Pt.cells, Pt.slots] at X88 l88 y88 z88 st88 hQ88
    subst l88 y88 z88
    obtain ⟨b88, kb88, vb88, rfl, Nq88, Kq88, Vq88, hO88⟩ := hQ88
    have N88 := Fr.app N86 Nq88
    obtain ⟨h88, e88⟩ : ∃ z, T88.heap = z := ⟨_, rfl⟩
    rw [e88] at Kq88 Vq88
    have Va9_89 := Va9_87.keep Kq88 nin0
    have Va86_90 := Va86.keep Kq88 nin0
    have K88 := K86.trans Kq88 all0
    have Z88 : n0 ≤ h88.size := Nat.le_trans Z86 Kq88.1
    refine own_st (T' := T88) (g' := (mkF m 135 #[.val (.int p1), .val (.int p2), .val (.int p3), .val (.int p4), .val (.int p5), .val (.int p6), .val (.int (4 : Int32)), .val (.int (Int32.ofNat (cn + 1))), .val (.ref b1), .val (.ref b70), .unset, .unset] [(.ref b88)])) (fun t9 k9 => st88 t9 k9) ?_
    refine own_st (T' := T88) (g' := (mkF m 137 #[.val (.int p1), .val (.int p2), .val (.int p3), .val (.int p4), .val (.int p5), .val (.int p6), .val (.int (4 : Int32)), .val (.int (Int32.ofNat (cn + 1))), .val (.ref b1), .val (.ref b70), .val (.ref b88), .unset] [])) (fun t9 k9 => XS.astore X88.here hx rfl (hb hby at_135) rfl rfl (l' := #[.val (.int p1), .val (.int p2), .val (.int p3), .val (.int p4), .val (.int p5), .val (.int p6), .val (.int (4 : Int32)), .val (.int (Int32.ofNat (cn + 1))), .val (.ref b1), .val (.ref b70), .val (.ref b88), .unset]) rfl k9) ?_
    refine own_st (T' := T88) (g' := (mkF m 139 #[.val (.int p1), .val (.int p2), .val (.int p3), .val (.int p4), .val (.int p5), .val (.int p6), .val (.int (4 : Int32)), .val (.int (Int32.ofNat (cn + 1))), .val (.ref b1), .val (.ref b70), .val (.ref b88), .unset] [(.ref b88)])) (fun t9 k9 => XS.aload X88.here hx rfl (hb hby at_137) rfl rfl k9) ?_
    refine own_st (T' := T88) (g' := (mkF m 142 #[.val (.int p1), .val (.int p2), .val (.int p3), .val (.int p4), .val (.int p5), .val (.int p6), .val (.int (4 : Int32)), .val (.int (Int32.ofNat (cn + 1))), .val (.ref b1), .val (.ref b70), .val (.ref b88), .unset] [])) (fun t9 k9 => XS.ifnullNo X88.here hx rfl (hb hby at_139) rfl k9) ?_
    refine own_st (T' := T88) (g' := (mkF m 144 #[.val (.int p1), .val (.int p2), .val (.int p3), .val (.int p4), .val (.int p5), .val (.int p6), .val (.int (4 : Int32)), .val (.int (Int32.ofNat (cn + 1))), .val (.ref b1), .val (.ref b70), .val (.ref b88), .unset] [(.ref b88)])) (fun t9 k9 => XS.aload X88.here hx rfl (hb hby at_142) rfl rfl k9) ?_
    obtain ⟨clu91, Aru91, qu91, Su91, Nu91, Hu91, Gu91⟩ := (id Vq88)
    refine own_st (T' := T88) (g' := (mkF m 145 #[.val (.int p1), .val (.int p2), .val (.int p3), .val (.int p4), .val (.int p5), .val (.int p6), .val (.int (4 : Int32)), .val (.int (Int32.ofNat (cn + 1))), .val (.ref b1), .val (.ref b70), .val (.ref b88), .unset] [(.int (4 : Int32))])) (fun t9 k9 => X88.arraylength hx (by rw [e88]; exact Aru91.1) (State.isArrayOf_alike hZ.alike Aru91.2.1) (g := (mkF m 144 #[.val (.int p1), .val (.int p2), .val (.int p3), .val (.int p4), .val (.int p5), .val (.int p6), .val (.int (4 : Int32)), .val (.int (Int32.ofNat (cn + 1))), .val (.ref b1), .val (.ref b70), .val (.ref b88), .unset] [(.ref b88)])) rfl rfl (hb hby at_144) t9 (by rw [len_of Su91 Nu91]; exact k9)) ?_
    refine own_st (T' := T88) (g' := (mkF m 147 #[.val (.int p1), .val (.int p2), .val (.int p3), .val (.int p4), .val (.int p5), .val (.int p6), .val (.int (4 : Int32)), .val (.int (Int32.ofNat (cn + 1))), .val (.ref b1), .val (.ref b70), .val (.ref b88), .unset] [(.int (4 : Int32)), (.int (4 : Int32))])) (fun t9 k9 => XS.iload X88.here hx rfl (hb hby at_145) rfl k9) ?_
    refine own_st (T' := T88) (g' := (mkF m 152 #[.val (.int p1), .val (.int p2), .val (.int p3), .val (.int p4), .val (.int p5), .val (.int p6), .val (.int (4 : Int32)), .val (.int (Int32.ofNat (cn + 1))), .val (.ref b1), .val (.ref b70), .val (.ref b88), .unset] [])) (fun t9 k9 => XS.icmpYes X88.here hx rfl (pc0 := 147) (pc' := 152) rfl (hb hby at_147) rfl (teq rfl).1 (by decide) (by decide) k9) ?_
    refine own_st (T' := T88) (g' := (mkF m 153 #[.val (.int p1), .val (.int p2), .val (.int p3), .val (.int p4), .val (.int p5), .val (.int p6), .val (.int (4 : Int32)), .val (.int (Int32.ofNat (cn + 1))), .val (.ref b1), .val (.ref b70), .val (.ref b88), .unset] [(.int (1 : Int32))])) (fun t9 k9 => XS.iconst X88.here hx rfl (hb hby at_152) k9) ?_
    refine own_st (T' := T88) (g' := (mkF m 155 #[.val (.int p1), .val (.int p2), .val (.int p3), .val (.int p4), .val (.int p5), .val (.int p6), .val (.int (4 : Int32)), .val (.int (Int32.ofNat (cn + 1))), .val (.ref b1), .val (.ref b70), .val (.ref b88), .val (.int (1 : Int32))] [])) (fun t9 k9 => XS.istore X88.here hx rfl (hb hby at_153) rfl (l' := #[.val (.int p1), .val (.int p2), .val (.int p3), .val (.int p4), .val (.int p5), .val (.int p6), .val (.int (4 : Int32)), .val (.int (Int32.ofNat (cn + 1))), .val (.ref b1), .val (.ref b70), .val (.ref b88), .val (.int (1 : Int32))]) rfl k9) ?_
    refine own_st (T' := T88) (g' := (mkF m 157 #[.val (.int p1), .val (.int p2), .val (.int p3), .val (.int p4), .val (.int p5), .val (.int p6), .val (.int (4 : Int32)), .val (.int (Int32.ofNat (cn + 1))), .val (.ref b1), .val (.ref b70), .val (.ref b88), .val (.int (1 : Int32))] [(.int (4 : Int32))])) (fun t9 k9 => XS.iload X88.here hx rfl (hb hby at_155) rfl k9) ?_
    refine own_st (T' := T88) (g' := (mkF m 160 #[.val (.int p1), .val (.int p2), .val (.int p3), .val (.int p4), .val (.int p5), .val (.int p6), .val (.int (4 : Int32)), .val (.int (Int32.ofNat (cn + 1))), .val (.ref b1), .val (.ref b70), .val (.ref b88), .val (.int (1 : Int32))] [])) (fun t9 k9 => XS.ifNo X88.here hx rfl (hb hby at_157) rfl ((if0 _ _).trans (tlt (by decide)).2.2.2) k9) ?_
    refine own_st (T' := T88) (g' := (mkF m 162 #[.val (.int p1), .val (.int p2), .val (.int p3), .val (.int p4), .val (.int p5), .val (.int p6), .val (.int (4 : Int32)), .val (.int (Int32.ofNat (cn + 1))), .val (.ref b1), .val (.ref b70), .val (.ref b88), .val (.int (1 : Int32))] [(.int (1 : Int32))])) (fun t9 k9 => XS.iload X88.here hx rfl (hb hby at_160) rfl k9) ?_
    refine own_st (T' := T88) (g' := (mkF m 165 #[.val (.int p1), .val (.int p2), .val (.int p3), .val (.int p4), .val (.int p5), .val (.int p6), .val (.int (4 : Int32)), .val (.int (Int32.ofNat (cn + 1))), .val (.ref b1), .val (.ref b70), .val (.ref b88), .val (.int (1 : Int32))] [])) (fun t9 k9 => XS.ifNo X88.here hx rfl (hb hby at_162) rfl ((if0 _ _).trans (feq (by decide)).1) k9) ?_
    refine own_st (T' := T88) (g' := (mkF m 167 #[.val (.int p1), .val (.int p2), .val (.int p3), .val (.int p4), .val (.int p5), .val (.int p6), .val (.int (4 : Int32)), .val (.int (Int32.ofNat (cn + 1))), .val (.ref b1), .val (.ref b70), .val (.ref b88), .val (.int (1 : Int32))] [(.ref b88)])) (fun t9 k9 => XS.aload X88.here hx rfl (hb hby at_165) rfl rfl k9) ?_
    refine own_st (T' := T88) (g' := (mkF m 169 #[.val (.int p1), .val (.int p2), .val (.int p3), .val (.int p4), .val (.int p5), .val (.int p6), .val (.int (4 : Int32)), .val (.int (Int32.ofNat (cn + 1))), .val (.ref b1), .val (.ref b70), .val (.ref b88), .val (.int (1 : Int32))] [(.ref b1), (.ref b88)])) (fun t9 k9 => XS.aload X88.here hx rfl (hb hby at_167) rfl rfl k9) ?_
    refine own_st (T' := T88) (g' := (mkF m 171 #[.val (.int p1), .val (.int p2), .val (.int p3), .val (.int p4), .val (.int p5), .val (.int p6), .val (.int (4 : Int32)), .val (.int (Int32.ofNat (cn + 1))), .val (.ref b1), .val (.ref b70), .val (.ref b88), .val (.int (1 : Int32))] [(.int (4 : Int32)), (.ref b1), (.ref b88)])) (fun t9 k9 => XS.iload X88.here hx rfl (hb hby at_169) rfl k9) ?_
    refine own_st (T' := T88) (g' := (mkF m 172 #[.val (.int p1), .val (.int p2), .val (.int p3), .val (.int p4), .val (.int p5), .val (.int p6), .val (.int (4 : Int32)), .val (.int (Int32.ofNat (cn + 1))), .val (.ref b1), .val (.ref b70), .val (.ref b88), .val (.int (1 : Int32))] [(.int (0 : Int32)), (.int (4 : Int32)), (.ref b1), (.ref b88)])) (fun t9 k9 => XS.iconst X88.here hx rfl (hb hby at_171) k9) ?_
    obtain ⟨_, _, ⟨T92, L92, k92, n92⟩, -, X92, ⟨Lc92, hQ92, l92, y92, z92⟩, st92⟩ := Jvm.LawKit.callS X88 hx (y := (⟨"com/example/shelfwright/shelfwright/checker/OrdersAscendingPinLaw", "pos", "([III)I"⟩ : MethodName)) hown (mvT hZ (hw _ (List.mem_of_getElem? (i := 6) rfl))) (mvT hZ (hw _ (List.mem_of_getElem? (i := 7) rfl))) (mvT hZ (hw _ (List.mem_of_getElem? (i := 8) rfl))) (mvT hZ (hw _ (List.mem_of_getElem? (i := 9) rfl))) (by decide) (own_back (W := 1) (rm2 l Z a0 hw b1 k1 _ (own_rk x0 x1 x2 x3) 4 0 h88 n0 Z88 Va9_89 ⟨rfl, fun j hj => by
          match j, hj with
          | 0, _ => rfl
          | 1, _ => rfl
          | 2, _ => rfl
          | 3, _ => rfl⟩ (fun i hi => Nat.le_trans (Nat.le_of_lt (hrk i hi)) (by omega)) (by decide) (by decide)) hZ (hw _ (List.mem_of_getElem? (i := 9) rfl)) (hw _ (List.mem_of_getElem? (i := 8) rfl)) (by decide) (by decide)) (g := (mkF m 172 #[.val (.int p1), .val (.int p2), .val (.int p3), .val (.int p4), .val (.int p5), .val (.int p6), .val (.int (4 : Int32)), .val (.int (Int32.ofNat (cn + 1))), .val (.ref b1), .val (.ref b70), .val (.ref b88), .val (.int (1 : Int32))] [(.int (0 : Int32)), (.int (4 : Int32)), (.ref b1), (.ref b88)])) rfl (by rw [hml]; rfl) (argsL := [(.ref b1), (.int (4 : Int32)), (.int (0 : Int32))]) (rest := [(.ref b88)]) (lenOf pd_1 rfl) rfl (by show 2 * 0 + _ ≤ _; exact Nat.le_of_eq rfl) (hb hby at_172) (fun _ _ => ⟨rfl, e88, (Nat.le_of_ble_eq_true rfl), (Nat.le_of_ble_eq_true rfl)⟩)
    dsimp only [Pt.U, Pt.locs, Pt.cells, Pt.slots] at X92 l92 y92 z92 st92 hQ92
    subst l92 y92 z92
    obtain ⟨rfl, Nq92, he92⟩ := hQ92
    have N92 := Fr.app N88 Nq92
    have e92 : T92.heap = h88 := he92
    refine own_st (T' := T92) (g' := (mkF m 175 #[.val (.int p1), .val (.int p2), .val (.int p3), .val (.int p4), .val (.int p5), .val (.int p6), .val (.int (4 : Int32)), .val (.int (Int32.ofNat (cn + 1))), .val (.ref b1), .val (.ref b70), .val (.ref b88), .val (.int (1 : Int32))] [(.int (Int32.ofNat (own_pos (own_rk x0 x1 x2 x3) 4 0))), (.ref b88)])) (fun t9 k9 => st92 t9 k9) ?_
    have hps0 := own_pos_lt (rk := (own_rk x0 x1 x2 x3)) (n := 4) (p := 0) (by decide)
    obtain ⟨s10, s20⟩ := own_nat (i := own_pos (own_rk x0 x1 x2 x3) 4 0) (by omega)
    obtain ⟨clu93, Aru93, qu93, Su93, Nu93, Hu93, Gu93⟩ := (id Vq88)
    have hinu93 := inb_of Su93 (j := (Int32.ofNat (own_pos (own_rk x0 x1 x2 x3) 4 0))) ⟨s20, own_lt (n := 4) hps0 (by omega)⟩
    refine own_st (T' := T92) (g' := (mkF m 176 #[.val (.int p1), .val (.int p2), .val (.int p3), .val (.int p4), .val (.int p5), .val (.int p6), .val (.int (4 : Int32)), .val (.int (Int32.ofNat (cn + 1))), .val (.ref b1), .val (.ref b70), .val (.ref b88), .val (.int (1 : Int32))] [(.int (0 : Int32))])) (fun t9 k9 => X92.iaload hx (j := (Int32.ofNat (own_pos (own_rk x0 x1 x2 x3) 4 0))) (v := (.int (0 : Int32))) (by rw [e92]; exact Aru93.1) (State.isArrayOf_alike hZ.alike Aru93.2.1) Aru93.2.2 hinu93 (Hu93.at hinu93 (by rw [s10]; exact hO88 0 (by decide))) (g := (mkF m 175 #[.val (.int p1), .val (.int p2), .val (.int p3), .val (.int p4), .val (.int p5), .val (.int p6), .val (.int (4 : Int32)), .val (.int (Int32.ofNat (cn + 1))), .val (.ref b1), .val (.ref b70), .val (.ref b88), .val (.int (1 : Int32))] [(.int (Int32.ofNat (own_pos (own_rk x0 x1 x2 x3) 4 0))), (.ref b88)])) rfl rfl (hb hby at_175) t9 k9) ?_
    refine own_st (T' := T92) (g' := (mkF m 179 #[.val (.int p1), .val (.int p2), .val (.int p3), .val (.int p4), .val (.int p5), .val (.int p6), .val (.int (4 : Int32)), .val (.int (Int32.ofNat (cn + 1))), .val (.ref b1), .val (.ref b70), .val (.ref b88), .val (.int (1 : Int32))] [])) (fun t9 k9 => XS.ifNo X92.here hx rfl (hb hby at_176) rfl ((if0 _ _).trans (teq rfl).2) k9) ?_
    refine own_st (T' := T92) (g' := (mkF m 180 #[.val (.int p1), .val (.int p2), .val (.int p3), .val (.int p4), .val (.int p5), .val (.int p6), .val (.int (4 : Int32)), .val (.int (Int32.ofNat (cn + 1))), .val (.ref b1), .val (.ref b70), .val (.ref b88), .val (.int (1 : Int32))] [(.int (1 : Int32))])) (fun t9 k9 => XS.iconst X92.here hx rfl (hb hby at_179) k9) ?_
    refine own_st (T' := T92) (g' := (mkF m 184 #[.val (.int p1), .val (.int p2), .val (.int p3), .val (.int p4), .val (.int p5), .val (.int p6), .val (.int (4 : Int32)), .val (.int (Int32.ofNat (cn + 1))), .val (.ref b1), .val (.ref b70), .val (.ref b88), .val (.int (1 : Int32))] [(.int (1 : Int32))])) (fun t9 k9 => XS.goto X92.here hx rfl (pc0 := 180) (pc' := 184) rfl (hb hby at_180) (by decide) (by decide) k9) ?_
    refine own_st (T' := T92) (g' := (mkF m 186 #[.val (.int p1), .val (.int p2), .val (.int p3), .val (.int p4), .val (.int p5), .val (.int p6), .val (.int (4 : Int32)), .val (.int (Int32.ofNat (cn + 1))), .val (.ref b1), .val (.ref b70), .val (.ref b88), .val (.int (1 : Int32))] [])) (fun t9 k9 => XS.istore X92.here hx rfl (hb hby at_184) rfl (l' := #[.val (.int p1), .val (.int p2), .val (.int p3), .val (.int p4), .val (.int p5), .val (.int p6), .val (.int (4 : Int32)), .val (.int (Int32.ofNat (cn + 1))), .val (.ref b1), .val (.ref b70), .val (.ref b88), .val (.int (1 : Int32))]) rfl k9) ?_
    refine own_st (T' := T92) (g' := (mkF m 188 #[.val (.int p1), .val (.int p2), .val (.int p3), .val (.int p4), .val (.int p5), .val (.int p6), .val (.int (4 : Int32)), .val (.int (Int32.ofNat (cn + 1))), .val (.ref b1), .val (.ref b70), .val (.ref b88), .val (.int (1 : Int32))] [(.int (4 : Int32))])) (fun t9 k9 => XS.iload X92.here hx rfl (hb hby at_186) rfl k9) ?_
    refine own_st (T' := T92) (g' := (mkF m 189 #[.val (.int p1), .val (.int p2), .val (.int p3), .val (.int p4), .val (.int p5), .val (.int p6), .val (.int (4 : Int32)), .val (.int (Int32.ofNat (cn + 1))), .val (.ref b1), .val (.ref b70), .val (.ref b88), .val (.int (1 : Int32))] [(.int (1 : Int32)), (.int (4 : Int32))])) (fun t9 k9 => XS.iconst X92.here hx rfl (hb hby at_188) k9) ?_
    refine own_st (T' := T92) (g' := (mkF m 192 #[.val (.int p1), .val (.int p2), .val (.int p3), .val (.int p4), .val (.int p5), .val (.int p6), .val (.int (4 : Int32)), .val (.int (Int32.ofNat (cn + 1))), .val (.ref b1), .val (.ref b70), .val (.ref b88), .val (.int (1 : Int32))] [])) (fun t9 k9 => XS.icmpNo X92.here hx rfl (hb hby at_189) rfl (tlt (by decide)).2.2.2 k9) ?_
    refine own_st (T' := T92) (g' := (mkF m 194 #[.val (.int p1), .val (.int p2), .val (.int p3), .val (.int p4), .val (.int p5), .val (.int p6), .val (.int (4 : Int32)), .val (.int (Int32.ofNat (cn + 1))), .val (.ref b1), .val (.ref b70), .val (.ref b88), .val (.int (1 : Int32))] [(.int (1 : Int32))])) (fun t9 k9 => XS.iload X92.here hx rfl (hb hby at_192) rfl k9) ?_
    refine own_st (T' := T92) (g' := (mkF m 197 #[.val (.int p1), .val (.int p2), .val (.int p3), .val (.int p4), .val (.int p5), .val (.int p6), .val (.int (4 : Int32)), .val (.int (Int32.ofNat (cn + 1))), .val (.ref b1), .val (.ref b70), .val (.ref b88), .val (.int (1 : Int32))] [])) (fun t9 k9 => XS.ifNo X92.here hx rfl (hb hby at_194) rfl ((if0 _ _).trans (feq (by decide)).1) k9) ?_
    refine own_st (T' := T92) (g' := (mkF m 199 #[.val (.int p1), .val (.int p2), .val (.int p3), .val (.int p4), .val (.int p5), .val (.int p6), .val (.int (4 : Int32)), .val (.int (Int32.ofNat (cn + 1))), .val (.ref b1), .val (.ref b70), .val (.ref b88), .val (.int (1 : Int32))] [(.ref b88)])) (fun t9 k9 => XS.aload X92.here hx rfl (hb hby at_197) rfl rfl k9) ?_
    refine own_st (T' := T92) (g' := (mkF m 201 #[.val (.int p1), .val (.int p2), .val (.int p3), .val (.int p4), .val (.int p5), .val (.int p6), .val (.int (4 : Int32)), .val (.int (Int32.ofNat (cn + 1))), .val (.ref b1), .val (.ref b70), .val (.ref b88), .val (.int (1 : Int32))] [(.ref b1), (.ref b88)])) (fun t9 k9 => XS.aload X92.here hx rfl (hb hby at_199) rfl rfl k9) ?_
    refine own_st (T' := T92) (g' := (mkF m 203 #[.val (.int p1), .val (.int p2), .val (.int p3), .val (.int p4), .val (.int p5), .val (.int p6), .val (.int (4 : Int32)), .val (.int (Int32.ofNat (cn + 1))), .val (.ref b1), .val (.ref b70), .val (.ref b88), .val (.int (1 : Int32))] [(.int (4 : Int32)), (.ref b1), (.ref b88)])) (fun t9 k9 => XS.iload X92.here hx rfl (hb hby at_201) rfl k9) ?_
    refine own_st (T' := T92) (g' := (mkF m 204 #[.val (.int p1), .val (.int p2), .val (.int p3), .val (.int p4), .val (.int p5), .val (.int p6), .val (.int (4 : Int32)), .val (.int (Int32.ofNat (cn + 1))), .val (.ref b1), .val (.ref b70), .val (.ref b88), .val (.int (1 : Int32))] [(.int (1 : Int32)), (.int (4 : Int32)), (.ref b1), (.ref b88)])) (fun t9 k9 => XS.iconst X92.here hx rfl (hb hby at_203) k9) ?_
    obtain ⟨_, _, ⟨T94, L94, k94, n94⟩, -, X94, ⟨Lc94, hQ94, l94, y94, z94⟩, st94⟩ := Jvm.LawKit.callS X92 hx (y := (⟨"com/example/shelfwright/shelfwright/checker/OrdersAscendingPinLaw", "pos", "([III)I"⟩ : MethodName)) hown (mvT hZ (hw _ (List.mem_of_getElem? (i := 6) rfl))) (mvT hZ (hw _ (List.mem_of_getElem? (i := 7) rfl))) (mvT hZ (hw _ (List.mem_of_getElem? (i := 8) rfl))) (mvT hZ (hw _ (List.mem_of_getElem? (i := 9) rfl))) (by decide) (own_back (W := 1) (rm2 l Z a0 hw b1 k1 _ (own_rk x0 x1 x2 x3) 4 1 h88 n0 Z88 Va9_89 ⟨rfl, fun j hj => by
          match j, hj with
          | 0, _ => rfl
          | 1, _ => rfl
          | 2, _ => rfl
          | 3, _ => rfl⟩ (fun i hi => Nat.le_trans (Nat.le_of_lt (hrk i hi)) (by omega)) (by decide) (by decide)) hZ (hw _ (List.mem_of_getElem? (i := 9) rfl)) (hw _ (List.mem_of_getElem? (i := 8) rfl)) (by decide) (by decide)) (g := (mkF m 204 #[.val (.int p1), .val (.int p2), .val (.int p3), .val (.int p4), .val (.int p5), .val (.int p6), .val (.int (4 : Int32)), .val (.int (Int32.ofNat (cn + 1))), .val (.ref b1), .val (.ref b70), .val (.ref b88), .val (.int (1 : Int32))] [(.int (1 : Int32)), (.int (4 : Int32)), (.ref b1), (.ref b88)])) rfl (by rw [hml]; rfl) (argsL := [(.ref b1), (.int (4 : Int32)), (.int (1 : Int32))]) (rest := [(.ref b88)]) (lenOf pd_1 rfl) rfl (by show 2 * 0 + _ ≤ _; exact Nat.le_of_eq rfl) (hb hby at_204) (fun _ _ => ⟨rfl, e92, (Nat.le_of_ble_eq_true rfl), (Nat.le_of_ble_eq_true rfl)⟩)
    dsimp only [Pt.U, Pt.locs, Pt.cells, Pt.slots] at X94 l94 y94 z94 st94 hQ94
    subst l94 y94 z94
    obtain ⟨rfl, Nq94, he94⟩ := hQ94
    have N94 := Fr.app N92 Nq94
    have e94 : T94.heap = h88 := he94
    refine own_st (T' := T94) (g' := (mkF m 207 #[.val (.int p1), .val (.int p2), .val (.int p3), .val (.int p4), .val (.int p5), .val (.int p6), .val (.int (4 : Int32)), .val (.int (Int32.ofNat (cn + 1))), .val (.ref b1), .val (.ref b70), .val (.ref b88), .val (.int (1 : Int32))] [(.int (Int32.ofNat (own_pos (own_rk x0 x1 x2 x3) 4 1))), (.ref b88)])) (fun t9 k9 => st94 t9 k9) ?_
    have hps1 := own_pos_lt (rk := (own_rk x0 x1 x2 x3)) (n := 4) (p := 1) (by decide)
    obtain ⟨s11, s21⟩ := own_nat (i := own_pos (own_rk x0 x1 x2 x3) 4 1) (by omega)
    obtain ⟨clu95, Aru95, qu95, Su95, Nu95, Hu95, Gu95⟩ := (id Vq88)
    have hinu95 := inb_of Su95 (j := (Int32.ofNat (own_pos (own_rk x0 x1 x2 x3) 4 1))) ⟨s21, own_lt (n := 4) hps1 (by omega)⟩
    refine own_st (T' := T94) (g' := (mkF m 208 #[.val (.int p1), .val (.int p2), .val (.int p3), .val (.int p4), .val (.int p5), .val (.int p6), .val (.int (4 : Int32)), .val (.int (Int32.ofNat (cn + 1))), .val (.ref b1), .val (.ref b70), .val (.ref b88), .val (.int (1 : Int32))] [(.int (1 : Int32))])) (fun t9 k9 => X94.iaload hx (j := (Int32.ofNat (own_pos (own_rk x0 x1 x2 x3) 4 1))) (v := (.int (1 : Int32))) (by rw [e94]; exact Aru95.1) (State.isArrayOf_alike hZ.alike Aru95.2.1) Aru95.2.2 hinu95 (Hu95.at hinu95 (by rw [s11]; exact hO88 1 (by decide))) (g := (mkF m 207 #[.val (.int p1), .val (.int p2), .val (.int p3), .val (.int p4), .val (.int p5), .val (.int p6), .val (.int (4 : Int32)), .val (.int (Int32.ofNat (cn + 1))), .val (.ref b1), .val (.ref b70), .val (.ref b88), .val (.int (1 : Int32))] [(.int (Int32.ofNat (own_pos (own_rk x0 x1 x2 x3) 4 1))), (.ref b88)])) rfl rfl (hb hby at_207) t9 k9) ?_
    refine own_st (T' := T94) (g' := (mkF m 209 #[.val (.int p1), .val (.int p2), .val (.int p3), .val (.int p4), .val (.int p5), .val (.int p6), .val (.int (4 : Int32)), .val (.int (Int32.ofNat (cn + 1))), .val (.ref b1), .val (.ref b70), .val (.ref b88), .val (.int (1 : Int32))] [(.int (1 : Int32)), (.int (1 : Int32))])) (fun t9 k9 => XS.iconst X94.here hx rfl (hb hby at_208) k9) ?_
    refine own_st (T' := T94) (g' := (mkF m 212 #[.val (.int p1), .val (.int p2), .val (.int p3), .val (.int p4), .val (.int p5), .val (.int p6), .val (.int (4 : Int32)), .val (.int (Int32.ofNat (cn + 1))), .val (.ref b1), .val (.ref b70), .val (.ref b88), .val (.int (1 : Int32))] [])) (fun t9 k9 => XS.icmpNo X94.here hx rfl (hb hby at_209) rfl (teq rfl).2 k9) ?_
    refine own_st (T' := T94) (g' := (mkF m 213 #[.val (.int p1), .val (.int p2), .val (.int p3), .val (.int p4), .val (.int p5), .val (.int p6), .val (.int (4 : Int32)), .val (.int (Int32.ofNat (cn + 1))), .val (.ref b1), .val (.ref b70), .val (.ref b88), .val (.int (1 : Int32))] [(.int (1 : Int32))])) (fun t9 k9 => XS.iconst X94.here hx rfl (hb hby at_212) k9) ?_
    refine own_st (T' := T94) (g' := (mkF m 217 #[.val (.int p1), .val (.int p2), .val (.int p3), .val (.int p4), .val (.int p5), .val (.int p6), .val (.int (4 : Int32)), .val (.int (Int32.ofNat (cn + 1))), .val (.ref b1), .val (.ref b70), .val (.ref b88), .val (.int (1 : Int32))] [(.int (1 : Int32))])) (fun t9 k9 => XS.goto X94.here hx rfl (pc0 := 213) (pc' := 217) rfl (hb hby at_213) (by decide) (by decide) k9) ?_
    refine own_st (T' := T94) (g' := (mkF m 219 #[.val (.int p1), .val (.int p2), .val (.int p3), .val (.int p4), .val (.int p5), .val (.int p6), .val (.int (4 : Int32)), .val (.int (Int32.ofNat (cn + 1))), .val (.ref b1), .val (.ref b70), .val (.ref b88), .val (.int (1 : Int32))] [])) (fun t9 k9 => XS.istore X94.here hx rfl (hb hby at_217) rfl (l' := #[.val (.int p1), .val (.int p2), .val (.int p3), .val (.int p4), .val (.int p5), .val (.int p6), .val (.int (4 : Int32)), .val (.int (Int32.ofNat (cn + 1))), .val (.ref b1), .val (.ref b70), .val (.ref b88), .val (.int (1 : Int32))]) rfl k9) ?_
    refine own_st (T' := T94) (g' := (mkF m 221 #[.val (.int p1), .val (.int p2), .val (.int p3), .val (.int p4), .val (.int p5), .val (.int p6), .val (.int (4 : Int32)), .val (.int (Int32.ofNat (cn + 1))), .val (.ref b1), .val (.ref b70), .val (.ref b88), .val (.int (1 : Int32))] [(.int (4 : Int32))])) (fun t9 k9 => XS.iload X94.here hx rfl (hb hby at_219) rfl k9) ?_
    refine own_st (T' := T94) (g' := (mkF m 222 #[.val (.int p1), .val (.int p2), .val (.int p3), .val (.int p4), .val (.int p5), .val (.int p6), .val (.int (4 : Int32)), .val (.int (Int32.ofNat (cn + 1))), .val (.ref b1), .val (.ref b70), .val (.ref b88), .val (.int (1 : Int32))] [(.int (2 : Int32)), (.int (4 : Int32))])) (fun t9 k9 => XS.iconst X94.here hx rfl (hb hby at_221) k9) ?_
    refine own_st (T' := T94) (g' := (mkF m 225 #[.val (.int p1), .val (.int p2), .val (.int p3), .val (.int p4), .val (.int p5), .val (.int p6), .val (.int (4 : Int32)), .val (.int (Int32.ofNat (cn + 1))), .val (.ref b1), .val (.ref b70), .val (.ref b88), .val (.int (1 : Int32))] [])) (fun t9 k9 => XS.icmpNo X94.here hx rfl (hb hby at_222) rfl (tlt (by decide)).2.2.2 k9) ?_
    refine own_st (T' := T94) (g' := (mkF m 227 #[.val (.int p1), .val (.int p2), .val (.int p3), .val (.int p4), .val (.int p5), .val (.int p6), .val (.int (4 : Int32)), .val (.int (Int32.ofNat (cn + 1))), .val (.ref b1), .val (.ref b70), .val (.ref b88), .val (.int (1 : Int32))] [(.int (1 : Int32))])) (fun t9 k9 => XS.iload X94.here hx rfl (hb hby at_225) rfl k9) ?_
    refine own_st (T' := T94) (g' := (mkF m 230 #[.val (.int p1), .val (.int p2), .val (.int p3), .val (.int p4), .val (.int p5), .val (.int p6), .val (.int (4 : Int32)), .val (.int (Int32.ofNat (cn + 1))), .val (.ref b1), .val (.ref b70), .val (.ref b88), .val (.int (1 : Int32))] [])) (fun t9 k9 => XS.ifNo X94.here hx rfl (hb hby at_227) rfl ((if0 _ _).trans (feq (by decide)).1) k9) ?_
    refine own_st (T' := T94) (g' := (mkF m 232 #[.val (.int p1), .val (.int p2), .val (.int p3), .val (.int p4), .val (.int p5), .val (.int p6), .val (.int (4 : Int32)), .val (.int (Int32.ofNat (cn + 1))), .val (.ref b1), .val (.ref b70), .val (.ref b88), .val (.int (1 : Int32))] [(.ref b88)])) (fun t9 k9 => XS.aload X94.here hx rfl (hb hby at_230) rfl rfl k9) ?_
    refine own_st (T' := T94) (g' := (mkF m 234 #[.val (.int p1), .val (.int p2), .val (.int p3), .val (.int p4), .val (.int p5), .val (.int p6), .val (.int (4 : Int32)), .val (.int (Int32.ofNat (cn + 1))), .val (.ref b1), .val (.ref b70), .val (.ref b88), .val (.int (1 : Int32))] [(.ref b1), (.ref b88)])) (fun t9 k9 => XS.aload X94.here hx rfl (hb hby at_232) rfl rfl k9) ?_
    refine own_st (T' := T94) (g' := (mkF m 236 #[.val (.int p1), .val (.int p2), .val (.int p3), .val (.int p4), .val (.int p5), .val (.int p6), .val (.int (4 : Int32)), .val (.int (Int32.ofNat (cn + 1))), .val (.ref b1), .val (.ref b70), .val (.ref b88), .val (.int (1 : Int32))] [(.int (4 : Int32)), (.ref b1), (.ref b88)])) (fun t9 k9 => XS.iload X94.here hx rfl (hb hby at_234) rfl k9) ?_
    refine own_st (T' := T94) (g' := (mkF m 237 #[.val (.int p1), .val (.int p2), .val (.int p3), .val (.int p4), .val (.int p5), .val (.int p6), .val (.int (4 : Int32)), .val (.int (Int32.ofNat (cn + 1))), .val (.ref b1), .val (.ref b70), .val (.ref b88), .val (.int (1 : Int32))] [(.int (2 : Int32)), (.int (4 : Int32)), (.ref b1), (.ref b88)])) (fun t9 k9 => XS.iconst X94.here hx rfl (hb hby at_236) k9) ?_
    obtain ⟨_, _, ⟨T96, L96, k96, n96⟩, -, X96, ⟨Lc96, hQ96, l96, y96, z96⟩, st96⟩ := Jvm.LawKit.callS X94 hx (y := (⟨"com/example/shelfwright/shelfwright/checker/OrdersAscendingPinLaw", "pos", "([III)I"⟩ : MethodName)) hown (mvT hZ (hw _ (List.mem_of_getElem? (i := 6) rfl))) (mvT hZ (hw _ (List.mem_of_getElem? (i := 7) rfl))) (mvT hZ (hw _ (List.mem_of_getElem? (i := 8) rfl))) (mvT hZ (hw _ (List.mem_of_getElem? (i := 9) rfl))) (by decide) (own_back (W := 1) (rm2 l Z a0 hw b1 k1 _ (own_rk x0 x1 x2 x3) 4 2 h88 n0 Z88 Va9_89 ⟨rfl, fun j hj => by
          match j, hj with
          | 0, _ => rfl
          | 1, _ => rfl
          | 2, _ => rfl
          | 3, _ => rfl⟩ (fun i hi => Nat.le_trans (Nat.le_of_lt (hrk i hi)) (by omega)) (by decide) (by decide)) hZ (hw _ (List.mem_of_getElem? (i := 9) rfl)) (hw _ (List.mem_of_getElem? (i := 8) rfl)) (by decide) (by decide)) (g := (mkF m 237 #[.val (.int p1), .val (.int p2), .val (.int p3), .val (.int p4), .val (.int p5), .val (.int p6), .val (.int (4 : Int32)), .val (.int (Int32.ofNat (cn + 1))), .val (.ref b1), .val (.ref b70), .val (.ref b88), .val (.int (1 : Int32))] [(.int (2 : Int32)), (.int (4 : Int32)), (.ref b1), (.ref b88)])) rfl (by rw [hml]; rfl) (argsL := [(.ref b1), (.int (4 : Int32)), (.int (2 : Int32))]) (rest := [(.ref b88)]) (lenOf pd_1 rfl) rfl (by show 2 * 0 + _ ≤ _; exact Nat.le_of_eq rfl) (hb hby at_237) (fun _ _ => ⟨rfl, e94, (Nat.le_of_ble_eq_true rfl), (Nat.le_of_ble_eq_true rfl)⟩)
    dsimp only [Pt.U, Pt.locs, Pt.cells, Pt.slots] at X96 l96 y96 z96 st96 hQ96
    subst l96 y96 z96
    obtain ⟨rfl, Nq96, he96⟩ := hQ96
    have N96 := Fr.app N94 Nq96
    have e96 : T96.heap = h88 := he96
    refine own_st (T' := T96) (g' := (mkF m 240 #[.val (.int p1), .val (.int p2), .val (.int p3), .val (.int p4), .val (.int p5), .val (.int p6), .val (.int (4 : Int32)), .val (.int (Int32.ofNat (cn + 1))), .val (.ref b1), .val (.ref b70), .val (.ref b88), .val (.int (1 : Int32))] [(.int (Int32.ofNat (own_pos (own_rk x0 x1 x2 x3) 4 2))), (.ref b88)])) (fun t9 k9 => st96 t9 k9) ?_
    have hps2 := own_pos_lt (rk := (own_rk x0 x1 x2 x3)) (n := 4) (p := 2) (by decide)
    obtain ⟨s12, s22⟩ := own_nat (i := own_pos (own_rk x0 x1 x2 x3) 4 2) (by omega)
    obtain ⟨clu97, Aru97, qu97, Su97, Nu97, Hu97, Gu97⟩ := (id Vq88)
    have hinu97 := inb_of Su97 (j := (Int32.ofNat (own_pos (own_rk x0 x1 x2 x3) 4 2))) ⟨s22, own_lt (n := 4) hps2 (by omega)⟩
    refine own_st (T' := T96) (g' := (mkF m 241 #[.val (.int p1), .val (.int p2), .val (.int p3), .val (.int p4), .val (.int p5), .val (.int p6), .val (.int (4 : Int32)), .val (.int (Int32.ofNat (cn + 1))), .val (.ref b1), .val (.ref b70), .val (.ref b88), .val (.int (1 : Int32))] [(.int (2 : Int32))])) (fun t9 k9 => X96.iaload hx (j := (Int32.ofNat (own_pos (own_rk x0 x1 x2 x3) 4 2))) (v := (.int (2 : Int32))) (by rw [e96]; exact Aru97.1) (State.isArrayOf_alike hZ.alike Aru97.2.1) Aru97.2.2 hinu97 (Hu97.at hinu97 (by rw [s12]; exact hO88 2 (by decide))) (g := (mkF m 240 #[.val (.int p1), .val (.int p2), .val (.int p3), .val (.int p4), .val (.int p5), .val (.int p6), .val (.int (4 : Int32)), .val (.int (Int32.ofNat (cn + 1))), .val (.ref b1), .val (.ref b70), .val (.ref b88), .val (.int (1 : Int32))] [(.int (Int32.ofNat (own_pos (own_rk x0 x1 x2 x3) 4 2))), (.ref b88)])) rfl rfl (hb hby at_240) t9 k9) ?_
    refine own_st (T' := T96) (g' := (mkF m 242 #[.val (.int p1), .val (.int p2), .val (.int p3), .val (.int p4), .val (.int p5), .val (.int p6), .val (.int (4 : Int32)), .val (.int (Int32.ofNat (cn + 1))), .val (.ref b1), .val (.ref b70), .val (.ref b88), .val (.int (1 : Int32))] [(.int (2 : Int32)), (.int (2 : Int32))])) (fun t9 k9 => XS.iconst X96.here hx rfl (hb hby at_241) k9) ?_
    refine own_st (T' := T96) (g' := (mkF m 245 #[.val (.int p1), .val (.int p2), .val (.int p3), .val (.int p4), .val (.int p5), .val (.int p6), .val (.int (4 : Int32)), .val (.int (Int32.ofNat (cn + 1))), .val (.ref b1), .val (.ref b70), .val (.ref b88), .val (.int (1 : Int32))] [])) (fun t9 k9 => XS.icmpNo X96.here hx rfl (hb hby at_242) rfl (teq rfl).2 k9) ?_
    refine own_st (T' := T96) (g' := (mkF m 246 #[.val (.int p1), .val (.int p2), .val (.int p3), .val (.int p4), .val (.int p5), .val (.int p6), .val (.int (4 : Int32)), .val (.int (Int32.ofNat (cn + 1))), .val (.ref b1), .val (.ref b70), .val (.ref b88), .val (.int (1 : Int32))] [(.int (1 : Int32))])) (fun t9 k9 => XS.iconst X96.here hx rfl (hb hby at_245) k9) ?_
    refine own_st (T' := T96) (g' := (mkF m 250 #[.val (.int p1), .val (.int p2), .val (.int p3), .val (.int p4), .val (.int p5), .val (.int p6), .val (.int (4 : Int32)), .val (.int (Int32.ofNat (cn + 1))), .val (.ref b1), .val (.ref b70), .val (.ref b88), .val (.int (1 : Int32))] [(.int (1 : Int32))])) (fun t9 k9 => XS.goto X96.here hx rfl (pc0 := 246) (pc' := 250) rfl (hb hby at_246) (by decide) (by decide) k9) ?_
    refine own_st (T' := T96) (g' := (mkF m 252 #[.val (.int p1), .val (.int p2), .val (.int p3), .val (.int p4), .val (.int p5), .val (.int p6), .val (.int (4 : Int32)), .val (.int (Int32.ofNat (cn + 1))), .val (.ref b1), .val (.ref b70), .val (.ref b88), .val (.int (1 : Int32))] [])) (fun t9 k9 => XS.istore X96.here hx rfl (hb hby at_250) rfl (l' := #[.val (.int p1), .val (.int p2), .val (.int p3), .val (.int p4), .val (.int p5), .val (.int p6), .val (.int (4 : Int32)), .val (.int (Int32.ofNat (cn + 1))), .val (.ref b1), .val (.ref b70), .val (.ref b88), .val (.int (1 : Int32))]) rfl k9) ?_
    refine own_st (T' := T96) (g' := (mkF m 254 #[.val (.int p1), .val (.int p2), .val (.int p3), .val (.int p4), .val (.int p5), .val (.int p6), .val (.int (4 : Int32)), .val (.int (Int32.ofNat (cn + 1))), .val (.ref b1), .val (.ref b70), .val (.ref b88), .val (.int (1 : Int32))] [(.int (4 : Int32))])) (fun t9 k9 => XS.iload X96.here hx rfl (hb hby at_252) rfl k9) ?_
    refine own_st (T' := T96) (g' := (mkF m 255 #[.val (.int p1), .val (.int p2), .val (.int p3), .val (.int p4), .val (.int p5), .val (.int p6), .val (.int (4 : Int32)), .val (.int (Int32.ofNat (cn + 1))), .val (.ref b1), .val (.ref b70), .val (.ref b88), .val (.int (1 : Int32))] [(.int (3 : Int32)), (.int (4 : Int32))])) (fun t9 k9 => XS.iconst X96.here hx rfl (hb hby at_254) k9) ?_
    refine own_st (T' := T96) (g' := (mkF m 258 #[.val (.int p1), .val (.int p2), .val (.int p3), .val (.int p4), .val (.int p5), .val (.int p6), .val (.int (4 : Int32)), .val (.int (Int32.ofNat (cn + 1))), .val (.ref b1), .val (.ref b70), .val (.ref b88), .val (.int (1 : Int32))] [])) (fun t9 k9 => XS.icmpNo X96.here hx rfl (hb hby at_255) rfl (tlt (by decide)).2.2.2 k9) ?_
    refine own_st (T' := T96) (g' := (mkF m 260 #[.val (.int p1), .val (.int p2), .val (.int p3), .val (.int p4), .val (.int p5), .val (.int p6), .val (.int (4 : Int32)), .val (.int (Int32.ofNat (cn + 1))), .val (.ref b1), .val (.ref b70), .val (.ref b88), .val (.int (1 : Int32))] [(.int (1 : Int32))])) (fun t9 k9 => XS.iload X96.here hx rfl (hb hby at_258) rfl k9) ?_
    refine own_st (T' := T96) (g' := (mkF m 263 #[.val (.int p1), .val (.int p2), .val (.int p3), .val (.int p4), .val (.int p5), .val (.int p6), .val (.int (4 : Int32)), .val (.int (Int32.ofNat (cn + 1))), .val (.ref b1), .val (.ref b70), .val (.ref b88), .val (.int (1 : Int32))] [])) (fun t9 k9 => XS.ifNo X96.here hx rfl (hb hby at_260) rfl ((if0 _ _).trans (feq (by decide)).1) k9) ?_
    refine own_st (T' := T96) (g' := (mkF m 265 #[.val (.int p1), .val (.int p2), .val (.int p3), .val (.int p4), .val (.int p5), .val (.int p6), .val (.int (4 : Int32)), .val (.int (Int32.ofNat (cn + 1))), .val (.ref b1), .val (.ref b70), .val (.ref b88), .val (.int (1 : Int32))] [(.ref b88)])) (fun t9 k9 => XS.aload X96.here hx rfl (hb hby at_263) rfl rfl k9) ?_
    refine own_st (T' := T96) (g' := (mkF m 267 #[.val (.int p1), .val (.int p2), .val (.int p3), .val (.int p4), .val (.int p5), .val (.int p6), .val (.int (4 : Int32)), .val (.int (Int32.ofNat (cn + 1))), .val (.ref b1), .val (.ref b70), .val (.ref b88), .val (.int (1 : Int32))] [(.ref b1), (.ref b88)])) (fun t9 k9 => XS.aload X96.here hx rfl (hb hby at_265) rfl rfl k9) ?_
    refine own_st (T' := T96) (g' := (mkF m 269 #[.val (.int p1), .val (.int p2), .val (.int p3), .val (.int p4), .val (.int p5), .val (.int p6), .val (.int (4 : Int32)), .val (.int (Int32.ofNat (cn + 1))), .val (.ref b1), .val (.ref b70), .val (.ref b88), .val (.int (1 : Int32))] [(.int (4 : Int32)), (.ref b1), (.ref b88)])) (fun t9 k9 => XS.iload X96.here hx rfl (hb hby at_267) rfl k9) ?_
    refine own_st (T' := T96) (g' := (mkF m 270 #[.val (.int p1), .val (.int p2), .val (.int p3), .val (.int p4), .val (.int p5), .val (.int p6), .val (.int (4 : Int32)), .val (.int (Int32.ofNat (cn + 1))), .val (.ref b1), .val (.ref b70), .val (.ref b88), .val (.int (1 : Int32))] [(.int (3 : Int32)), (.int (4 : Int32)), (.ref b1), (.ref b88)])) (fun t9 k9 => XS.iconst X96.here hx rfl (hb hby at_269) k9) ?_
    obtain ⟨_, _, ⟨T98, L98, k98, n98⟩, -, X98, ⟨Lc98, hQ98, l98, y98, z98⟩, st98⟩ := Jvm.LawKit.callS X96 hx (y := (⟨"com/example/shelfwright/shelfwright/checker/OrdersAscendingPinLaw", "pos", "([III)I"⟩ : MethodName)) hown (mvT hZ (hw _ (List.mem_of_getElem? (i := 6) rfl))) (mvT hZ (hw _ (List.mem_of_getElem? (i := 7) rfl))) (mvT hZ (hw _ (List.mem_of_getElem? (i := 8) rfl))) (mvT hZ (hw _ (List.mem_of_getElem? (i := 9) rfl))) (by decide) (own_back (W := 1) (rm2 l Z a0 hw b1 k1 _ (own_rk x0 x1 x2 x3) 4 3 h88 n0 Z88 Va9_89 ⟨rfl, fun j hj => by
          match j, hj with
          | 0, _ => rfl
          | 1, _ => rfl
          | 2, _ => rfl
          | 3, _ => rfl⟩ (fun i hi => Nat.le_trans (Nat.le_of_lt (hrk i hi)) (by omega)) (by decide) (by decide)) hZ (hw _ (List.mem_of_getElem? (i := 9) rfl)) (hw _ (List.mem_of_getElem? (i := 8) rfl)) (by decide) (by decide)) (g := (mkF m 270 #[.val (.int p1), .val (.int p2), .val (.int p3), .val (.int p4), .val (.int p5), .val (.int p6), .val (.int (4 : Int32)), .val (.int (Int32.ofNat (cn + 1))), .val (.ref b1), .val (.ref b70), .val (.ref b88), .val (.int (1 : Int32))] [(.int (3 : Int32)), (.int (4 : Int32)), (.ref b1), (.ref b88)])) rfl (by rw [hml]; rfl) (argsL := [(.ref b1), (.int (4 : Int32)), (.int (3 : Int32))]) (rest := [(.ref b88)]) (lenOf pd_1 rfl) rfl (by show 2 * 0 + _ ≤ _; exact Nat.le_of_eq rfl) (hb hby at_270) (fun _ _ => ⟨rfl, e96, (Nat.le_of_ble_eq_true rfl), (Nat.le_of_ble_eq_true rfl)⟩)
    dsimp only [Pt.U, Pt.locs, Pt.cells, Pt.slots] at X98 l98 y98 z98 st98 hQ98
    subst l98 y98 z98
    obtain ⟨rfl, Nq98, he98⟩ := hQ98
    have N98 := Fr.app N96 Nq98
    have e98 : T98.heap = h88 := he98
    refine own_st (T' := T98) (g' := (mkF m 273 #[.val (.int p1), .val (.int p2), .val (.int p3), .val (.int p4), .val (.int p5), .val (.int p6), .val (.int (4 : Int32)), .val (.int (Int32.ofNat (cn + 1))), .val (.ref b1), .val (.ref b70), .val (.ref b88), .val (.int (1 : Int32))] [(.int (Int32.ofNat (own_pos (own_rk x0 x1 x2 x3) 4 3))), (.ref b88)])) (fun t9 k9 => st98 t9 k9) ?_
    have hps3 := own_pos_lt (rk := (own_rk x0 x1 x2 x3)) (n := 4) (p := 3) (by decide)
    obtain ⟨s13, s23⟩ := own_nat (i := own_pos (own_rk x0 x1 x2 x3) 4 3) (by omega)
    obtain ⟨clu99, Aru99, qu99, Su99, Nu99, Hu99, Gu99⟩ := (id Vq88)
    have hinu99 := inb_of Su99 (j := (Int32.ofNat (own_pos (own_rk x0 x1 x2 x3) 4 3))) ⟨s23, own_lt (n := 4) hps3 (by omega)⟩
    refine own_st (T' := T98) (g' := (mkF m 274 #[.val (.int p1), .val (.int p2), .val (.int p3), .val (.int p4), .val (.int p5), .val (.int p6), .val (.int (4 : Int32)), .val (.int (Int32.ofNat (cn + 1))), .val (.ref b1), .val (.ref b70), .val (.ref b88), .val (.int (1 : Int32))] [(.int (3 : Int32))])) (fun t9 k9 => X98.iaload hx (j := (Int32.ofNat (own_pos (own_rk x0 x1 x2 x3) 4 3))) (v := (.int (3 : Int32))) (by rw [e98]; exact Aru99.1) (State.isArrayOf_alike hZ.alike Aru99.2.1) Aru99.2.2 hinu99 (Hu99.at hinu99 (by rw [s13]; exact hO88 3 (by decide))) (g := (mkF m 273 #[.val (.int p1), .val (.int p2), .val (.int p3), .val (.int p4), .val (.int p5), .val (.int p6), .val (.int (4 : Int32)), .val (.int (Int32.ofNat (cn + 1))), .val (.ref b1), .val (.ref b70), .val (.ref b88), .val (.int (1 : Int32))] [(.int (Int32.ofNat (own_pos (own_rk x0 x1 x2 x3) 4 3))), (.ref b88)])) rfl rfl (hb hby at_273) t9 k9) ?_
    refine own_st (T' := T98) (g' := (mkF m 275 #[.val (.int p1), .val (.int p2), .val (.int p3), .val (.int p4), .val (.int p5), .val (.int p6), .val (.int (4 : Int32)), .val (.int (Int32.ofNat (cn + 1))), .val (.ref b1), .val (.ref b70), .val (.ref b88), .val (.int (1 : Int32))] [(.int (3 : Int32)), (.int (3 : Int32))])) (fun t9 k9 => XS.iconst X98.here hx rfl (hb hby at_274) k9) ?_
    refine own_st (T' := T98) (g' := (mkF m 278 #[.val (.int p1), .val (.int p2), .val (.int p3), .val (.int p4), .val (.int p5), .val (.int p6), .val (.int (4 : Int32)), .val (.int (Int32.ofNat (cn + 1))), .val (.ref b1), .val (.ref b70), .val (.ref b88), .val (.int (1 : Int32))] [])) (fun t9 k9 => XS.icmpNo X98.here hx rfl (hb hby at_275) rfl (teq rfl).2 k9) ?_
    refine own_st (T' := T98) (g' := (mkF m 279 #[.val (.int p1), .val (.int p2), .val (.int p3), .val (.int p4), .val (.int p5), .val (.int p6), .val (.int (4 : Int32)), .val (.int (Int32.ofNat (cn + 1))), .val (.ref b1), .val (.ref b70), .val (.ref b88), .val (.int (1 : Int32))] [(.int (1 : Int32))])) (fun t9 k9 => XS.iconst X98.here hx rfl (hb hby at_278) k9) ?_
    refine own_st (T' := T98) (g' := (mkF m 283 #[.val (.int p1), .val (.int p2), .val (.int p3), .val (.int p4), .val (.int p5), .val (.int p6), .val (.int (4 : Int32)), .val (.int (Int32.ofNat (cn + 1))), .val (.ref b1), .val (.ref b70), .val (.ref b88), .val (.int (1 : Int32))] [(.int (1 : Int32))])) (fun t9 k9 => XS.goto X98.here hx rfl (pc0 := 279) (pc' := 283) rfl (hb hby at_279) (by decide) (by decide) k9) ?_
    refine own_st (T' := T98) (g' := (mkF m 285 #[.val (.int p1), .val (.int p2), .val (.int p3), .val (.int p4), .val (.int p5), .val (.int p6), .val (.int (4 : Int32)), .val (.int (Int32.ofNat (cn + 1))), .val (.ref b1), .val (.ref b70), .val (.ref b88), .val (.int (1 : Int32))] [])) (fun t9 k9 => XS.istore X98.here hx rfl (hb hby at_283) rfl (l' := #[.val (.int p1), .val (.int p2), .val (.int p3), .val (.int p4), .val (.int p5), .val (.int p6), .val (.int (4 : Int32)), .val (.int (Int32.ofNat (cn + 1))), .val (.ref b1), .val (.ref b70), .val (.ref b88), .val (.int (1 : Int32))]) rfl k9) ?_
    refine own_st (T' := T98) (g' := (mkF m 287 #[.val (.int p1), .val (.int p2), .val (.int p3), .val (.int p4), .val (.int p5), .val (.int p6), .val (.int (4 : Int32)), .val (.int (Int32.ofNat (cn + 1))), .val (.ref b1), .val (.ref b70), .val (.ref b88), .val (.int (1 : Int32))] [(.int (1 : Int32))])) (fun t9 k9 => XS.iload X98.here hx rfl (hb hby at_285) rfl k9) ?_
    refine own_ret (v := some (.int (1 : Int32))) hF X98 (own_some hret) hlk (fun fs hr => retN X98 hx (t := .boolean) hret (by simp) (hb hby at_287) hr) ?_ (by decide) (by decide)
    try rw [e98]
    exact ⟨rfl, N98⟩
set_option maxRecDepth 65536 in
set_option maxHeartbeats 40000000 in
theorem comes_1 {Post : Tables → Env → Array Value → State → Outcome → State → Prop} (hpost : ∀ tb e args s v u, (limb_1_1.after args s (.returned v) u = true ∧ limb_1_2.after args s (.returned v) u = true ∧ True) → FrameEnd s (.returned v) u (Jvm.fieldLocs frame_1_writes args s ++ Jvm.arrayLocs frame_1_arrays args s ++ Jvm.staticLocs frame_1_statics s) 16 128 → Post tb e args s (.returned v) u) :
    ArmFor flags0 classFile x code maxLocals ret World_1 tables_1 room_1 Calls_1 rest_1 Pre_1 Post := by
  intro l hfl _ _ p e ha hc hk s m args below hf hA hF happ hP
  obtain ⟨hcalls, hrest, hpre⟩ := hP
  obtain ⟨-, -, -, hnamed, -, -, -, hat⟩ := (Spec.applies_iff hf).mp happ
  obtain ⟨hg, hn⟩ := and_e (Cond.before_iff.mp (show (Jvm.Cond.and given_1 narrow_1).before args s = true from hpre))
  obtain ⟨ga0, gb0⟩ := and_e hg
  obtain ⟨ga1, gb1⟩ := and_e gb0
  obtain ⟨ga2, gb2⟩ := and_e gb1
  obtain ⟨ga3, gb3⟩ := and_e gb2
  obtain ⟨ga4, gb4⟩ := and_e gb3
  obtain ⟨ga5, gb5⟩ := and_e gb4
  obtain ⟨w0, w1, w2, w3, w4, w5, rfl⟩ : ∃ w0 w1 w2 w3 w4 w5 : Value, args = #[w0, w1, w2, w3, w4, w5] := by
    have hs : args.size = 6 := by simpa [Cond.value, given_1] using ga0
    obtain ⟨L⟩ := args
    match L, hs with
    | [w0, w1, w2, w3, w4, w5], _ => exact ⟨w0, w1, w2, w3, w4, w5, rfl⟩
  have hw := fun d (hd : d ∈ tables_1) => atoms_spec (ws := Jvm.Cond.code x code maxLocals ret :: tables_1) hat d (List.mem_cons_of_mem _ hd)
  have hfit : Fit s := fun {y c} hc i hi => by
    obtain ⟨ha, rfl⟩ := Array.getElem?_eq_some_iff.mp hc
    have q := List.all_eq_true.mp ((Array.all_eq_true_iff_forall_mem.mp hF) _ (Array.getElem_mem ha)) i (List.mem_range.mpr hi)
    simpa [Array.getElem?_eq_getElem hi] using q
  obtain ⟨i0, ei0⟩ := is_v ga1
  obtain rfl : w0 = (.int i0) := Option.some.inj ei0
  obtain ⟨i1, ei1⟩ := is_v ga2
  obtain rfl : w1 = (.int i1) := Option.some.inj ei1
  obtain ⟨i2, ei2⟩ := is_v ga3
  obtain rfl : w2 = (.int i2) := Option.some.inj ei2
  obtain ⟨i3, ei3⟩ := is_v ga4
  obtain rfl : w3 = (.int i3) := Option.some.inj ei3
  obtain ⟨i4, ei4⟩ := is_v ga5
  obtain rfl : w4 = (.int i4) := Option.some.inj ei4
  obtain ⟨i5, ei5⟩ := is_v gb5
  obtain rfl : w5 = (.int i5) := Option.some.inj ei5
  obtain ⟨n, o, h1, h2, h3, _, L, rfl, ⟨rfl, N⟩, hq⟩ := rm0 l s _ hw i0 i1 i2 i3 i4 i5 s.heap s.heap.size (Nat.le_refl _)  tables_1 p e ha hc hk s m _ below hf ((Spec.applies_iff_loose hf).mp happ).1 ⟨rfl, State.Warmed39.refl s, rfl⟩ trivial
  refine ⟨n, _, h1, h2, h3, hpost _ _ _ _ _ _ ⟨Cond.after_iff.mpr rfl, Cond.after_iff.mpr (eq_i res_at (Term.int_eval (1)) rfl), trivial⟩ ⟨hq.1, hq.2.1, (hq.2.2.sift fun y hy => Or.inr (N y hy)).mono (by decide) (by decide)⟩⟩
theorem main_1_1 : Claimed_1_1 := comes_1 fun _ _ _ _ _ _ h hF => ⟨h.1, hF⟩
theorem main_1_2 : Claimed_1_2 := comes_1 fun _ _ _ _ _ _ h hF => ⟨h.2.1, hF⟩
end Jvm.Pilot.@@N@@
namespace Jvm.Pilot.@@N@@
open Jvm Jvm.ClassFile Sem Op Lib Jvm.Free Jvm.Stand Jvm.Pilot.@@N@@.Jvm.D
/-! MADE BY PROGRAM (witnessworld.py) out of the Statement's table words and the real class files: 9 classes; the members and pool entries that the words name. The judged class is class 1, her method 1. -/
namespace start1
open Jvm.ClassFile
def u (s : String) : CpInfo := .utf8 (stringToUtf16 s)
/-- a pool by its gaps: so many unusable entries, then the entry; so many at the end -/
def gap : Nat → List CpInfo → List CpInfo
  | 0, r => r
  | n + 1, r => .unusable :: gap n r
def poolList (es : List (Nat × CpInfo)) (last : Nat) : List CpInfo := es.foldr (fun e r => gap e.1 (e.2 :: r)) (gap last [])
def pool (es : List (Nat × CpInfo)) (last : Nat) : Array CpInfo := ⟨poolList es last⟩
def fileOf (pool : Array CpInfo) (this : Nat) (attrs : Array Attribute := #[]) (ms : Array MethodInfo := #[]) (fl : Nat := 33) (sup : Nat := 0) (ifs : Array Nat := #[]) (fds : Array FieldInfo := #[]) : ClassFile where
  minorVersion := 0
  majorVersion := 65
  constantPool := pool
  accessFlags := fl
  thisClass := this
  superClass := sup
  interfaces := ifs
  fields := fds
  methods := ms
  attributes := attrs
def plain (name : String) (sup : Option ClassId) : Class where
  name := name
  kind := .ordinary
  loader := none
  accessFlags := 33
  super := sup
  interfaces := #[]
  cf := none
  fields := #[]
  methods := #[]
  instanceTypes := #[]
  staticTypes := #[]
  resolved := #[]
  callSites := []
  init := .initialized
  statics := none
  mirror := none

def pool0 : Array CpInfo := pool [(5, u "<init>"), (0, u "()V"), (1, .class_ 10), (1, u "java/lang/Object")] 113

def k0m0 : Method := { name := "<init>", desc := "()V", sig := { parameters := [], returnType := none }, accessFlags := 1, code := none }
/-- java/lang/Object -/
def k0 : Class := { plain "java/lang/Object" none with
  accessFlags := 33
  interfaces := #[]
  cf := some (fileOf pool0 8 #[] #[{ accessFlags := 1, nameIndex := 5, descriptorIndex := 6, attributes := #[] }] 33 0 #[] #[])
  fields := #[]
  methods := #[k0m0]
  instanceTypes := #[]
  staticTypes := #[]
  resolved := Array.replicate 124 none
  statics := none }

def pool1 : Array CpInfo := pool [(2, .class_ 4), (1, u "java/lang/Object"), (0, u "<init>"), (0, u "()V"), (0, .integer 2147483647), (0, .methodref 9 10), (0, .class_ 11), (0, .nameAndType 12 13), (0, u "com/example/shelfwright/shelfwright/checker/Orders"), (0, u "ascending"), (0, u "([II)[I"), (0, .methodref 15 16), (0, .class_ 17), (0, .nameAndType 18 19), (0, u "com/example/shelfwright/shelfwright/checker/OrdersAscendingPinLaw"), (0, u "pos"), (0, u "([III)I"), (0, .methodref 15 21), (0, .nameAndType 22 23), (0, u "lt"), (0, u "([IIII)I"), (0, .methodref 15 25), (0, .nameAndType 26 23), (0, u "eqBefore"), (2, u "law"), (0, u "(IIIIII)Z")] 5

def k1m0 : Method := { name := "<init>", desc := "()V", sig := { parameters := [], returnType := none }, accessFlags := 2, code := none }
def k1c1 : Code := { maxStack := 4, maxLocals := 12, code := code, exceptionTable := #[], attributes := #[] }
def k1m1 : Method := { name := "law", desc := "(IIIIII)Z", sig := { parameters := [.int, .int, .int, .int, .int, .int], returnType := some .boolean }, accessFlags := 9, code := some k1c1 }
def k1c2 : Code := { maxStack := 5, maxLocals := 4, code := method_3_code, exceptionTable := #[], attributes := #[] }
def k1m2 : Method := { name := "pos", desc := "([III)I", sig := { parameters := [(.array .int), .int, .int], returnType := some .int }, accessFlags := 10, code := some k1c2 }
def k1c3 : Code := { maxStack := 2, maxLocals := 4, code := method_4_code, exceptionTable := #[], attributes := #[] }
def k1m3 : Method := { name := "lt", desc := "([IIII)I", sig := { parameters := [(.array .int), .int, .int, .int], returnType := some .int }, accessFlags := 10, code := some k1c3 }
def k1c4 : Code := { maxStack := 2, maxLocals := 4, code := method_5_code, exceptionTable := #[], attributes := #[] }
def k1m4 : Method := { name := "eqBefore", desc := "([IIII)I", sig := { parameters := [(.array .int), .int, .int, .int], returnType := some .int }, accessFlags := 10, code := some k1c4 }
/-- com/example/shelfwright/shelfwright/checker/OrdersAscendingPinLaw -/
def k1 : Class := { plain "com/example/shelfwright/shelfwright/checker/OrdersAscendingPinLaw" (some 0) with
  accessFlags := 49
  interfaces := #[]
  cf := some (fileOf pool1 15 #[] #[{ accessFlags := 2, nameIndex := 5, descriptorIndex := 6, attributes := #[] }, { accessFlags := 9, nameIndex := 29, descriptorIndex := 30, attributes := #[] }, { accessFlags := 10, nameIndex := 18, descriptorIndex := 19, attributes := #[] }, { accessFlags := 10, nameIndex := 22, descriptorIndex := 23, attributes := #[] }, { accessFlags := 10, nameIndex := 26, descriptorIndex := 23, attributes := #[] }] 49 2 #[] #[])
  fields := #[]
  methods := #[k1m0, k1m1, k1m2, k1m3, k1m4]
  instanceTypes := #[]
  staticTypes := #[]
  resolved := Array.replicate 36 none
  statics := none }

def pool2 : Array CpInfo := pool [(2, .class_ 4), (1, u "java/lang/Object"), (0, u "<init>"), (0, u "()V"), (17, .class_ 26), (1, u "com/example/shelfwright/shelfwright/checker/Orders"), (0, u "ascending"), (0, u "([II)[I")] 8

def k2m0 : Method := { name := "<init>", desc := "()V", sig := { parameters := [], returnType := none }, accessFlags := 2, code := none }
def k2c1 : Code := { maxStack := 6, maxLocals := 7, code := prog_19_method_3_code, exceptionTable := #[], attributes := #[] }
def k2m1 : Method := { name := "ascending", desc := "([II)[I", sig := { parameters := [(.array .int), .int], returnType := some (.array .int) }, accessFlags := 8, code := some k2c1 }
/-- com/example/shelfwright/shelfwright/checker/Orders -/
def k2 : Class := { plain "com/example/shelfwright/shelfwright/checker/Orders" (some 0) with
  accessFlags := 32
  interfaces := #[]
  cf := some (fileOf pool2 24 #[] #[{ accessFlags := 2, nameIndex := 5, descriptorIndex := 6, attributes := #[] }, { accessFlags := 8, nameIndex := 27, descriptorIndex := 28, attributes := #[] }] 32 2 #[] #[])
  fields := #[]
  methods := #[k2m0, k2m1]
  instanceTypes := #[]
  staticTypes := #[]
  resolved := Array.replicate 37 none
  statics := none }

def pool3 : Array CpInfo := pool [(1, u "java/lang/Cloneable"), (0, .class_ 1), (0, u "java/lang/Object"), (0, .class_ 3)] 3

/-- java/lang/Cloneable -/
def k3 : Class := { plain "java/lang/Cloneable" (some 0) with
  accessFlags := 1537
  interfaces := #[]
  cf := some (fileOf pool3 2 #[] #[] 1537 4 #[] #[])
  fields := #[]
  methods := #[]
  instanceTypes := #[]
  staticTypes := #[]
  resolved := Array.replicate 8 none
  statics := none }

def pool4 : Array CpInfo := pool [(1, u "java/io/Serializable"), (0, .class_ 1), (0, u "java/lang/Object"), (0, .class_ 3)] 3

/-- java/io/Serializable -/
def k4 : Class := { plain "java/io/Serializable" (some 0) with
  accessFlags := 1537
  interfaces := #[]
  cf := some (fileOf pool4 2 #[] #[] 1537 4 #[] #[])
  fields := #[]
  methods := #[]
  instanceTypes := #[]
  staticTypes := #[]
  resolved := Array.replicate 8 none
  statics := none }

/-- the primitive byte -/
def k5 : Class := { plain "byte" none with kind := .primitive 'B', accessFlags := 0x411 }
/-- [B -/
def k6 : Class := { plain "[B" (some 0) with kind := .array 5 .byte, interfaces := #[3, 4], accessFlags := 1041 }

/-- the primitive int -/
def k7 : Class := { plain "int" none with kind := .primitive 'I', accessFlags := 0x411 }
/-- [I -/
def k8 : Class := { plain "[I" (some 0) with kind := .array 7 .int, interfaces := #[3, 4], accessFlags := 1041 }

def heap : Heap := #[]
def classes : Array Class := #[k0, k1, k2, k3, k4, k5, k6, k7, k8]
def interned : List (Array UInt16 × Addr) := []
def slotsUsed : Nat := 0
def theMethod : MethodId := ⟨1, 1⟩
def args0 : Array Value := #[.int 3, .int 9, .int 3, .int 2, .int 7, .int 1]
def aboutOver (below : List Frame) : State where
  vm := { classes := classes, interned := interned.toArray }
  heap := heap
  slotsUsed := slotsUsed
  threads := #[{ frames := .invoking theMethod args0 :: below }]
def below0 : List Frame := [.native { method := ⟨0, 0⟩, args := #[] }]
def about1 : State := aboutOver below0
def p0 : Program := .bare "" "" ""
def e0 : Env := launch0.env 0 0 0
theorem w_frames : about1.frames = Frame.invoking theMethod args0 :: below0 := rfl
set_option maxRecDepth 65536 in
theorem w_args : argsFit about1.vm theMethod args0 = true := by decide +kernel
set_option maxRecDepth 65536 in
theorem w_heap : heapFits about1 = true := by decide +kernel
set_option maxRecDepth 65536 in
theorem w_runnable : about1.curStatus? = some .runnable := by decide +kernel
set_option maxRecDepth 65536 in
theorem w_alone : about1.alone = true := by decide +kernel
set_option maxRecDepth 65536 in
theorem w_named : about1.methodNamed? x = some theMethod := by decide +kernel
set_option maxRecDepth 65536 in
theorem w_hears : about1.hears theMethod below0 = true := by decide +kernel
set_option maxRecDepth 65536 in
theorem w_ripe : about1.ripe theMethod args0 below0 = true := by decide +kernel
theorem w_running : about1.status = .running := rfl
set_option maxRecDepth 65536 in
theorem w_room : about1.hasRoom e0.platform room_1 = true :=
  launch0.hasRoom_least _ room_1 (by decide +kernel) (by decide +kernel) (by decide +kernel) (by decide +kernel) (by decide +kernel) (by decide +kernel)
theorem allAtoms_all (ts : List Jvm.Cond) (a : Array Jvm.Value) (st : Jvm.State) : (allAtoms ts).before a st = ts.all (fun c => c.before a st) := by
  induction ts with
  | nil => rfl
  | cons c t ih =>
    show (Jvm.Cond.and c (allAtoms t)).before a st = _
    rw [Jvm.Cond.before_and, ih, List.all_cons]
def words1 : List Jvm.Cond := Jvm.Cond.code x code maxLocals ret :: tables_1
/-- a 'code' word, met by the world's own term for the bytes: nothing is compared byte by byte -/
theorem code_word {y : MethodName} {bytes : ByteArray} {mx : Nat} {rt : Option FieldType} {a : Array Value} {s : State} {m : MethodId} {meth : Method} {c : Code} (h1 : s.methodNamed? y = some m) (h2 : s.vm.method? m = some meth) (h3 : meth.code = some c) (h4 : c.code = bytes)
    (h5 : (c.maxLocals == mx && c.exceptionTable.isEmpty && decide (c.maxStack ≤ mostOperands) && decide (meth.sig.returnType = rt) && !meth.locks && decide (parseMethodDescriptor y.desc = some meth.sig)) = true) : (Jvm.Cond.code y bytes mx rt).before a s = true := by
  simp only [Bool.and_eq_true, beq_iff_eq, Bool.not_eq_true', decide_eq_true_eq] at h5
  obtain ⟨⟨⟨⟨⟨g1, g2⟩, g3⟩, g4⟩, g5⟩, g6⟩ := h5
  simp [Cond.before, Cond.holds, Cond.value, h1, h2, h3, h4, g1, g2, g3, g4, g5, g6]
def isCode : Jvm.Cond → Bool
  | .code _ _ _ _ => true
  | _ => false
theorem all_split {L : List Jvm.Cond} {P : Jvm.Cond → Bool} (h1 : L.all (fun c => isCode c || P c) = true) (h2 : ∀ c ∈ L.filter isCode, P c = true) : L.all P = true := by
  refine List.all_eq_true.mpr fun c hc => ?_
  have h := List.all_eq_true.mp h1 c hc
  rcases Bool.eq_false_or_eq_true (isCode c) with hi | hi
  · exact h2 c (List.mem_filter.mpr ⟨hc, hi⟩)
  · simpa [hi] using h
set_option maxRecDepth 65536 in
theorem w_c0 : (Jvm.Cond.code x code maxLocals ret).before args0 about1 = true := code_word (m := ⟨1, 1⟩) (meth := k1m1) (c := k1c1) (by decide +kernel) rfl rfl rfl (by decide +kernel)
set_option maxRecDepth 65536 in
theorem w_c1 : (Jvm.Cond.code ({ cls := "com/example/shelfwright/shelfwright/checker/Orders", name := "ascending", desc := "([II)[I" } : Jvm.MethodName) prog_19_method_3_code (7 : Nat) (Option.some (Jvm.ClassFile.FieldType.array Jvm.ClassFile.FieldType.int))).before args0 about1 = true := code_word (m := ⟨2, 1⟩) (meth := k2m1) (c := k2c1) (by decide +kernel) rfl rfl rfl (by decide +kernel)
set_option maxRecDepth 65536 in
theorem w_c2 : (Jvm.Cond.code ({ cls := "com/example/shelfwright/shelfwright/checker/OrdersAscendingPinLaw", name := "pos", desc := "([III)I" } : Jvm.MethodName) method_3_code (4 : Nat) (Option.some Jvm.ClassFile.FieldType.int)).before args0 about1 = true := code_word (m := ⟨1, 2⟩) (meth := k1m2) (c := k1c2) (by decide +kernel) rfl rfl rfl (by decide +kernel)
set_option maxRecDepth 65536 in
theorem w_c3 : (Jvm.Cond.code ({ cls := "com/example/shelfwright/shelfwright/checker/OrdersAscendingPinLaw", name := "lt", desc := "([IIII)I" } : Jvm.MethodName) method_4_code (4 : Nat) (Option.some Jvm.ClassFile.FieldType.int)).before args0 about1 = true := code_word (m := ⟨1, 3⟩) (meth := k1m3) (c := k1c3) (by decide +kernel) rfl rfl rfl (by decide +kernel)
set_option maxRecDepth 65536 in
theorem w_c4 : (Jvm.Cond.code ({ cls := "com/example/shelfwright/shelfwright/checker/OrdersAscendingPinLaw", name := "eqBefore", desc := "([IIII)I" } : Jvm.MethodName) method_5_code (4 : Nat) (Option.some Jvm.ClassFile.FieldType.int)).before args0 about1 = true := code_word (m := ⟨1, 4⟩) (meth := k1m4) (c := k1c4) (by decide +kernel) rfl rfl rfl (by decide +kernel)
def codes1 : List Jvm.Cond := [Jvm.Cond.code x code maxLocals ret, Jvm.Cond.code ({ cls := "com/example/shelfwright/shelfwright/checker/Orders", name := "ascending", desc := "([II)[I" } : Jvm.MethodName) prog_19_method_3_code (7 : Nat) (Option.some (Jvm.ClassFile.FieldType.array Jvm.ClassFile.FieldType.int)), Jvm.Cond.code ({ cls := "com/example/shelfwright/shelfwright/checker/OrdersAscendingPinLaw", name := "pos", desc := "([III)I" } : Jvm.MethodName) method_3_code (4 : Nat) (Option.some Jvm.ClassFile.FieldType.int), Jvm.Cond.code ({ cls := "com/example/shelfwright/shelfwright/checker/OrdersAscendingPinLaw", name := "lt", desc := "([IIII)I" } : Jvm.MethodName) method_4_code (4 : Nat) (Option.some Jvm.ClassFile.FieldType.int), Jvm.Cond.code ({ cls := "com/example/shelfwright/shelfwright/checker/OrdersAscendingPinLaw", name := "eqBefore", desc := "([IIII)I" } : Jvm.MethodName) method_5_code (4 : Nat) (Option.some Jvm.ClassFile.FieldType.int)]
set_option maxRecDepth 65536 in
theorem codes_eq : words1.filter isCode = codes1 := rfl
theorem w_codes : ∀ c ∈ words1.filter isCode, c.before args0 about1 = true := by
  rw [codes_eq]
  intro c hc
  simp only [codes1, List.mem_cons, List.not_mem_nil, or_false] at hc
  rcases hc with rfl | rfl | rfl | rfl | rfl
  · exact w_c0
  · exact w_c1
  · exact w_c2
  · exact w_c3
  · exact w_c4
set_option maxRecDepth 65536 in
theorem w_t1 : words1.all (fun c => isCode c || c.before args0 about1) = true := by decide +kernel
theorem w_tables : (allAtoms (Jvm.Cond.code x code maxLocals ret :: tables_1)).before args0 about1 = true := by
  rw [allAtoms_all]
  show words1.all (fun c => c.before args0 about1) = true
  refine all_split ?_ w_codes
  rw [w_t1]
set_option maxRecDepth 65536 in
theorem w_case : (Jvm.Cond.and given_1 narrow_1).before args0 about1 = true := by decide +kernel
theorem w_applies : (headSpec (Jvm.Cond.code x code maxLocals ret :: tables_1) room_1).applies x e0.platform about1 = true :=
  (Spec.applies_iff w_frames).mpr ⟨w_running, w_runnable, w_alone, w_named, w_hears, w_ripe, w_room, w_tables⟩
theorem atStart : AtStart classFile x code maxLocals ret World_1 tables_1 room_1 Calls_1 rest_1 Pre_1 launch0 p0 e0 about1 theMethod args0 below0 :=
  ⟨lists_1, trivial, launch0.admits_env _ _ _, launch0.least_env, fairChoices_fair.cas, fairChoices_fair.clock, w_frames, w_args, w_heap, w_applies, trivial, trivial, w_case⟩
end start1
theorem witness_1 : WitnessClaimed_1 := ⟨start1.p0, start1.e0, start1.about1, start1.theMethod, start1.args0, start1.below0, start1.atStart⟩
end Jvm.Pilot.@@N@@
