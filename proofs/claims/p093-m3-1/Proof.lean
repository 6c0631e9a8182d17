import JvmDerived
import JvmDerived.Pilot.@@N@@Statement
import JvmDerived.Pilot.@@N@@Code
set_option linter.unusedVariables false
set_option linter.unusedSimpArgs false
namespace Jvm.RoadKit
open Sem ClassFile Op Lib Jvm.Stand Jvm.Free Jvm.LawKit
section New
variable {p : Program} {l : Launch} {e : Env} {R : Room} {s : State} {m : MethodId} {args : Array Value} {below : List Frame} {meth : Method} {c : Code} {T : State} {locs : List Loc} {cells slots : Nat}
theorem retI (X : Stand p l e R s m args below meth c T locs cells slots) (hx : p.tables.exec = Jvm.exec) {pc : Nat} {Ls : Array Slot} {z : Int32} {rest : List Value} (hret : meth.sig.returnType = some .int) (hd : decode c.code pc = .ok (.ireturn, 1)) {fs : List Frame}
    (hl : ∀ (f : JFrame) (acts : List Action), f.method = m → f.locked = none → f.entered = [] → (doReturn e (T.setTop f) acts (some (.int z))).1 = T.setFrames fs) : Steps p.tables e below (T.setTop (mkF m pc Ls (.int z :: rest))) (T.setFrames fs) := by
  have hm' : T.vm.method? m = some meth := X.method'
  have hn : narrow .int (.int z) = .int z := rfl
  show Steps p.tables e below (T.setTop { method := m, pc := pc, locals := Ls, stack := _ :: rest, locked := none }) _
  jvm_step X.here [X.here.top, hx, hd, hm', hret, hn]
  first | (intro acts; rw [hl _ acts rfl rfl rfl]) | rw [hl _ _ rfl rfl rfl]
  exact Steps.refl _
theorem own_retA (X : Stand p l e R s m args below meth c T locs cells slots) (hx : p.tables.exec = Jvm.exec) {pc : Nat} {Ls : Array Slot} {z : Value} {ty : FieldType} {rest : List Value} (hret : meth.sig.returnType = some ty) (hty : ty.isReference = true) (hz : z.isRef = true) (hd : decode c.code pc = .ok (.areturn, 1)) {fs : List Frame}
    (hl : ∀ (f : JFrame) (acts : List Action), f.method = m → f.locked = none → f.entered = [] → (doReturn e (T.setTop f) acts (some z)).1 = T.setFrames fs) : Steps p.tables e below (T.setTop (mkF m pc Ls (z :: rest))) (T.setFrames fs) := by
  have hm' : T.vm.method? m = some meth := X.method'
  show Steps p.tables e below (T.setTop { method := m, pc := pc, locals := Ls, stack := _ :: rest, locked := none }) _
  jvm_step X.here [X.here.top, hx, hd, hm', hret, hty, hz]
  first | (intro acts; rw [hl _ acts rfl rfl rfl]) | rw [hl _ _ rfl rfl rfl]
  exact Steps.refl _
theorem own_retD (X : Stand p l e R s m args below meth c T locs cells slots) (hx : p.tables.exec = Jvm.exec) {pc : Nat} {Ls : Array Slot} {z : UInt64} {rest : List Value} (hret : meth.sig.returnType = some .double) (hd : decode c.code pc = .ok (.dreturn, 1)) {fs : List Frame}
    (hl : ∀ (f : JFrame) (acts : List Action), f.method = m → f.locked = none → f.entered = [] → (doReturn e (T.setTop f) acts (some (.double z))).1 = T.setFrames fs) : Steps p.tables e below (T.setTop (mkF m pc Ls (.double z :: rest))) (T.setFrames fs) :=
  retOut X hx hret rfl (Or.inr (Or.inr (Or.inl ⟨rfl, rfl, z, rfl⟩))) hd hl
/-- where a body is to end: it runs, it has ended, it returned v, Q says what v and the heap are -/
def own_F (s : State) (below : List Frame) (Q : Option Value → Heap → List Loc → Prop) (C S : Nat) (t : State) (o : Outcome) : Prop := t.status = .running ∧ Ended t below o ∧ ∃ v L, o = .returned v ∧ Q v t.heap L ∧ FrameEnd s o t L C S
/-- the run from T, with the frame g on top, comes to such an end -/
def own_Go (p : Program) (e : Env) (below : List Frame) (F : State → Outcome → Prop) (T : State) (g : JFrame) : Prop := ∃ t o, Steps p.tables e below (T.setTop g) t ∧ F t o
theorem own_st {F : State → Outcome → Prop} {T T' : State} {g g' : JFrame} (h : ∀ t, Steps p.tables e below (T'.setTop g') t → Steps p.tables e below (T.setTop g) t) (k : own_Go p e below F T' g') : own_Go p e below F T g := by
  obtain ⟨t, o, h1, h2⟩ := k
  exact ⟨t, o, h t h1, h2⟩
theorem own_cast {F : State → Outcome → Prop} {T : State} {g g' : JFrame} (q : g = g') (k : own_Go p e below F T g') : own_Go p e below F T g := q ▸ k
theorem own_ret {F : State → Outcome → Prop} {Q : Option Value → Heap → List Loc → Prop} {C S : Nat} {g : JFrame} {v : Option Value} (hF : F = own_F s below Q C S) (X : Stand p l e R s m args below meth c T locs cells slots) (hv : meth.sig.returnType = none → v = none) (hlk : meth.locks = false)
    (hst : ∀ fs, (∀ (f : JFrame) (acts : List Action), f.method = m → f.locked = none → f.entered = [] → (doReturn e (T.setTop f) acts v).1 = T.setFrames fs) → Steps p.tables e below (T.setTop g) (T.setFrames fs)) (hQ : Q v T.heap locs) (hc : cells ≤ C) (hs : slots ≤ S) : own_Go p e below F T g := by
  subst hF
  obtain ⟨fs, hr, hrun, hended, hW, hsame⟩ := X.leave hv hlk
  exact ⟨T.setFrames fs, .returned v, hst fs hr, hrun, hended, v, locs, rfl, hQ, ⟨_, rfl⟩, hW, hsame.mono hc hs⟩
theorem own_some {ret : Option FieldType} {ty : FieldType} {v : Option Value} (hret : ret = some ty) : ret = none → v = none := fun h => by rw [hret] at h; cases h
/-- a body's contract: called with 'as' at the heap h0 it returns, and Q holds of what it returned, of the heap, of the places written -/
abbrev own_Met (l : Launch) (Z : State) (y : MethodName) (bytes : ByteArray) (maxL : Nat) (ret : Option FieldType) (rm : Room) (as : Array Value) (h0 : Heap) (Q : Option Value → Heap → List Loc → Prop) : Prop :=
  ∀ ws : List Jvm.Cond, MetFree l y (head1 (Jvm.Cond.code y bytes maxL ret :: ws) rm) (fun a U => a = as ∧ Z.Warmed39 U.vm ∧ U.heap = h0) (fun _ _ _ _ _ => True) (fun _ U o U' => ∃ v L, o = .returned v ∧ Q v U'.heap L ∧ FrameEnd U o U' L rm.cells rm.slots)
theorem own_body {Z : State} {y : MethodName} {bytes : ByteArray} {maxL : Nat} {ret : Option FieldType} {rm : Room} {as : Array Value} {h0 : Heap} {Q : Option Value → Heap → List Loc → Prop} (hpl : plainFor y = true)
    (body : ∀ (p : Program) (e : Env) (s : State) (m : MethodId) (below : List Frame) (meth : Method) (c : Code) (T : State), Z.Warmed39 s.vm → p.tables.exec = Jvm.exec → c.code = bytes → c.maxLocals = maxL → s.vm.findClass y.cls = some m.cls → meth.name = y.name → meth.sig.returnType = ret → meth.locks = false →
      Stand p l e rm s m as below meth c T [] 0 0 → T.heap = h0 → ∀ F : State → Outcome → Prop, F = own_F s below Q rm.cells rm.slots → own_Go p e below F T (entryFrame m as maxL)) : own_Met l Z y bytes maxL ret rm as h0 Q := by
  intro ws
  refine MetFree.of_bodySF hpl hisR ?_
  intro p e s m args below meth c s₁ Bd hml0 hP hK
  obtain ⟨rfl, hZ, hh⟩ := hP
  obtain ⟨t, o, h1, h2, h3, h4⟩ := body p e s m below meth c s₁ hZ Bd.exec Bd.bytes hml0 (findClass_of_methodNamed Bd.named) (name_of_methodNamed Bd.named Bd.method).1 Bd.returns (BodyLoose.notSynchronized Bd) (Stand.of_body Bd) (by rw [← hh, Bd.state]; rfl) _ rfl
  exact ⟨t, o, h1, h2, h3, h4⟩
theorem own_back {Z : State} {a0 : Array Value} {y : MethodName} {bytes : ByteArray} {maxL : Nat} {ret : Option FieldType} {rm : Room} {len W : Nat} {as' : Array Value} {h : Heap} {Q : Option Value → Heap → List Loc → Prop} (hM : own_Met l Z y bytes maxL ret rm as' h Q)
    (hZ : Z.Warmed39 s.vm) (wc : (Cond.code y bytes maxL ret).before a0 Z = true) (wz : (Cond.initialized y.cls).before a0 Z = true) (hf : rm.frames + 1 ≤ R.frames) (hl : W + (maxL + 11) + rm.locals ≤ R.locals) :
    Back l R p e below s args y len W (fun A a => a = as' ∧ A.U.heap = h ∧ A.cells + rm.cells ≤ R.cells ∧ A.slots + rm.slots ≤ R.slots)
      (fun A _ v B => ∃ L, Q v B.U.heap L ∧ B.locs = A.locs ++ L ∧ B.cells = A.cells + rm.cells ∧ B.slots = A.slots + rm.slots) := backOf (Q := Q) (rm := rm) (hM []) hZ wc wz hf hl
theorem own_selP {Z : State} {a0 : Array Value} {y : MethodName} {n : Nat} (hZ : Z.Warmed39 s.vm) (wi : (Cond.instantiable y.cls n).before a0 Z = true) (hpriv : s.PrivateAt y) (hinst : (Cond.instanceMethod y).before args s = true) (hy : y.cls ≠ "java/lang/invoke/MethodHandle" ∧ y.cls ≠ "java/lang/invoke/VarHandle") : (Cond.selects y.cls y y).before args s = true := by
  obtain ⟨c, k, h1, h2, h3, h4, -, -⟩ := Cond.instantiable_spec (mvT (args := args) hZ wi)
  exact selects_self_of_private h1 h2 (by cases hi : k.isInterface <;> simp [hi] at h4 ⊢) hpriv hinst hy
theorem own_dup2a (X : Stand p l e R s m args below meth c T locs cells slots) (hx : p.tables.exec = Jvm.exec) {pc : Nat} {Ls : Array Slot} {a b : Value} {rest : List Value} (hd : decode c.code pc = .ok (.dup2, 1)) (ha : a.category = 1) (hb : b.category = 1) {t : State}
    (k : Steps p.tables e below (T.setTop (mkF m (pc + 1) Ls (a :: b :: a :: b :: rest))) t) : Steps p.tables e below (T.setTop (mkF m pc Ls (a :: b :: rest))) t := by
  show Steps p.tables e below (T.setTop { method := m, pc := pc, locals := Ls, stack := a :: b :: rest, locked := none }) _
  jvm_step X.here [X.here.top, hx, hd, ha, hb]
  exact k
theorem own_dup2b (X : Stand p l e R s m args below meth c T locs cells slots) (hx : p.tables.exec = Jvm.exec) {pc : Nat} {Ls : Array Slot} {a : Value} {rest : List Value} (hd : decode c.code pc = .ok (.dup2, 1)) (ha : a.category = 2) {t : State}
    (k : Steps p.tables e below (T.setTop (mkF m (pc + 1) Ls (a :: a :: rest))) t) : Steps p.tables e below (T.setTop (mkF m pc Ls (a :: rest))) t := by
  show Steps p.tables e below (T.setTop { method := m, pc := pc, locals := Ls, stack := a :: rest, locked := none }) _
  jvm_step X.here [X.here.top, hx, hd, ha]
  exact k
theorem own_fresh {Z : State} {h : Heap} {b : Addr} (g : b = h.size) {n : Nat} (q : n ≤ h.size) : n ≤ b := g ▸ q
theorem own_ne {h : Heap} {a b : Addr} (g : b = h.size) (q : a < h.size) : a ≠ b := Nat.ne_of_lt (g ▸ q)
end New
end Jvm.RoadKit
namespace Jvm.Pilot.@@N@@
open Jvm Jvm.ClassFile Sem Op Lib Jvm.Free Jvm.Stand Jvm.LawKit Jvm.RoadKit Bundle Jvm.Pilot.@@N@@.Jvm.D

theorem own_one (i : Nat) : Int32.ofNat i + (1 : Int32) = Int32.ofNat (i + 1) := (Int32.ofNat_add i 1).symm
theorem own_sub {i j : Nat} (h : j ≤ i) : Int32.ofNat i - Int32.ofNat j = Int32.ofNat (i - j) := by
  have : Int32.ofNat i = Int32.ofNat (i - j) + Int32.ofNat j := by rw [← Int32.ofNat_add]; congr 1; omega
  rw [this, Int32.add_sub_cancel]
theorem own_lt {i n : Nat} (h : i < n) (hn : n ≤ 99) : Int32.ofNat i < Int32.ofNat n := by
  rw [Int32.lt_iff_toInt_lt, Int32.toInt_ofNat_of_lt (by omega), Int32.toInt_ofNat_of_lt (by omega)]
  omega
theorem own_nlt {i n : Nat} (h : n ≤ i) (hn : i ≤ 99) : ¬ Int32.ofNat i < Int32.ofNat n := by
  rw [Int32.lt_iff_toInt_lt, Int32.toInt_ofNat_of_lt (by omega), Int32.toInt_ofNat_of_lt (by omega)]
  omega
theorem own_nat {i : Nat} (h : i ≤ 99) : (Int32.ofNat i).toNatClampNeg = i ∧ ¬ Int32.ofNat i < 0 := by
  have t : (Int32.ofNat i).toInt = i := Int32.toInt_ofNat_of_lt (by omega)
  have e : ¬ Int32.ofNat i < 0 := by
    rw [Int32.lt_iff_toInt_lt, t]
    show ¬ ((i : Int) < 0)
    omega
  have q := nat_of e
  exact ⟨by omega, e⟩
abbrev own_u (x q : Int32) : Int32 := ((x.toUInt32 >>> (q &&& 31).toUInt32).toInt32)
/-- one stage of the search for the highest bit: what is left, the bits counted, the zeros counted -/
def own_S (t sh : Int32) (z : Int32 × Int32 × Int32) : Int32 × Int32 × Int32 := if z.1 < t then z else (own_u z.1 sh, z.2.1 + sh, z.2.2 + (-sh))
theorem own_S_t {t sh : Int32} {z : Int32 × Int32 × Int32} (h : z.1 < t) : own_S t sh z = z := if_pos h
theorem own_S_f {t sh : Int32} {z : Int32 × Int32 × Int32} (h : ¬ z.1 < t) : own_S t sh z = (own_u z.1 sh, z.2.1 + sh, z.2.2 + (-sh)) := if_neg h
def own_Z1 (r : Int32) := own_S 65536 16 (r, 1, 31)
def own_Z2 (r : Int32) := own_S 256 8 (own_Z1 r)
def own_Z3 (r : Int32) := own_S 16 4 (own_Z2 r)
def own_Z4 (r : Int32) := own_S 4 2 (own_Z3 r)
def own_bl (r : Int32) : Int32 := if (own_Z4 r).1 < 2 then (own_Z4 r).2.1 else (own_Z4 r).2.1 + 1
def own_nlz (r : Int32) : Int32 := (own_Z4 r).2.2 - own_u (own_Z4 r).1 1
theorem own_nm (t sh : Int32) (z : Int32 × Int32 × Int32) : (own_S t sh z).2 = z.2 ∨ (own_S t sh z).2 = (z.2.1 + sh, z.2.2 + (-sh)) := by
  by_cases h : z.1 < t
  · rw [own_S_t h]; exact Or.inl rfl
  · rw [own_S_f h]; exact Or.inr rfl
theorem own_nm4 (r : Int32) : 1 ≤ (own_Z4 r).2.1.toInt ∧ (own_Z4 r).2.1.toInt ≤ 31 ∧ (own_Z4 r).2.2.toInt = 32 - (own_Z4 r).2.1.toInt := by
  have h1 : (own_Z1 r).2 = (1, 31) ∨ (own_Z1 r).2 = (17, 15) := by
    rcases own_nm 65536 16 (r, 1, 31) with q | q
    · exact Or.inl q
    · refine Or.inr (q.trans ?_)
      show ((1 : Int32) + 16, (31 : Int32) + (-16)) = (17, 15)
      decide
  have h2 := own_nm 256 8 (own_Z1 r)
  have h3 := own_nm 16 4 (own_Z2 r)
  have h4 := own_nm 4 2 (own_Z3 r)
  have e2 : own_Z2 r = own_S 256 8 (own_Z1 r) := rfl
  have e3 : own_Z3 r = own_S 16 4 (own_Z2 r) := rfl
  have e4 : own_Z4 r = own_S 4 2 (own_Z3 r) := rfl
  rw [← e2] at h2; rw [← e3] at h3; rw [← e4] at h4
  generalize (own_Z1 r).2 = z1 at *
  generalize (own_Z2 r).2 = z2 at *
  generalize (own_Z3 r).2 = z3 at *
  generalize (own_Z4 r).2 = z4 at *
  rcases h1 with rfl | rfl <;> rcases h2 with rfl | rfl <;> rcases h3 with rfl | rfl <;> rcases h4 with rfl | rfl <;> decide
theorem own_rg {t sh : Int32} {k : Nat} {D t' : Int} {z : Int32 × Int32 × Int32} (ht : t.toInt = t') (hk : sh.toBitVec.toNat % 32 = k) (h0 : 0 < k) (hD : ((2 ^ k : Nat) : Int) = D) (hp : 0 < D) (h : 0 ≤ z.1.toInt) (hz : z.1.toInt < t' * D) : 0 ≤ (own_S t sh z).1.toInt ∧ (own_S t sh z).1.toInt < t' := by
  by_cases q : z.1 < t
  · rw [own_S_t q]
    have := Int32.lt_iff_toInt_lt.mp q
    exact ⟨h, by omega⟩
  · rw [own_S_f q]
    have e := c_iushr z.1 sh k hk h0
    have r := rng32 z.1
    show 0 ≤ (own_u z.1 sh).toInt ∧ (own_u z.1 sh).toInt < t'
    rw [e, hD, Int.emod_eq_of_lt h (by omega)]
    exact ⟨Int.ediv_nonneg h (by omega), Int.ediv_lt_of_lt_mul hp hz⟩
theorem own_Z4r {r : Int32} (h : 0 ≤ r.toInt) : 0 ≤ (own_Z4 r).1.toInt ∧ (own_Z4 r).1.toInt < 4 := by
  have r0 := rng32 r
  have a1 := own_rg (t := 65536) (sh := 16) (k := 16) (D := 65536) (t' := 65536) (z := (r, 1, 31)) (by decide) (by decide) (by decide) (by decide) (by decide) h (by show r.toInt < _; omega)
  have a2 := own_rg (t := 256) (sh := 8) (k := 8) (D := 256) (t' := 256) (z := own_Z1 r) (by decide) (by decide) (by decide) (by decide) (by decide) a1.1 a1.2
  have a3 := own_rg (t := 16) (sh := 4) (k := 4) (D := 16) (t' := 16) (z := own_Z2 r) (by decide) (by decide) (by decide) (by decide) (by decide) a2.1 a2.2
  exact own_rg (t := 4) (sh := 2) (k := 2) (D := 4) (t' := 4) (z := own_Z3 r) (by decide) (by decide) (by decide) (by decide) (by decide) a3.1 a3.2
theorem own_blr (r : Int32) : 1 ≤ (own_bl r).toInt ∧ (own_bl r).toInt ≤ 32 := by
  have h := own_nm4 r
  unfold own_bl
  split
  · omega
  · have a := c_iadd (own_Z4 r).2.1 1
    have b := rng32 ((own_Z4 r).2.1 + 1)
    rw [show (1 : Int32).toInt = 1 by decide] at a
    omega
theorem own_blN (r : Int32) : ∃ n : Nat, 1 ≤ n ∧ n ≤ 32 ∧ own_bl r = Int32.ofNat n := by
  have h := own_blr r
  refine ⟨(own_bl r).toInt.toNat, by omega, by omega, ?_⟩
  apply Int32.toInt_inj.mp
  rw [Int32.toInt_ofNat_of_lt (by omega)]
  omega
theorem own_rel {r : Int32} (h : 0 ≤ r.toInt) : (32 : Int32) - own_nlz r = own_bl r := by
  have a := own_nm4 r
  have b := own_Z4r h
  have e := c_iushr (own_Z4 r).1 1 1 (by decide) (by decide)
  have r1 := rng32 (own_u (own_Z4 r).1 1)
  have s1 := c_isub (own_Z4 r).2.2 (own_u (own_Z4 r).1 1)
  have r2 := rng32 ((own_Z4 r).2.2 - own_u (own_Z4 r).1 1)
  have s2 := c_isub (32 : Int32) (own_nlz r)
  have r3 := rng32 ((32 : Int32) - own_nlz r)
  have e' : (own_u (own_Z4 r).1 1).toInt = (own_Z4 r).1.toInt % 4294967296 / 2 := e
  have en : own_nlz r = (own_Z4 r).2.2 - own_u (own_Z4 r).1 1 := rfl
  rw [← en] at s1 r2
  rw [show (32 : Int32).toInt = 32 by decide] at s2
  apply Int32.toInt_inj.mp
  unfold own_bl
  have k2 : (2 : Int32).toInt = 2 := by decide
  split
  · rename_i q
    have := Int32.lt_iff_toInt_lt.mp q
    omega
  · rename_i q
    have : ¬ (own_Z4 r).1.toInt < (2 : Int32).toInt := fun z => q (Int32.lt_iff_toInt_lt.mpr z)
    have s3 := c_iadd (own_Z4 r).2.1 1
    have r4 := rng32 ((own_Z4 r).2.1 + 1)
    rw [show (1 : Int32).toInt = 1 by decide] at s3
    omega
theorem own_lev {r z y : Int32} (h : ¬ r < 0) (hz : (r = 0 ∧ z = 32) ∨ ((0 : Int32) < r ∧ z = own_nlz r)) (hy : ((1 : Int32) < 32 - z ∧ y = 32 - z) ∨ (¬ (1 : Int32) < 32 - z ∧ y = 1)) : y = own_bl r := by
  rcases hz with ⟨rfl, rfl⟩ | ⟨h0, rfl⟩
  · rcases hy with ⟨q, -⟩ | ⟨-, rfl⟩
    · exact absurd q (by decide)
    · decide
  · have h0' : 0 ≤ r.toInt := by
      have := Int32.lt_iff_toInt_lt.mp h0
      have k : (0 : Int32).toInt = 0 := by decide
      omega
    rw [own_rel h0'] at hy
    rcases hy with ⟨-, q⟩ | ⟨q, rfl⟩
    · exact q
    · have b := own_blr r
      have : ¬ (1 : Int32).toInt < (own_bl r).toInt := fun z => q (Int32.lt_iff_toInt_lt.mpr z)
      have k : (1 : Int32).toInt = 1 := by decide
      apply Int32.toInt_inj.mp
      omega
theorem own_nn {r : Int32} (h : ¬ r < 0) (h' : ¬ (0 : Int32) < r) : r = 0 := by
  have a : ¬ r.toInt < (0 : Int32).toInt := fun z => h (Int32.lt_iff_toInt_lt.mpr z)
  have b : ¬ (0 : Int32).toInt < r.toInt := fun z => h' (Int32.lt_iff_toInt_lt.mpr z)
  apply Int32.toInt_inj.mp
  omega
theorem own_msk (x : Int32) : ¬ (x &&& (2147483647 : Int32)) < 0 := fun q => by
  have := Int32.lt_iff_toInt_lt.mp q
  have m := c_mask x (2147483647 : Int32) 31 (by decide) (by decide)
  have k : (0 : Int32).toInt = 0 := by decide
  omega
abbrev own_ul (x : Int64) (q : Int32) : Int64 := ((x.toUInt64 >>> (q &&& 0x3f).toInt64.toUInt64).toInt64)
def own_b1 (x : Int64) : Int64 := x - (own_ul x 1 &&& 6148914691236517205)
def own_b2 (x : Int64) : Int64 := (own_b1 x &&& 3689348814741910323) + (own_ul (own_b1 x) 2 &&& 3689348814741910323)
def own_b3 (x : Int64) : Int64 := (own_b2 x + own_ul (own_b2 x) 4) &&& 1085102592571150095
def own_b4 (x : Int64) : Int64 := own_b3 x + own_ul (own_b3 x) 8
def own_b5 (x : Int64) : Int64 := own_b4 x + own_ul (own_b4 x) 16
def own_b6 (x : Int64) : Int64 := own_b5 x + own_ul (own_b5 x) 32
def own_bc (x : Int64) : Int32 := (own_b6 x).toInt32 &&& 127
theorem own_bc0 : own_bc 0 = 0 := by decide +kernel
theorem own_bc1 : own_bc 1 = 1 := by decide +kernel
theorem own_bcm : own_bc (-1) = 64 := by decide +kernel
/-- the bits of the places below i -/
def own_ors : Nat → Int64
  | 0 => 0
  | i + 1 => own_ors i ||| ((1 : Int64) <<< (Int32.ofNat i &&& 0x3f).toInt64)
/-- how many places, how many words -/
def own_N (n w : Nat) : Prop := (w = 1 ∧ n ≤ 1) ∨ (w = 2 ∧ n = 64)
theorem own_N.le {n w : Nat} (h : own_N n w) : n ≤ 64 ∧ w ≤ 2 ∧ 1 ≤ w := by rcases h with ⟨rfl, h⟩ | ⟨rfl, rfl⟩ <;> omega
theorem own_N.count {n w : Nat} (h : own_N n w) : own_bc (own_ors n) = Int32.ofNat n := by
  rcases h with ⟨-, h⟩ | ⟨-, rfl⟩
  · match n, h with
    | 0, _ => decide +kernel
    | 1, _ => decide +kernel
  · decide +kernel
theorem own_N.words {n w : Nat} (h : own_N n w) : own_u (Int32.ofNat n) 6 + 1 = Int32.ofNat w := by
  rcases h with ⟨rfl, h⟩ | ⟨rfl, rfl⟩
  · match n, h with
    | 0, _ => decide
    | 1, _ => decide
  · decide
theorem own_sh6 {i : Nat} (h : i < 64) : own_u (Int32.ofNat i) 6 = 0 := by
  have e := c_iushr (Int32.ofNat i) 6 6 (by decide) (by decide)
  rw [Int32.toInt_ofNat_of_lt (by omega)] at e
  apply Int32.toInt_inj.mp
  show (own_u (Int32.ofNat i) 6).toInt = 0
  rw [e]
  show (i : Int) % 4294967296 / 64 = 0
  omega
theorem own_getD_set {vs : List Value} {i j : Nat} {v d : Value} (hi : i < vs.length) : (vs.set i v).getD j d = if j = i then v else vs.getD j d := by
  by_cases h : j = i
  · subst h; simp [List.getD_eq_getElem?_getD, hi]
  · have : i ≠ j := fun e => h e.symm
    simp [List.getD_eq_getElem?_getD, h, List.getElem?_set_ne this]
theorem own_repD {n i : Nat} {v d : Value} (h : i < n) : (List.replicate n v).getD i d = v := by
  simp [List.getD_eq_getElem?_getD, h]
/-- the first i of the n values are w -/
def own_U (vs : List Value) (n i : Nat) (w : Int32) : Prop := vs.length = n ∧ ∀ t, t < i → vs.getD t (.int 0) = .int w
theorem own_U.zero {n : Nat} {w : Int32} {v : Value} : own_U (List.replicate n v) n 0 w := ⟨List.length_replicate, fun _ h => absurd h (Nat.not_lt_zero _)⟩
theorem own_U.step {vs : List Value} {n i : Nat} {w : Int32} (h : own_U vs n i w) (hi : i < n) : own_U (vs.set i (.int w)) n (i + 1) w := by
  refine ⟨by rw [List.length_set]; exact h.1, fun t ht => ?_⟩
  rw [own_getD_set (by rw [h.1]; exact hi)]
  by_cases q : t = i
  · rw [if_pos q]
  · rw [if_neg q]; exact h.2 t (by omega)
theorem own_U.all {vs : List Value} {n : Nat} {w : Int32} (h : own_U vs n n w) : vs = List.replicate n (.int w) := by
  apply List.ext_getElem
  · rw [h.1, List.length_replicate]
  · intro i h1 h2
    have := h.2 i (by rw [h.1] at h1; exact h1)
    rw [List.getD_eq_getElem?_getD, List.getElem?_eq_getElem h1] at this
    rw [List.getElem_replicate]
    exact this
def own_w (r q : Int32) : Int32 := if q < 0 then r else q
/-- the inner arrays of a grid: the i-th at ro + 1 + i, of w values; from the p-th on none is written yet -/
def own_Rows (Z : State) (h : Heap) (ro : Nat) (n : Nat) (ty : FieldType) (w : Nat) (d : Value) (p : Nat) : Prop := ∀ i, i < n → ∃ (k : ClassId) (vs : List Value), vs.length = w ∧ (p ≤ i → vs = List.replicate w d) ∧ Arv Z h (ro + 1 + i) k ty (Int32.ofNat w) vs d
section Rows
variable {Z : State} {h h' : Heap} {ro : Nat} {n w p : Nat} {ty : FieldType} {d : Value}
theorem own_Rows.ext (F : own_Rows Z h ro n ty w d p) (E : Ext h h') : own_Rows Z h' ro n ty w d p := fun i hi => by
  obtain ⟨k, vs, a, b, c⟩ := F i hi
  exact ⟨k, vs, a, b, c.ext E⟩
theorem own_Rows.other (F : own_Rows Z h ro n ty w d p) {a : Nat} {sl : Nat} {v : Value} (W : Wr h h' a sl v) (q : ∀ i, i < n → ro + 1 + i ≠ a) : own_Rows Z h' ro n ty w d p := fun i hi => by
  obtain ⟨k, vs, a, b, c⟩ := F i hi
  exact ⟨k, vs, a, b, c.other W (q i hi)⟩
theorem own_Rows.step (F : own_Rows Z h ro n ty w d p) {x1 y1 z1 : Nat} {ws : List Addr} (K : Keep h h' ws) {q p' : Nat} (hx : x1 = ro + 1 + q) (hq : ∀ i, i < n → i ≠ q → ro + 1 + i ∉ ws) (hp : p ≤ p') (hqp : q < p') {k : ClassId} {vs : List Value} (hl : vs.length = w) (V : Arv Z h' x1 k ty (Int32.ofNat w) vs d) : own_Rows Z h' ro n ty w d p' := fun i hi => by
  by_cases e : i = q
  · subst e; subst hx
    exact ⟨k, vs, hl, fun r => absurd r (by omega), V⟩
  · obtain ⟨k, vs, a, b, c⟩ := F i hi
    exact ⟨k, vs, a, fun r => b (by omega), c.keep K (hq i hi e)⟩
theorem own_Rows.size (F : own_Rows Z h ro n ty w d p) (hn : 1 ≤ n) : ro + n < h.size := by
  obtain ⟨k, vs, a, b, c⟩ := F (n - 1) (by omega)
  have q : ro + 1 + (n - 1) < h.size := c.lt
  omega
end Rows
def own_xs (ro : Nat) (n : Nat) : List Addr := (List.range n).map fun j => ro + 1 + j
theorem own_xsD {ro n i : Nat} (h : i < n) : ((own_xs ro n).map Value.ref).getD i .null = .ref (ro + 1 + i) := by
  simp [own_xs, List.getD_eq_getElem?_getD, List.getElem?_range h]
theorem own_xsI {ro n i : Nat} (h : i < n) : (own_xs ro n)[i]? = some (ro + 1 + i) := by
  simp [own_xs, List.getElem?_range h]
/-- what ofArray makes of the octets, and what the law does -/
def own_pad (q : Int64) : Int64 := (((16 : Int64) + q + 8) - 1) &&& (-8)
def own_pd (q : Int64) : Int64 := (q + 16 + 7) / 8 * 8
def own_acc (n w : Nat) : Nat → Int64
  | 0 => (2 : Int64) * own_pad ((4 : Int64) * (Int32.ofNat n).toInt64) + own_pad ((4 : Int64) * (Int32.ofNat n).toInt64)
  | i + 1 => own_acc n w i + own_pad ((8 : Int64) * (Int32.ofNat w).toInt64) + own_pad ((4 : Int64) * (Int32.ofNat w).toInt64)
theorem own_fin {n w : Nat} (hn : n ≤ 32) (hw : w = 1 ∨ w = 2) : own_acc n w n = (3 : Int64) * own_pd ((4 : Int64) * (Int32.ofNat n).toInt64) + (Int32.ofNat n).toInt64 * (own_pd ((8 : Int64) * (Int32.ofNat w).toInt64) + own_pd ((4 : Int64) * (Int32.ofNat w).toInt64)) := by
  have key : ∀ n : Fin 33, ∀ w : Fin 3, own_acc n.val w.val n.val = (3 : Int64) * own_pd ((4 : Int64) * (Int32.ofNat n.val).toInt64) + (Int32.ofNat n.val).toInt64 * (own_pd ((8 : Int64) * (Int32.ofNat w.val).toInt64) + own_pd ((4 : Int64) * (Int32.ofNat w.val).toInt64)) := by decide +kernel
  exact key ⟨n, by omega⟩ ⟨w, by omega⟩
theorem own_padn {n : Nat} (hn : n ≤ 32) : own_pad ((4 : Int64) * (Int32.ofNat n).toInt64) < 524288 ∧ own_pad ((8 : Int64) * (Int32.ofNat n).toInt64) < 524288 := by
  have key : ∀ n : Fin 33, own_pad ((4 : Int64) * (Int32.ofNat n.val).toInt64) < 524288 ∧ own_pad ((8 : Int64) * (Int32.ofNat n.val).toInt64) < 524288 := by decide +kernel
  exact key ⟨n, by omega⟩

theorem pd_0 : parseMethodDescriptor "([II)V" = some ⟨[(.array .int), .int], none⟩ := by decide +kernel
theorem pd_1 : parseMethodDescriptor "()V" = some ⟨[], none⟩ := by decide +kernel
theorem pd_2 : parseMethodDescriptor "(I)I" = some ⟨[.int], some .int⟩ := by decide +kernel
theorem pd_3 : parseMethodDescriptor "(II)I" = some ⟨[.int, .int], some .int⟩ := by decide +kernel
theorem pd_4 : parseMethodDescriptor "(I[I)[I" = some ⟨[.int, (.array .int)], some (.array .int)⟩ := by decide +kernel
theorem pd_5 : parseMethodDescriptor "(J)I" = some ⟨[.long], some .int⟩ := by decide +kernel
theorem pd_6 : parseMethodDescriptor "(J)J" = some ⟨[.long], some .long⟩ := by decide +kernel
theorem pd_7 : parseMethodDescriptor "()J" = some ⟨[], some .long⟩ := by decide +kernel
theorem pd_8 : parseMethodDescriptor "()[I" = some ⟨[], some (.array .int)⟩ := by decide +kernel
theorem d7_0 : decode method_3_code 0 = .ok (.iconst 1, 1) := by decide +kernel
theorem d7_1 : decode method_3_code 1 = .ok (.istore_n 1, 1) := by decide +kernel
theorem d7_2 : decode method_3_code 2 = .ok (.iload_n 0, 1) := by decide +kernel
theorem d7_3 : decode method_3_code 3 = .ok (.ldc 13, 2) := by decide +kernel
theorem d7_5 : decode method_3_code 5 = .ok (.if_icmp .lt 11, 3) := by decide +kernel
theorem d7_8 : decode method_3_code 8 = .ok (.iinc 1 16, 3) := by decide +kernel
theorem d7_11 : decode method_3_code 11 = .ok (.iload_n 0, 1) := by decide +kernel
theorem d7_12 : decode method_3_code 12 = .ok (.bipush 16, 2) := by decide +kernel
theorem d7_14 : decode method_3_code 14 = .ok (.iushr, 1) := by decide +kernel
theorem d7_15 : decode method_3_code 15 = .ok (.istore_n 0, 1) := by decide +kernel
theorem d7_16 : decode method_3_code 16 = .ok (.iload_n 0, 1) := by decide +kernel
theorem d7_17 : decode method_3_code 17 = .ok (.sipush 256, 3) := by decide +kernel
theorem d7_20 : decode method_3_code 20 = .ok (.if_icmp .lt 11, 3) := by decide +kernel
theorem d7_23 : decode method_3_code 23 = .ok (.iinc 1 8, 3) := by decide +kernel
theorem d7_26 : decode method_3_code 26 = .ok (.iload_n 0, 1) := by decide +kernel
theorem d7_27 : decode method_3_code 27 = .ok (.bipush 8, 2) := by decide +kernel
theorem d7_29 : decode method_3_code 29 = .ok (.iushr, 1) := by decide +kernel
theorem d7_30 : decode method_3_code 30 = .ok (.istore_n 0, 1) := by decide +kernel
theorem d7_31 : decode method_3_code 31 = .ok (.iload_n 0, 1) := by decide +kernel
theorem d7_32 : decode method_3_code 32 = .ok (.bipush 16, 2) := by decide +kernel
theorem d7_34 : decode method_3_code 34 = .ok (.if_icmp .lt 10, 3) := by decide +kernel
theorem d7_37 : decode method_3_code 37 = .ok (.iinc 1 4, 3) := by decide +kernel
theorem d7_40 : decode method_3_code 40 = .ok (.iload_n 0, 1) := by decide +kernel
theorem d7_41 : decode method_3_code 41 = .ok (.iconst 4, 1) := by decide +kernel
theorem d7_42 : decode method_3_code 42 = .ok (.iushr, 1) := by decide +kernel
theorem d7_43 : decode method_3_code 43 = .ok (.istore_n 0, 1) := by decide +kernel
theorem d7_44 : decode method_3_code 44 = .ok (.iload_n 0, 1) := by decide +kernel
theorem d7_45 : decode method_3_code 45 = .ok (.iconst 4, 1) := by decide +kernel
theorem d7_46 : decode method_3_code 46 = .ok (.if_icmp .lt 10, 3) := by decide +kernel
theorem d7_49 : decode method_3_code 49 = .ok (.iinc 1 2, 3) := by decide +kernel
theorem d7_52 : decode method_3_code 52 = .ok (.iload_n 0, 1) := by decide +kernel
theorem d7_53 : decode method_3_code 53 = .ok (.iconst 2, 1) := by decide +kernel
theorem d7_54 : decode method_3_code 54 = .ok (.iushr, 1) := by decide +kernel
theorem d7_55 : decode method_3_code 55 = .ok (.istore_n 0, 1) := by decide +kernel
theorem d7_56 : decode method_3_code 56 = .ok (.iload_n 0, 1) := by decide +kernel
theorem d7_57 : decode method_3_code 57 = .ok (.iconst 2, 1) := by decide +kernel
theorem d7_58 : decode method_3_code 58 = .ok (.if_icmp .lt 6, 3) := by decide +kernel
theorem d7_61 : decode method_3_code 61 = .ok (.iinc 1 1, 3) := by decide +kernel
theorem d7_64 : decode method_3_code 64 = .ok (.iload_n 1, 1) := by decide +kernel
theorem d7_65 : decode method_3_code 65 = .ok (.ireturn, 1) := by decide +kernel
theorem pn_7 : plainFor (⟨"com/example/newsweave/newsweave/nas/PlaceRecordsHeapPinLaw", "bitLengthAtLeastOne", "(I)I"⟩ : MethodName) = true := plainFor_of_name (by first | (simp [plainName, overriddenIn]; done) | decide +kernel)
set_option maxRecDepth 65536 in
set_option maxHeartbeats 40000000 in
theorem rm7 (l : Launch) (Z : State) (a0 : Array Value) (hw : ∀ d ∈ tables_1, d.before a0 Z = true) (p1 : Int32) (lv : Nat) (h0 : Heap) (n0 : Nat) (Z0 : n0 ≤ h0.size) (elv : own_bl p1 = Int32.ofNat lv) :
    own_Met l Z (⟨"com/example/newsweave/newsweave/nas/PlaceRecordsHeapPinLaw", "bitLengthAtLeastOne", "(I)I"⟩ : MethodName) method_3_code 2 (some .int) ({ frames := 0, cells := 0, slots := 0, locals := 0 } : Room) #[(.int p1)] h0 (fun v h L => v = some (.int (Int32.ofNat lv)) ∧ Fr n0 L ∧ h = h0) := by
  refine own_body pn_7 ?_
  intro p e s m below meth c T0 hZ hx hby hml hown hnm hret hlk X0 e0 F hF
  have N0 := Fr.nil n0
  have K0 := Keep.refl h0 []
  refine own_cast (g' := (mkF m 0 #[.val (.int p1), .unset] [])) (by first | (simp [entryFrame, mkF, argsToLocals, Value.category]; done) | rfl) ?_
  refine own_st (T' := T0) (g' := (mkF m 1 #[.val (.int p1), .unset] [(.int (1 : Int32))])) (fun t9 k9 => XS.iconst X0.here hx rfl (hb hby d7_0) k9) ?_
  refine own_st (T' := T0) (g' := (mkF m 2 #[.val (.int p1), .val (.int (1 : Int32))] [])) (fun t9 k9 => XS.istoreN X0.here hx rfl (hb hby d7_1) rfl (l' := #[.val (.int p1), .val (.int (1 : Int32))]) rfl k9) ?_
  have j16 : ∀ (z0 : Int32 × Int32 × Int32), z0 = own_Z1 p1 → own_Go p e below F T0 (mkF m 16 #[.val (.int z0.1), .val (.int z0.2.1)] []) := by
    intro z0 hz0
    have j31 : ∀ (z1 : Int32 × Int32 × Int32), z1 = own_Z2 p1 → own_Go p e below F T0 (mkF m 31 #[.val (.int z1.1), .val (.int z1.2.1)] []) := by
      intro z1 hz1
      have j44 : ∀ (z2 : Int32 × Int32 × Int32), z2 = own_Z3 p1 → own_Go p e below F T0 (mkF m 44 #[.val (.int z2.1), .val (.int z2.2.1)] []) := by
        intro z2 hz2
        have j56 : ∀ (z3 : Int32 × Int32 × Int32), z3 = own_Z4 p1 → own_Go p e below F T0 (mkF m 56 #[.val (.int z3.1), .val (.int z3.2.1)] []) := by
          intro z3 hz3
          refine own_st (T' := T0) (g' := (mkF m 57 #[.val (.int z3.1), .val (.int z3.2.1)] [(.int z3.1)])) (fun t9 k9 => XS.iloadN X0.here hx rfl (hb hby d7_56) rfl k9) ?_
          refine own_st (T' := T0) (g' := (mkF m 58 #[.val (.int z3.1), .val (.int z3.2.1)] [(.int (2 : Int32)), (.int z3.1)])) (fun t9 k9 => XS.iconst X0.here hx rfl (hb hby d7_57) k9) ?_
          by_cases hl : z3.1 < (2 : Int32)
          · refine own_st (T' := T0) (g' := (mkF m 64 #[.val (.int z3.1), .val (.int z3.2.1)] [])) (fun t9 k9 => XS.icmpYes X0.here hx rfl (pc0 := 58) (pc' := 64) rfl (hb hby d7_58) rfl (tlt hl).1 (by decide) (by decide) k9) ?_
            refine own_st (T' := T0) (g' := (mkF m 65 #[.val (.int z3.1), .val (.int z3.2.1)] [(.int z3.2.1)])) (fun t9 k9 => XS.iloadN X0.here hx rfl (hb hby d7_64) rfl k9) ?_
            refine own_ret (v := some (.int z3.2.1)) hF X0 (own_some hret) hlk (fun fs hr => retI X0 hx hret (hb hby d7_65) hr) ?_ (by decide) (by decide)
            try rw [e0]
            exact ⟨by rw [← elv]; subst hz3; exact congrArg (fun z => some (Value.int z)) (if_pos hl).symm, N0, rfl⟩
          · refine own_st (T' := T0) (g' := (mkF m 61 #[.val (.int z3.1), .val (.int z3.2.1)] [])) (fun t9 k9 => XS.icmpNo X0.here hx rfl (hb hby d7_58) rfl (flt hl).1 k9) ?_
            refine own_st (T' := T0) (g' := (mkF m 64 #[.val (.int z3.1), .val (.int (z3.2.1 + (1 : Int32)))] [])) (fun t9 k9 => XS.iinc X0.here hx rfl (hb hby d7_61) rfl (l' := #[.val (.int z3.1), .val (.int (z3.2.1 + (1 : Int32)))]) rfl k9) ?_
            refine own_st (T' := T0) (g' := (mkF m 65 #[.val (.int z3.1), .val (.int (z3.2.1 + (1 : Int32)))] [(.int (z3.2.1 + (1 : Int32)))])) (fun t9 k9 => XS.iloadN X0.here hx rfl (hb hby d7_64) rfl k9) ?_
            refine own_ret (v := some (.int (z3.2.1 + (1 : Int32)))) hF X0 (own_some hret) hlk (fun fs hr => retI X0 hx hret (hb hby d7_65) hr) ?_ (by decide) (by decide)
            try rw [e0]
            exact ⟨by rw [← elv]; subst hz3; exact congrArg (fun z => some (Value.int z)) (if_neg hl).symm, N0, rfl⟩
        refine own_st (T' := T0) (g' := (mkF m 45 #[.val (.int z2.1), .val (.int z2.2.1)] [(.int z2.1)])) (fun t9 k9 => XS.iloadN X0.here hx rfl (hb hby d7_44) rfl k9) ?_
        refine own_st (T' := T0) (g' := (mkF m 46 #[.val (.int z2.1), .val (.int z2.2.1)] [(.int (4 : Int32)), (.int z2.1)])) (fun t9 k9 => XS.iconst X0.here hx rfl (hb hby d7_45) k9) ?_
        by_cases hs3 : z2.1 < (4 : Int32)
        · refine own_st (T' := T0) (g' := (mkF m 56 #[.val (.int z2.1), .val (.int z2.2.1)] [])) (fun t9 k9 => XS.icmpYes X0.here hx rfl (pc0 := 46) (pc' := 56) rfl (hb hby d7_46) rfl (tlt hs3).1 (by decide) (by decide) k9) ?_
          exact j56 z2 (by rw [hz2]; rw [hz2] at hs3; exact (own_S_t (z := _) hs3).symm)
        · refine own_st (T' := T0) (g' := (mkF m 49 #[.val (.int z2.1), .val (.int z2.2.1)] [])) (fun t9 k9 => XS.icmpNo X0.here hx rfl (hb hby d7_46) rfl (flt hs3).1 k9) ?_
          refine own_st (T' := T0) (g' := (mkF m 52 #[.val (.int z2.1), .val (.int (z2.2.1 + (2 : Int32)))] [])) (fun t9 k9 => XS.iinc X0.here hx rfl (hb hby d7_49) rfl (l' := #[.val (.int z2.1), .val (.int (z2.2.1 + (2 : Int32)))]) rfl k9) ?_
          refine own_st (T' := T0) (g' := (mkF m 53 #[.val (.int z2.1), .val (.int (z2.2.1 + (2 : Int32)))] [(.int z2.1)])) (fun t9 k9 => XS.iloadN X0.here hx rfl (hb hby d7_52) rfl k9) ?_
          refine own_st (T' := T0) (g' := (mkF m 54 #[.val (.int z2.1), .val (.int (z2.2.1 + (2 : Int32)))] [(.int (2 : Int32)), (.int z2.1)])) (fun t9 k9 => XS.iconst X0.here hx rfl (hb hby d7_53) k9) ?_
          refine own_st (T' := T0) (g' := (mkF m 55 #[.val (.int z2.1), .val (.int (z2.2.1 + (2 : Int32)))] [(.int ((z2.1.toUInt32 >>> ((2 : Int32) &&& 31).toUInt32).toInt32))])) (fun t9 k9 => XS.iushr X0.here hx rfl (hb hby d7_54) rfl k9) ?_
          refine own_st (T' := T0) (g' := (mkF m 56 #[.val (.int ((z2.1.toUInt32 >>> ((2 : Int32) &&& 31).toUInt32).toInt32)), .val (.int (z2.2.1 + (2 : Int32)))] [])) (fun t9 k9 => XS.istoreN X0.here hx rfl (hb hby d7_55) rfl (l' := #[.val (.int ((z2.1.toUInt32 >>> ((2 : Int32) &&& 31).toUInt32).toInt32)), .val (.int (z2.2.1 + (2 : Int32)))]) rfl k9) ?_
          exact j56 (own_u z2.1 2, z2.2.1 + 2, z2.2.2 + (-2)) (by rw [hz2]; rw [hz2] at hs3; exact (own_S_f (z := _) hs3).symm)
      refine own_st (T' := T0) (g' := (mkF m 32 #[.val (.int z1.1), .val (.int z1.2.1)] [(.int z1.1)])) (fun t9 k9 => XS.iloadN X0.here hx rfl (hb hby d7_31) rfl k9) ?_
      refine own_st (T' := T0) (g' := (mkF m 34 #[.val (.int z1.1), .val (.int z1.2.1)] [(.int (16 : Int32)), (.int z1.1)])) (fun t9 k9 => XS.bipush X0.here hx rfl (hb hby d7_32) k9) ?_
      by_cases hs2 : z1.1 < (16 : Int32)
      · refine own_st (T' := T0) (g' := (mkF m 44 #[.val (.int z1.1), .val (.int z1.2.1)] [])) (fun t9 k9 => XS.icmpYes X0.here hx rfl (pc0 := 34) (pc' := 44) rfl (hb hby d7_34) rfl (tlt hs2).1 (by decide) (by decide) k9) ?_
        exact j44 z1 (by rw [hz1]; rw [hz1] at hs2; exact (own_S_t (z := _) hs2).symm)
      · refine own_st (T' := T0) (g' := (mkF m 37 #[.val (.int z1.1), .val (.int z1.2.1)] [])) (fun t9 k9 => XS.icmpNo X0.here hx rfl (hb hby d7_34) rfl (flt hs2).1 k9) ?_
        refine own_st (T' := T0) (g' := (mkF m 40 #[.val (.int z1.1), .val (.int (z1.2.1 + (4 : Int32)))] [])) (fun t9 k9 => XS.iinc X0.here hx rfl (hb hby d7_37) rfl (l' := #[.val (.int z1.1), .val (.int (z1.2.1 + (4 : Int32)))]) rfl k9) ?_
        refine own_st (T' := T0) (g' := (mkF m 41 #[.val (.int z1.1), .val (.int (z1.2.1 + (4 : Int32)))] [(.int z1.1)])) (fun t9 k9 => XS.iloadN X0.here hx rfl (hb hby d7_40) rfl k9) ?_
        refine own_st (T' := T0) (g' := (mkF m 42 #[.val (.int z1.1), .val (.int (z1.2.1 + (4 : Int32)))] [(.int (4 : Int32)), (.int z1.1)])) (fun t9 k9 => XS.iconst X0.here hx rfl (hb hby d7_41) k9) ?_
        refine own_st (T' := T0) (g' := (mkF m 43 #[.val (.int z1.1), .val (.int (z1.2.1 + (4 : Int32)))] [(.int ((z1.1.toUInt32 >>> ((4 : Int32) &&& 31).toUInt32).toInt32))])) (fun t9 k9 => XS.iushr X0.here hx rfl (hb hby d7_42) rfl k9) ?_
        refine own_st (T' := T0) (g' := (mkF m 44 #[.val (.int ((z1.1.toUInt32 >>> ((4 : Int32) &&& 31).toUInt32).toInt32)), .val (.int (z1.2.1 + (4 : Int32)))] [])) (fun t9 k9 => XS.istoreN X0.here hx rfl (hb hby d7_43) rfl (l' := #[.val (.int ((z1.1.toUInt32 >>> ((4 : Int32) &&& 31).toUInt32).toInt32)), .val (.int (z1.2.1 + (4 : Int32)))]) rfl k9) ?_
        exact j44 (own_u z1.1 4, z1.2.1 + 4, z1.2.2 + (-4)) (by rw [hz1]; rw [hz1] at hs2; exact (own_S_f (z := _) hs2).symm)
    refine own_st (T' := T0) (g' := (mkF m 17 #[.val (.int z0.1), .val (.int z0.2.1)] [(.int z0.1)])) (fun t9 k9 => XS.iloadN X0.here hx rfl (hb hby d7_16) rfl k9) ?_
    refine own_st (T' := T0) (g' := (mkF m 20 #[.val (.int z0.1), .val (.int z0.2.1)] [(.int (256 : Int32)), (.int z0.1)])) (fun t9 k9 => XS.sipush X0.here hx rfl (hb hby d7_17) k9) ?_
    by_cases hs1 : z0.1 < (256 : Int32)
    · refine own_st (T' := T0) (g' := (mkF m 31 #[.val (.int z0.1), .val (.int z0.2.1)] [])) (fun t9 k9 => XS.icmpYes X0.here hx rfl (pc0 := 20) (pc' := 31) rfl (hb hby d7_20) rfl (tlt hs1).1 (by decide) (by decide) k9) ?_
      exact j31 z0 (by rw [hz0]; rw [hz0] at hs1; exact (own_S_t (z := _) hs1).symm)
    · refine own_st (T' := T0) (g' := (mkF m 23 #[.val (.int z0.1), .val (.int z0.2.1)] [])) (fun t9 k9 => XS.icmpNo X0.here hx rfl (hb hby d7_20) rfl (flt hs1).1 k9) ?_
      refine own_st (T' := T0) (g' := (mkF m 26 #[.val (.int z0.1), .val (.int (z0.2.1 + (8 : Int32)))] [])) (fun t9 k9 => XS.iinc X0.here hx rfl (hb hby d7_23) rfl (l' := #[.val (.int z0.1), .val (.int (z0.2.1 + (8 : Int32)))]) rfl k9) ?_
      refine own_st (T' := T0) (g' := (mkF m 27 #[.val (.int z0.1), .val (.int (z0.2.1 + (8 : Int32)))] [(.int z0.1)])) (fun t9 k9 => XS.iloadN X0.here hx rfl (hb hby d7_26) rfl k9) ?_
      refine own_st (T' := T0) (g' := (mkF m 29 #[.val (.int z0.1), .val (.int (z0.2.1 + (8 : Int32)))] [(.int (8 : Int32)), (.int z0.1)])) (fun t9 k9 => XS.bipush X0.here hx rfl (hb hby d7_27) k9) ?_
      refine own_st (T' := T0) (g' := (mkF m 30 #[.val (.int z0.1), .val (.int (z0.2.1 + (8 : Int32)))] [(.int ((z0.1.toUInt32 >>> ((8 : Int32) &&& 31).toUInt32).toInt32))])) (fun t9 k9 => XS.iushr X0.here hx rfl (hb hby d7_29) rfl k9) ?_
      refine own_st (T' := T0) (g' := (mkF m 31 #[.val (.int ((z0.1.toUInt32 >>> ((8 : Int32) &&& 31).toUInt32).toInt32)), .val (.int (z0.2.1 + (8 : Int32)))] [])) (fun t9 k9 => XS.istoreN X0.here hx rfl (hb hby d7_30) rfl (l' := #[.val (.int ((z0.1.toUInt32 >>> ((8 : Int32) &&& 31).toUInt32).toInt32)), .val (.int (z0.2.1 + (8 : Int32)))]) rfl k9) ?_
      exact j31 (own_u z0.1 8, z0.2.1 + 8, z0.2.2 + (-8)) (by rw [hz0]; rw [hz0] at hs1; exact (own_S_f (z := _) hs1).symm)
  refine own_st (T' := T0) (g' := (mkF m 3 #[.val (.int p1), .val (.int (1 : Int32))] [(.int p1)])) (fun t9 k9 => XS.iloadN X0.here hx rfl (hb hby d7_2) rfl k9) ?_
  refine own_st (T' := T0) (g' := (mkF m 5 #[.val (.int p1), .val (.int (1 : Int32))] [(.int (65536 : Int32)), (.int p1)])) (fun t9 k9 => X0.ldcInt hx hown (mvT hZ (hw _ (List.mem_of_getElem? (i := 49) rfl))) (g := (mkF m 3 #[.val (.int p1), .val (.int (1 : Int32))] [(.int p1)])) rfl (hb hby d7_3) t9 k9) ?_
  by_cases hs0 : p1 < (65536 : Int32)
  · refine own_st (T' := T0) (g' := (mkF m 16 #[.val (.int p1), .val (.int (1 : Int32))] [])) (fun t9 k9 => XS.icmpYes X0.here hx rfl (pc0 := 5) (pc' := 16) rfl (hb hby d7_5) rfl (tlt hs0).1 (by decide) (by decide) k9) ?_
    exact j16 (p1, 1, 31) (by exact (own_S_t (z := (p1, 1, 31)) hs0).symm)
  · refine own_st (T' := T0) (g' := (mkF m 8 #[.val (.int p1), .val (.int (1 : Int32))] [])) (fun t9 k9 => XS.icmpNo X0.here hx rfl (hb hby d7_5) rfl (flt hs0).1 k9) ?_
    refine own_st (T' := T0) (g' := (mkF m 11 #[.val (.int p1), .val (.int ((1 : Int32) + (16 : Int32)))] [])) (fun t9 k9 => XS.iinc X0.here hx rfl (hb hby d7_8) rfl (l' := #[.val (.int p1), .val (.int ((1 : Int32) + (16 : Int32)))]) rfl k9) ?_
    refine own_st (T' := T0) (g' := (mkF m 12 #[.val (.int p1), .val (.int ((1 : Int32) + (16 : Int32)))] [(.int p1)])) (fun t9 k9 => XS.iloadN X0.here hx rfl (hb hby d7_11) rfl k9) ?_
    refine own_st (T' := T0) (g' := (mkF m 14 #[.val (.int p1), .val (.int ((1 : Int32) + (16 : Int32)))] [(.int (16 : Int32)), (.int p1)])) (fun t9 k9 => XS.bipush X0.here hx rfl (hb hby d7_12) k9) ?_
    refine own_st (T' := T0) (g' := (mkF m 15 #[.val (.int p1), .val (.int ((1 : Int32) + (16 : Int32)))] [(.int ((p1.toUInt32 >>> ((16 : Int32) &&& 31).toUInt32).toInt32))])) (fun t9 k9 => XS.iushr X0.here hx rfl (hb hby d7_14) rfl k9) ?_
    refine own_st (T' := T0) (g' := (mkF m 16 #[.val (.int ((p1.toUInt32 >>> ((16 : Int32) &&& 31).toUInt32).toInt32)), .val (.int ((1 : Int32) + (16 : Int32)))] [])) (fun t9 k9 => XS.istoreN X0.here hx rfl (hb hby d7_15) rfl (l' := #[.val (.int ((p1.toUInt32 >>> ((16 : Int32) &&& 31).toUInt32).toInt32)), .val (.int ((1 : Int32) + (16 : Int32)))]) rfl k9) ?_
    exact j16 (own_u (p1, 1, 31).1 16, (p1, 1, 31).2.1 + 16, (p1, 1, 31).2.2 + (-16)) (by exact (own_S_f (z := (p1, 1, 31)) hs0).symm)
theorem d3_0 : decode jdk_33_method_47_code 0 = .ok (.iload_n 0, 1) := by decide +kernel
theorem d3_1 : decode jdk_33_method_47_code 1 = .ok (.ifCond .gt 14, 3) := by decide +kernel
theorem d3_4 : decode jdk_33_method_47_code 4 = .ok (.iload_n 0, 1) := by decide +kernel
theorem d3_5 : decode jdk_33_method_47_code 5 = .ok (.ifCond .ne 8, 3) := by decide +kernel
theorem d3_8 : decode jdk_33_method_47_code 8 = .ok (.bipush 32, 2) := by decide +kernel
theorem d3_10 : decode jdk_33_method_47_code 10 = .ok (.goto 4, 3) := by decide +kernel
theorem d3_13 : decode jdk_33_method_47_code 13 = .ok (.iconst 0, 1) := by decide +kernel
theorem d3_14 : decode jdk_33_method_47_code 14 = .ok (.ireturn, 1) := by decide +kernel
theorem d3_15 : decode jdk_33_method_47_code 15 = .ok (.bipush 31, 2) := by decide +kernel
theorem d3_17 : decode jdk_33_method_47_code 17 = .ok (.istore_n 1, 1) := by decide +kernel
theorem d3_18 : decode jdk_33_method_47_code 18 = .ok (.iload_n 0, 1) := by decide +kernel
theorem d3_19 : decode jdk_33_method_47_code 19 = .ok (.ldc_w 264, 3) := by decide +kernel
theorem d3_22 : decode jdk_33_method_47_code 22 = .ok (.if_icmp .lt 11, 3) := by decide +kernel
theorem d3_25 : decode jdk_33_method_47_code 25 = .ok (.iinc 1 (-16), 3) := by decide +kernel
theorem d3_28 : decode jdk_33_method_47_code 28 = .ok (.iload_n 0, 1) := by decide +kernel
theorem d3_29 : decode jdk_33_method_47_code 29 = .ok (.bipush 16, 2) := by decide +kernel
theorem d3_31 : decode jdk_33_method_47_code 31 = .ok (.iushr, 1) := by decide +kernel
theorem d3_32 : decode jdk_33_method_47_code 32 = .ok (.istore_n 0, 1) := by decide +kernel
theorem d3_33 : decode jdk_33_method_47_code 33 = .ok (.iload_n 0, 1) := by decide +kernel
theorem d3_34 : decode jdk_33_method_47_code 34 = .ok (.sipush 256, 3) := by decide +kernel
theorem d3_37 : decode jdk_33_method_47_code 37 = .ok (.if_icmp .lt 11, 3) := by decide +kernel
theorem d3_40 : decode jdk_33_method_47_code 40 = .ok (.iinc 1 (-8), 3) := by decide +kernel
theorem d3_43 : decode jdk_33_method_47_code 43 = .ok (.iload_n 0, 1) := by decide +kernel
theorem d3_44 : decode jdk_33_method_47_code 44 = .ok (.bipush 8, 2) := by decide +kernel
theorem d3_46 : decode jdk_33_method_47_code 46 = .ok (.iushr, 1) := by decide +kernel
theorem d3_47 : decode jdk_33_method_47_code 47 = .ok (.istore_n 0, 1) := by decide +kernel
theorem d3_48 : decode jdk_33_method_47_code 48 = .ok (.iload_n 0, 1) := by decide +kernel
theorem d3_49 : decode jdk_33_method_47_code 49 = .ok (.bipush 16, 2) := by decide +kernel
theorem d3_51 : decode jdk_33_method_47_code 51 = .ok (.if_icmp .lt 10, 3) := by decide +kernel
theorem d3_54 : decode jdk_33_method_47_code 54 = .ok (.iinc 1 (-4), 3) := by decide +kernel
theorem d3_57 : decode jdk_33_method_47_code 57 = .ok (.iload_n 0, 1) := by decide +kernel
theorem d3_58 : decode jdk_33_method_47_code 58 = .ok (.iconst 4, 1) := by decide +kernel
theorem d3_59 : decode jdk_33_method_47_code 59 = .ok (.iushr, 1) := by decide +kernel
theorem d3_60 : decode jdk_33_method_47_code 60 = .ok (.istore_n 0, 1) := by decide +kernel
theorem d3_61 : decode jdk_33_method_47_code 61 = .ok (.iload_n 0, 1) := by decide +kernel
theorem d3_62 : decode jdk_33_method_47_code 62 = .ok (.iconst 4, 1) := by decide +kernel
theorem d3_63 : decode jdk_33_method_47_code 63 = .ok (.if_icmp .lt 10, 3) := by decide +kernel
theorem d3_66 : decode jdk_33_method_47_code 66 = .ok (.iinc 1 (-2), 3) := by decide +kernel
theorem d3_69 : decode jdk_33_method_47_code 69 = .ok (.iload_n 0, 1) := by decide +kernel
theorem d3_70 : decode jdk_33_method_47_code 70 = .ok (.iconst 2, 1) := by decide +kernel
theorem d3_71 : decode jdk_33_method_47_code 71 = .ok (.iushr, 1) := by decide +kernel
theorem d3_72 : decode jdk_33_method_47_code 72 = .ok (.istore_n 0, 1) := by decide +kernel
theorem d3_73 : decode jdk_33_method_47_code 73 = .ok (.iload_n 1, 1) := by decide +kernel
theorem d3_74 : decode jdk_33_method_47_code 74 = .ok (.iload_n 0, 1) := by decide +kernel
theorem d3_75 : decode jdk_33_method_47_code 75 = .ok (.iconst 1, 1) := by decide +kernel
theorem d3_76 : decode jdk_33_method_47_code 76 = .ok (.iushr, 1) := by decide +kernel
theorem d3_77 : decode jdk_33_method_47_code 77 = .ok (.isub, 1) := by decide +kernel
theorem d3_78 : decode jdk_33_method_47_code 78 = .ok (.ireturn, 1) := by decide +kernel
theorem pn_3 : plainFor (⟨"java/lang/Integer", "numberOfLeadingZeros", "(I)I"⟩ : MethodName) = true := plainFor_of_name (by first | (simp [plainName, overriddenIn]; done) | decide +kernel)
set_option maxRecDepth 65536 in
set_option maxHeartbeats 40000000 in
theorem rm3 (l : Launch) (Z : State) (a0 : Array Value) (hw : ∀ d ∈ tables_1, d.before a0 Z = true) (p1 : Int32) (h0 : Heap) (n0 : Nat) (Z0 : n0 ≤ h0.size) (hp : ¬ p1 < 0) :
    own_Met l Z (⟨"java/lang/Integer", "numberOfLeadingZeros", "(I)I"⟩ : MethodName) jdk_33_method_47_code 2 (some .int) ({ frames := 0, cells := 0, slots := 0, locals := 0 } : Room) #[(.int p1)] h0 (fun v h L => ∃ z, v = some (.int z) ∧ Fr n0 L ∧ h = h0 ∧ ((p1 = 0 ∧ z = 32) ∨ ((0 : Int32) < p1 ∧ z = own_nlz p1))) := by
  refine own_body pn_3 ?_
  intro p e s m below meth c T0 hZ hx hby hml hown hnm hret hlk X0 e0 F hF
  have N0 := Fr.nil n0
  have K0 := Keep.refl h0 []
  refine own_cast (g' := (mkF m 0 #[.val (.int p1), .unset] [])) (by first | (simp [entryFrame, mkF, argsToLocals, Value.category]; done) | rfl) ?_
  refine own_st (T' := T0) (g' := (mkF m 1 #[.val (.int p1), .unset] [(.int p1)])) (fun t9 k9 => XS.iloadN X0.here hx rfl (hb hby d3_0) rfl k9) ?_
  by_cases h0p : (0 : Int32) < p1
  · refine own_st (T' := T0) (g' := (mkF m 15 #[.val (.int p1), .unset] [])) (fun t9 k9 => XS.ifYes X0.here hx rfl (pc0 := 1) (pc' := 15) rfl (hb hby d3_1) rfl ((if0 _ _).trans (tlt h0p).2.2.1) (by decide) (by decide) k9) ?_
    refine own_st (T' := T0) (g' := (mkF m 17 #[.val (.int p1), .unset] [(.int (31 : Int32))])) (fun t9 k9 => XS.bipush X0.here hx rfl (hb hby d3_15) k9) ?_
    refine own_st (T' := T0) (g' := (mkF m 18 #[.val (.int p1), .val (.int (31 : Int32))] [])) (fun t9 k9 => XS.istoreN X0.here hx rfl (hb hby d3_17) rfl (l' := #[.val (.int p1), .val (.int (31 : Int32))]) rfl k9) ?_
    have j33 : ∀ (z0 : Int32 × Int32 × Int32), z0 = own_Z1 p1 → own_Go p e below F T0 (mkF m 33 #[.val (.int z0.1), .val (.int z0.2.2)] []) := by
      intro z0 hz0
      have j48 : ∀ (z1 : Int32 × Int32 × Int32), z1 = own_Z2 p1 → own_Go p e below F T0 (mkF m 48 #[.val (.int z1.1), .val (.int z1.2.2)] []) := by
        intro z1 hz1
        have j61 : ∀ (z2 : Int32 × Int32 × Int32), z2 = own_Z3 p1 → own_Go p e below F T0 (mkF m 61 #[.val (.int z2.1), .val (.int z2.2.2)] []) := by
          intro z2 hz2
          have j73 : ∀ (z3 : Int32 × Int32 × Int32), z3 = own_Z4 p1 → own_Go p e below F T0 (mkF m 73 #[.val (.int z3.1), .val (.int z3.2.2)] []) := by
            intro z3 hz3
            refine own_st (T' := T0) (g' := (mkF m 74 #[.val (.int z3.1), .val (.int z3.2.2)] [(.int z3.2.2)])) (fun t9 k9 => XS.iloadN X0.here hx rfl (hb hby d3_73) rfl k9) ?_
            refine own_st (T' := T0) (g' := (mkF m 75 #[.val (.int z3.1), .val (.int z3.2.2)] [(.int z3.1), (.int z3.2.2)])) (fun t9 k9 => XS.iloadN X0.here hx rfl (hb hby d3_74) rfl k9) ?_
            refine own_st (T' := T0) (g' := (mkF m 76 #[.val (.int z3.1), .val (.int z3.2.2)] [(.int (1 : Int32)), (.int z3.1), (.int z3.2.2)])) (fun t9 k9 => XS.iconst X0.here hx rfl (hb hby d3_75) k9) ?_
            refine own_st (T' := T0) (g' := (mkF m 77 #[.val (.int z3.1), .val (.int z3.2.2)] [(.int ((z3.1.toUInt32 >>> ((1 : Int32) &&& 31).toUInt32).toInt32)), (.int z3.2.2)])) (fun t9 k9 => XS.iushr X0.here hx rfl (hb hby d3_76) rfl k9) ?_
            refine own_st (T' := T0) (g' := (mkF m 78 #[.val (.int z3.1), .val (.int z3.2.2)] [(.int (z3.2.2 - ((z3.1.toUInt32 >>> ((1 : Int32) &&& 31).toUInt32).toInt32)))])) (fun t9 k9 => XS.isub X0.here hx rfl (hb hby d3_77) rfl k9) ?_
            refine own_ret (v := some (.int (z3.2.2 - ((z3.1.toUInt32 >>> ((1 : Int32) &&& 31).toUInt32).toInt32)))) hF X0 (own_some hret) hlk (fun fs hr => retI X0 hx hret (hb hby d3_78) hr) ?_ (by decide) (by decide)
            try rw [e0]
            exact ⟨_, rfl, N0, rfl, Or.inr ⟨h0p, by subst hz3; rfl⟩⟩
          refine own_st (T' := T0) (g' := (mkF m 62 #[.val (.int z2.1), .val (.int z2.2.2)] [(.int z2.1)])) (fun t9 k9 => XS.iloadN X0.here hx rfl (hb hby d3_61) rfl k9) ?_
          refine own_st (T' := T0) (g' := (mkF m 63 #[.val (.int z2.1), .val (.int z2.2.2)] [(.int (4 : Int32)), (.int z2.1)])) (fun t9 k9 => XS.iconst X0.here hx rfl (hb hby d3_62) k9) ?_
          by_cases hs3 : z2.1 < (4 : Int32)
          · refine own_st (T' := T0) (g' := (mkF m 73 #[.val (.int z2.1), .val (.int z2.2.2)] [])) (fun t9 k9 => XS.icmpYes X0.here hx rfl (pc0 := 63) (pc' := 73) rfl (hb hby d3_63) rfl (tlt hs3).1 (by decide) (by decide) k9) ?_
            exact j73 z2 (by rw [hz2]; rw [hz2] at hs3; exact (own_S_t (z := _) hs3).symm)
          · refine own_st (T' := T0) (g' := (mkF m 66 #[.val (.int z2.1), .val (.int z2.2.2)] [])) (fun t9 k9 => XS.icmpNo X0.here hx rfl (hb hby d3_63) rfl (flt hs3).1 k9) ?_
            refine own_st (T' := T0) (g' := (mkF m 69 #[.val (.int z2.1), .val (.int (z2.2.2 + (-2 : Int32)))] [])) (fun t9 k9 => XS.iinc X0.here hx rfl (hb hby d3_66) rfl (l' := #[.val (.int z2.1), .val (.int (z2.2.2 + (-2 : Int32)))]) rfl k9) ?_
            refine own_st (T' := T0) (g' := (mkF m 70 #[.val (.int z2.1), .val (.int (z2.2.2 + (-2 : Int32)))] [(.int z2.1)])) (fun t9 k9 => XS.iloadN X0.here hx rfl (hb hby d3_69) rfl k9) ?_
            refine own_st (T' := T0) (g' := (mkF m 71 #[.val (.int z2.1), .val (.int (z2.2.2 + (-2 : Int32)))] [(.int (2 : Int32)), (.int z2.1)])) (fun t9 k9 => XS.iconst X0.here hx rfl (hb hby d3_70) k9) ?_
            refine own_st (T' := T0) (g' := (mkF m 72 #[.val (.int z2.1), .val (.int (z2.2.2 + (-2 : Int32)))] [(.int ((z2.1.toUInt32 >>> ((2 : Int32) &&& 31).toUInt32).toInt32))])) (fun t9 k9 => XS.iushr X0.here hx rfl (hb hby d3_71) rfl k9) ?_
            refine own_st (T' := T0) (g' := (mkF m 73 #[.val (.int ((z2.1.toUInt32 >>> ((2 : Int32) &&& 31).toUInt32).toInt32)), .val (.int (z2.2.2 + (-2 : Int32)))] [])) (fun t9 k9 => XS.istoreN X0.here hx rfl (hb hby d3_72) rfl (l' := #[.val (.int ((z2.1.toUInt32 >>> ((2 : Int32) &&& 31).toUInt32).toInt32)), .val (.int (z2.2.2 + (-2 : Int32)))]) rfl k9) ?_
            exact j73 (own_u z2.1 2, z2.2.1 + 2, z2.2.2 + (-2)) (by rw [hz2]; rw [hz2] at hs3; exact (own_S_f (z := _) hs3).symm)
        refine own_st (T' := T0) (g' := (mkF m 49 #[.val (.int z1.1), .val (.int z1.2.2)] [(.int z1.1)])) (fun t9 k9 => XS.iloadN X0.here hx rfl (hb hby d3_48) rfl k9) ?_
        refine own_st (T' := T0) (g' := (mkF m 51 #[.val (.int z1.1), .val (.int z1.2.2)] [(.int (16 : Int32)), (.int z1.1)])) (fun t9 k9 => XS.bipush X0.here hx rfl (hb hby d3_49) k9) ?_
        by_cases hs2 : z1.1 < (16 : Int32)
        · refine own_st (T' := T0) (g' := (mkF m 61 #[.val (.int z1.1), .val (.int z1.2.2)] [])) (fun t9 k9 => XS.icmpYes X0.here hx rfl (pc0 := 51) (pc' := 61) rfl (hb hby d3_51) rfl (tlt hs2).1 (by decide) (by decide) k9) ?_
          exact j61 z1 (by rw [hz1]; rw [hz1] at hs2; exact (own_S_t (z := _) hs2).symm)
        · refine own_st (T' := T0) (g' := (mkF m 54 #[.val (.int z1.1), .val (.int z1.2.2)] [])) (fun t9 k9 => XS.icmpNo X0.here hx rfl (hb hby d3_51) rfl (flt hs2).1 k9) ?_
          refine own_st (T' := T0) (g' := (mkF m 57 #[.val (.int z1.1), .val (.int (z1.2.2 + (-4 : Int32)))] [])) (fun t9 k9 => XS.iinc X0.here hx rfl (hb hby d3_54) rfl (l' := #[.val (.int z1.1), .val (.int (z1.2.2 + (-4 : Int32)))]) rfl k9) ?_
          refine own_st (T' := T0) (g' := (mkF m 58 #[.val (.int z1.1), .val (.int (z1.2.2 + (-4 : Int32)))] [(.int z1.1)])) (fun t9 k9 => XS.iloadN X0.here hx rfl (hb hby d3_57) rfl k9) ?_
          refine own_st (T' := T0) (g' := (mkF m 59 #[.val (.int z1.1), .val (.int (z1.2.2 + (-4 : Int32)))] [(.int (4 : Int32)), (.int z1.1)])) (fun t9 k9 => XS.iconst X0.here hx rfl (hb hby d3_58) k9) ?_
          refine own_st (T' := T0) (g' := (mkF m 60 #[.val (.int z1.1), .val (.int (z1.2.2 + (-4 : Int32)))] [(.int ((z1.1.toUInt32 >>> ((4 : Int32) &&& 31).toUInt32).toInt32))])) (fun t9 k9 => XS.iushr X0.here hx rfl (hb hby d3_59) rfl k9) ?_
          refine own_st (T' := T0) (g' := (mkF m 61 #[.val (.int ((z1.1.toUInt32 >>> ((4 : Int32) &&& 31).toUInt32).toInt32)), .val (.int (z1.2.2 + (-4 : Int32)))] [])) (fun t9 k9 => XS.istoreN X0.here hx rfl (hb hby d3_60) rfl (l' := #[.val (.int ((z1.1.toUInt32 >>> ((4 : Int32) &&& 31).toUInt32).toInt32)), .val (.int (z1.2.2 + (-4 : Int32)))]) rfl k9) ?_
          exact j61 (own_u z1.1 4, z1.2.1 + 4, z1.2.2 + (-4)) (by rw [hz1]; rw [hz1] at hs2; exact (own_S_f (z := _) hs2).symm)
      refine own_st (T' := T0) (g' := (mkF m 34 #[.val (.int z0.1), .val (.int z0.2.2)] [(.int z0.1)])) (fun t9 k9 => XS.iloadN X0.here hx rfl (hb hby d3_33) rfl k9) ?_
      refine own_st (T' := T0) (g' := (mkF m 37 #[.val (.int z0.1), .val (.int z0.2.2)] [(.int (256 : Int32)), (.int z0.1)])) (fun t9 k9 => XS.sipush X0.here hx rfl (hb hby d3_34) k9) ?_
      by_cases hs1 : z0.1 < (256 : Int32)
      · refine own_st (T' := T0) (g' := (mkF m 48 #[.val (.int z0.1), .val (.int z0.2.2)] [])) (fun t9 k9 => XS.icmpYes X0.here hx rfl (pc0 := 37) (pc' := 48) rfl (hb hby d3_37) rfl (tlt hs1).1 (by decide) (by decide) k9) ?_
        exact j48 z0 (by rw [hz0]; rw [hz0] at hs1; exact (own_S_t (z := _) hs1).symm)
      · refine own_st (T' := T0) (g' := (mkF m 40 #[.val (.int z0.1), .val (.int z0.2.2)] [])) (fun t9 k9 => XS.icmpNo X0.here hx rfl (hb hby d3_37) rfl (flt hs1).1 k9) ?_
        refine own_st (T' := T0) (g' := (mkF m 43 #[.val (.int z0.1), .val (.int (z0.2.2 + (-8 : Int32)))] [])) (fun t9 k9 => XS.iinc X0.here hx rfl (hb hby d3_40) rfl (l' := #[.val (.int z0.1), .val (.int (z0.2.2 + (-8 : Int32)))]) rfl k9) ?_
        refine own_st (T' := T0) (g' := (mkF m 44 #[.val (.int z0.1), .val (.int (z0.2.2 + (-8 : Int32)))] [(.int z0.1)])) (fun t9 k9 => XS.iloadN X0.here hx rfl (hb hby d3_43) rfl k9) ?_
        refine own_st (T' := T0) (g' := (mkF m 46 #[.val (.int z0.1), .val (.int (z0.2.2 + (-8 : Int32)))] [(.int (8 : Int32)), (.int z0.1)])) (fun t9 k9 => XS.bipush X0.here hx rfl (hb hby d3_44) k9) ?_
        refine own_st (T' := T0) (g' := (mkF m 47 #[.val (.int z0.1), .val (.int (z0.2.2 + (-8 : Int32)))] [(.int ((z0.1.toUInt32 >>> ((8 : Int32) &&& 31).toUInt32).toInt32))])) (fun t9 k9 => XS.iushr X0.here hx rfl (hb hby d3_46) rfl k9) ?_
        refine own_st (T' := T0) (g' := (mkF m 48 #[.val (.int ((z0.1.toUInt32 >>> ((8 : Int32) &&& 31).toUInt32).toInt32)), .val (.int (z0.2.2 + (-8 : Int32)))] [])) (fun t9 k9 => XS.istoreN X0.here hx rfl (hb hby d3_47) rfl (l' := #[.val (.int ((z0.1.toUInt32 >>> ((8 : Int32) &&& 31).toUInt32).toInt32)), .val (.int (z0.2.2 + (-8 : Int32)))]) rfl k9) ?_
        exact j48 (own_u z0.1 8, z0.2.1 + 8, z0.2.2 + (-8)) (by rw [hz0]; rw [hz0] at hs1; exact (own_S_f (z := _) hs1).symm)
    refine own_st (T' := T0) (g' := (mkF m 19 #[.val (.int p1), .val (.int (31 : Int32))] [(.int p1)])) (fun t9 k9 => XS.iloadN X0.here hx rfl (hb hby d3_18) rfl k9) ?_
    refine own_st (T' := T0) (g' := (mkF m 22 #[.val (.int p1), .val (.int (31 : Int32))] [(.int (65536 : Int32)), (.int p1)])) (fun t9 k9 => X0.ldcwInt hx hown (mvT hZ (hw _ (List.mem_of_getElem? (i := 74) rfl))) (g := (mkF m 19 #[.val (.int p1), .val (.int (31 : Int32))] [(.int p1)])) rfl (hb hby d3_19) t9 k9) ?_
    by_cases hs0 : p1 < (65536 : Int32)
    · refine own_st (T' := T0) (g' := (mkF m 33 #[.val (.int p1), .val (.int (31 : Int32))] [])) (fun t9 k9 => XS.icmpYes X0.here hx rfl (pc0 := 22) (pc' := 33) rfl (hb hby d3_22) rfl (tlt hs0).1 (by decide) (by decide) k9) ?_
      exact j33 (p1, 1, 31) (by exact (own_S_t (z := (p1, 1, 31)) hs0).symm)
    · refine own_st (T' := T0) (g' := (mkF m 25 #[.val (.int p1), .val (.int (31 : Int32))] [])) (fun t9 k9 => XS.icmpNo X0.here hx rfl (hb hby d3_22) rfl (flt hs0).1 k9) ?_
      refine own_st (T' := T0) (g' := (mkF m 28 #[.val (.int p1), .val (.int ((31 : Int32) + (-16 : Int32)))] [])) (fun t9 k9 => XS.iinc X0.here hx rfl (hb hby d3_25) rfl (l' := #[.val (.int p1), .val (.int ((31 : Int32) + (-16 : Int32)))]) rfl k9) ?_
      refine own_st (T' := T0) (g' := (mkF m 29 #[.val (.int p1), .val (.int ((31 : Int32) + (-16 : Int32)))] [(.int p1)])) (fun t9 k9 => XS.iloadN X0.here hx rfl (hb hby d3_28) rfl k9) ?_
      refine own_st (T' := T0) (g' := (mkF m 31 #[.val (.int p1), .val (.int ((31 : Int32) + (-16 : Int32)))] [(.int (16 : Int32)), (.int p1)])) (fun t9 k9 => XS.bipush X0.here hx rfl (hb hby d3_29) k9) ?_
      refine own_st (T' := T0) (g' := (mkF m 32 #[.val (.int p1), .val (.int ((31 : Int32) + (-16 : Int32)))] [(.int ((p1.toUInt32 >>> ((16 : Int32) &&& 31).toUInt32).toInt32))])) (fun t9 k9 => XS.iushr X0.here hx rfl (hb hby d3_31) rfl k9) ?_
      refine own_st (T' := T0) (g' := (mkF m 33 #[.val (.int ((p1.toUInt32 >>> ((16 : Int32) &&& 31).toUInt32).toInt32)), .val (.int ((31 : Int32) + (-16 : Int32)))] [])) (fun t9 k9 => XS.istoreN X0.here hx rfl (hb hby d3_32) rfl (l' := #[.val (.int ((p1.toUInt32 >>> ((16 : Int32) &&& 31).toUInt32).toInt32)), .val (.int ((31 : Int32) + (-16 : Int32)))]) rfl k9) ?_
      exact j33 (own_u (p1, 1, 31).1 16, (p1, 1, 31).2.1 + 16, (p1, 1, 31).2.2 + (-16)) (by exact (own_S_f (z := (p1, 1, 31)) hs0).symm)
  · refine own_st (T' := T0) (g' := (mkF m 4 #[.val (.int p1), .unset] [])) (fun t9 k9 => XS.ifNo X0.here hx rfl (hb hby d3_1) rfl ((if0 _ _).trans (flt h0p).2.2.1) k9) ?_
    refine own_st (T' := T0) (g' := (mkF m 5 #[.val (.int p1), .unset] [(.int p1)])) (fun t9 k9 => XS.iloadN X0.here hx rfl (hb hby d3_4) rfl k9) ?_
    refine own_st (T' := T0) (g' := (mkF m 8 #[.val (.int p1), .unset] [])) (fun t9 k9 => XS.ifNo X0.here hx rfl (hb hby d3_5) rfl ((if0 _ _).trans (teq (own_nn hp h0p)).2) k9) ?_
    refine own_st (T' := T0) (g' := (mkF m 10 #[.val (.int p1), .unset] [(.int (32 : Int32))])) (fun t9 k9 => XS.bipush X0.here hx rfl (hb hby d3_8) k9) ?_
    refine own_st (T' := T0) (g' := (mkF m 14 #[.val (.int p1), .unset] [(.int (32 : Int32))])) (fun t9 k9 => XS.goto X0.here hx rfl (pc0 := 10) (pc' := 14) rfl (hb hby d3_10) (by decide) (by decide) k9) ?_
    refine own_ret (v := some (.int (32 : Int32))) hF X0 (own_some hret) hlk (fun fs hr => retI X0 hx hret (hb hby d3_14) hr) ?_ (by decide) (by decide)
    try rw [e0]
    exact ⟨_, rfl, N0, rfl, Or.inl ⟨own_nn hp h0p, rfl⟩⟩
theorem d4_0 : decode jdk_29_method_65_code 0 = .ok (.iload_n 0, 1) := by decide +kernel
theorem d4_1 : decode jdk_29_method_65_code 1 = .ok (.iload_n 1, 1) := by decide +kernel
theorem d4_2 : decode jdk_29_method_65_code 2 = .ok (.if_icmp .lt 7, 3) := by decide +kernel
theorem d4_5 : decode jdk_29_method_65_code 5 = .ok (.iload_n 0, 1) := by decide +kernel
theorem d4_6 : decode jdk_29_method_65_code 6 = .ok (.goto 4, 3) := by decide +kernel
theorem d4_9 : decode jdk_29_method_65_code 9 = .ok (.iload_n 1, 1) := by decide +kernel
theorem d4_10 : decode jdk_29_method_65_code 10 = .ok (.ireturn, 1) := by decide +kernel
theorem pn_4 : plainFor (⟨"java/lang/Math", "max", "(II)I"⟩ : MethodName) = true := (Jvm.Free.JP.mathPlain rfl (by decide +kernel))
set_option maxRecDepth 65536 in
set_option maxHeartbeats 40000000 in
theorem rm4 (l : Launch) (Z : State) (a0 : Array Value) (hw : ∀ d ∈ tables_1, d.before a0 Z = true) (p1 p2 : Int32) (h0 : Heap) (n0 : Nat) (Z0 : n0 ≤ h0.size)  :
    own_Met l Z (⟨"java/lang/Math", "max", "(II)I"⟩ : MethodName) jdk_29_method_65_code 2 (some .int) ({ frames := 0, cells := 0, slots := 0, locals := 0 } : Room) #[(.int p1), (.int p2)] h0 (fun v h L => ∃ z, v = some (.int z) ∧ Fr n0 L ∧ h = h0 ∧ ((p1 < p2 ∧ z = p2) ∨ (¬ p1 < p2 ∧ z = p1))) := by
  refine own_body pn_4 ?_
  intro p e s m below meth c T0 hZ hx hby hml hown hnm hret hlk X0 e0 F hF
  have N0 := Fr.nil n0
  have K0 := Keep.refl h0 []
  refine own_cast (g' := (mkF m 0 #[.val (.int p1), .val (.int p2)] [])) (by first | (simp [entryFrame, mkF, argsToLocals, Value.category]; done) | rfl) ?_
  refine own_st (T' := T0) (g' := (mkF m 1 #[.val (.int p1), .val (.int p2)] [(.int p1)])) (fun t9 k9 => XS.iloadN X0.here hx rfl (hb hby d4_0) rfl k9) ?_
  refine own_st (T' := T0) (g' := (mkF m 2 #[.val (.int p1), .val (.int p2)] [(.int p2), (.int p1)])) (fun t9 k9 => XS.iloadN X0.here hx rfl (hb hby d4_1) rfl k9) ?_
  by_cases h1 : p1 < p2
  · refine own_st (T' := T0) (g' := (mkF m 9 #[.val (.int p1), .val (.int p2)] [])) (fun t9 k9 => XS.icmpYes X0.here hx rfl (pc0 := 2) (pc' := 9) rfl (hb hby d4_2) rfl (tlt h1).1 (by decide) (by decide) k9) ?_
    refine own_st (T' := T0) (g' := (mkF m 10 #[.val (.int p1), .val (.int p2)] [(.int p2)])) (fun t9 k9 => XS.iloadN X0.here hx rfl (hb hby d4_9) rfl k9) ?_
    refine own_ret (v := some (.int p2)) hF X0 (own_some hret) hlk (fun fs hr => retI X0 hx hret (hb hby d4_10) hr) ?_ (by decide) (by decide)
    try rw [e0]
    exact ⟨_, rfl, N0, rfl, Or.inl ⟨h1, rfl⟩⟩
  · refine own_st (T' := T0) (g' := (mkF m 5 #[.val (.int p1), .val (.int p2)] [])) (fun t9 k9 => XS.icmpNo X0.here hx rfl (hb hby d4_2) rfl (flt h1).1 k9) ?_
    refine own_st (T' := T0) (g' := (mkF m 6 #[.val (.int p1), .val (.int p2)] [(.int p1)])) (fun t9 k9 => XS.iloadN X0.here hx rfl (hb hby d4_5) rfl k9) ?_
    refine own_st (T' := T0) (g' := (mkF m 10 #[.val (.int p1), .val (.int p2)] [(.int p1)])) (fun t9 k9 => XS.goto X0.here hx rfl (pc0 := 6) (pc' := 10) rfl (hb hby d4_6) (by decide) (by decide) k9) ?_
    refine own_ret (v := some (.int p1)) hF X0 (own_some hret) hlk (fun fs hr => retI X0 hx hret (hb hby d4_10) hr) ?_ (by decide) (by decide)
    try rw [e0]
    exact ⟨_, rfl, N0, rfl, Or.inr ⟨h1, rfl⟩⟩
theorem d6_0 : decode jdk_35_method_50_code 0 = .ok (.lload_n 0, 1) := by decide +kernel
theorem d6_1 : decode jdk_35_method_50_code 1 = .ok (.lload_n 0, 1) := by decide +kernel
theorem d6_2 : decode jdk_35_method_50_code 2 = .ok (.iconst 1, 1) := by decide +kernel
theorem d6_3 : decode jdk_35_method_50_code 3 = .ok (.lushr, 1) := by decide +kernel
theorem d6_4 : decode jdk_35_method_50_code 4 = .ok (.ldc2_w 314, 3) := by decide +kernel
theorem d6_7 : decode jdk_35_method_50_code 7 = .ok (.land, 1) := by decide +kernel
theorem d6_8 : decode jdk_35_method_50_code 8 = .ok (.lsub, 1) := by decide +kernel
theorem d6_9 : decode jdk_35_method_50_code 9 = .ok (.lstore_n 0, 1) := by decide +kernel
theorem d6_10 : decode jdk_35_method_50_code 10 = .ok (.lload_n 0, 1) := by decide +kernel
theorem d6_11 : decode jdk_35_method_50_code 11 = .ok (.ldc2_w 316, 3) := by decide +kernel
theorem d6_14 : decode jdk_35_method_50_code 14 = .ok (.land, 1) := by decide +kernel
theorem d6_15 : decode jdk_35_method_50_code 15 = .ok (.lload_n 0, 1) := by decide +kernel
theorem d6_16 : decode jdk_35_method_50_code 16 = .ok (.iconst 2, 1) := by decide +kernel
theorem d6_17 : decode jdk_35_method_50_code 17 = .ok (.lushr, 1) := by decide +kernel
theorem d6_18 : decode jdk_35_method_50_code 18 = .ok (.ldc2_w 316, 3) := by decide +kernel
theorem d6_21 : decode jdk_35_method_50_code 21 = .ok (.land, 1) := by decide +kernel
theorem d6_22 : decode jdk_35_method_50_code 22 = .ok (.ladd, 1) := by decide +kernel
theorem d6_23 : decode jdk_35_method_50_code 23 = .ok (.lstore_n 0, 1) := by decide +kernel
theorem d6_24 : decode jdk_35_method_50_code 24 = .ok (.lload_n 0, 1) := by decide +kernel
theorem d6_25 : decode jdk_35_method_50_code 25 = .ok (.lload_n 0, 1) := by decide +kernel
theorem d6_26 : decode jdk_35_method_50_code 26 = .ok (.iconst 4, 1) := by decide +kernel
theorem d6_27 : decode jdk_35_method_50_code 27 = .ok (.lushr, 1) := by decide +kernel
theorem d6_28 : decode jdk_35_method_50_code 28 = .ok (.ladd, 1) := by decide +kernel
theorem d6_29 : decode jdk_35_method_50_code 29 = .ok (.ldc2_w 318, 3) := by decide +kernel
theorem d6_32 : decode jdk_35_method_50_code 32 = .ok (.land, 1) := by decide +kernel
theorem d6_33 : decode jdk_35_method_50_code 33 = .ok (.lstore_n 0, 1) := by decide +kernel
theorem d6_34 : decode jdk_35_method_50_code 34 = .ok (.lload_n 0, 1) := by decide +kernel
theorem d6_35 : decode jdk_35_method_50_code 35 = .ok (.lload_n 0, 1) := by decide +kernel
theorem d6_36 : decode jdk_35_method_50_code 36 = .ok (.bipush 8, 2) := by decide +kernel
theorem d6_38 : decode jdk_35_method_50_code 38 = .ok (.lushr, 1) := by decide +kernel
theorem d6_39 : decode jdk_35_method_50_code 39 = .ok (.ladd, 1) := by decide +kernel
theorem d6_40 : decode jdk_35_method_50_code 40 = .ok (.lstore_n 0, 1) := by decide +kernel
theorem d6_41 : decode jdk_35_method_50_code 41 = .ok (.lload_n 0, 1) := by decide +kernel
theorem d6_42 : decode jdk_35_method_50_code 42 = .ok (.lload_n 0, 1) := by decide +kernel
theorem d6_43 : decode jdk_35_method_50_code 43 = .ok (.bipush 16, 2) := by decide +kernel
theorem d6_45 : decode jdk_35_method_50_code 45 = .ok (.lushr, 1) := by decide +kernel
theorem d6_46 : decode jdk_35_method_50_code 46 = .ok (.ladd, 1) := by decide +kernel
theorem d6_47 : decode jdk_35_method_50_code 47 = .ok (.lstore_n 0, 1) := by decide +kernel
theorem d6_48 : decode jdk_35_method_50_code 48 = .ok (.lload_n 0, 1) := by decide +kernel
theorem d6_49 : decode jdk_35_method_50_code 49 = .ok (.lload_n 0, 1) := by decide +kernel
theorem d6_50 : decode jdk_35_method_50_code 50 = .ok (.bipush 32, 2) := by decide +kernel
theorem d6_52 : decode jdk_35_method_50_code 52 = .ok (.lushr, 1) := by decide +kernel
theorem d6_53 : decode jdk_35_method_50_code 53 = .ok (.ladd, 1) := by decide +kernel
theorem d6_54 : decode jdk_35_method_50_code 54 = .ok (.lstore_n 0, 1) := by decide +kernel
theorem d6_55 : decode jdk_35_method_50_code 55 = .ok (.lload_n 0, 1) := by decide +kernel
theorem d6_56 : decode jdk_35_method_50_code 56 = .ok (.l2i, 1) := by decide +kernel
theorem d6_57 : decode jdk_35_method_50_code 57 = .ok (.bipush 127, 2) := by decide +kernel
theorem d6_59 : decode jdk_35_method_50_code 59 = .ok (.iand, 1) := by decide +kernel
theorem d6_60 : decode jdk_35_method_50_code 60 = .ok (.ireturn, 1) := by decide +kernel
theorem pn_6 : plainFor (⟨"java/lang/Long", "bitCount", "(J)I"⟩ : MethodName) = true := plainFor_of_name (by first | (simp [plainName, overriddenIn]; done) | decide +kernel)
set_option maxRecDepth 65536 in
set_option maxHeartbeats 40000000 in
theorem rm6 (l : Launch) (Z : State) (a0 : Array Value) (hw : ∀ d ∈ tables_1, d.before a0 Z = true) (q1 : Int64) (h0 : Heap) (n0 : Nat) (Z0 : n0 ≤ h0.size)  :
    own_Met l Z (⟨"java/lang/Long", "bitCount", "(J)I"⟩ : MethodName) jdk_35_method_50_code 2 (some .int) ({ frames := 0, cells := 0, slots := 0, locals := 0 } : Room) #[(.long q1)] h0 (fun v h L => v = some (.int (own_bc q1)) ∧ Fr n0 L ∧ h = h0) := by
  refine own_body pn_6 ?_
  intro p e s m below meth c T0 hZ hx hby hml hown hnm hret hlk X0 e0 F hF
  have N0 := Fr.nil n0
  have K0 := Keep.refl h0 []
  refine own_cast (g' := (mkF m 0 #[.val (.long q1), .second] [])) (by first | (simp [entryFrame, mkF, argsToLocals, Value.category]; done) | rfl) ?_
  refine own_st (T' := T0) (g' := (mkF m 1 #[.val (.long q1), .second] [(.long q1)])) (fun t9 k9 => XS.lloadN X0.here hx rfl (hb hby d6_0) rfl k9) ?_
  refine own_st (T' := T0) (g' := (mkF m 2 #[.val (.long q1), .second] [(.long q1), (.long q1)])) (fun t9 k9 => XS.lloadN X0.here hx rfl (hb hby d6_1) rfl k9) ?_
  refine own_st (T' := T0) (g' := (mkF m 3 #[.val (.long q1), .second] [(.int (1 : Int32)), (.long q1), (.long q1)])) (fun t9 k9 => XS.iconst X0.here hx rfl (hb hby d6_2) k9) ?_
  refine own_st (T' := T0) (g' := (mkF m 4 #[.val (.long q1), .second] [(.long ((q1.toUInt64 >>> ((1 : Int32) &&& 0x3f).toInt64.toUInt64).toInt64)), (.long q1)])) (fun t9 k9 => XS.lushr X0.here hx rfl (hb hby d6_3) rfl k9) ?_
  refine own_st (T' := T0) (g' := (mkF m 7 #[.val (.long q1), .second] [(.long (6148914691236517205 : Int64)), (.long ((q1.toUInt64 >>> ((1 : Int32) &&& 0x3f).toInt64.toUInt64).toInt64)), (.long q1)])) (fun t9 k9 => X0.ldc2Long hx hown (mvT hZ (hw _ (List.mem_of_getElem? (i := 42) rfl))) (g := (mkF m 4 #[.val (.long q1), .second] [(.long ((q1.toUInt64 >>> ((1 : Int32) &&& 0x3f).toInt64.toUInt64).toInt64)), (.long q1)])) rfl (hb hby d6_4) t9 k9) ?_
  refine own_st (T' := T0) (g' := (mkF m 8 #[.val (.long q1), .second] [(.long (((q1.toUInt64 >>> ((1 : Int32) &&& 0x3f).toInt64.toUInt64).toInt64) &&& (6148914691236517205 : Int64))), (.long q1)])) (fun t9 k9 => XS.land X0.here hx rfl (hb hby d6_7) rfl k9) ?_
  refine own_st (T' := T0) (g' := (mkF m 9 #[.val (.long q1), .second] [(.long (q1 - (((q1.toUInt64 >>> ((1 : Int32) &&& 0x3f).toInt64.toUInt64).toInt64) &&& (6148914691236517205 : Int64))))])) (fun t9 k9 => XS.lsub X0.here hx rfl (hb hby d6_8) rfl k9) ?_
  refine own_st (T' := T0) (g' := (mkF m 10 #[.val (.long (q1 - (((q1.toUInt64 >>> ((1 : Int32) &&& 0x3f).toInt64.toUInt64).toInt64) &&& (6148914691236517205 : Int64)))), .second] [])) (fun t9 k9 => XS.lstoreN X0.here hx rfl (hb hby d6_9) rfl (l' := #[.val (.long (q1 - (((q1.toUInt64 >>> ((1 : Int32) &&& 0x3f).toInt64.toUInt64).toInt64) &&& (6148914691236517205 : Int64)))), .second]) rfl k9) ?_
  show own_Go p e below F T0 (mkF m 10 #[.val (.long (own_b1 q1)), .second] [])
  refine own_st (T' := T0) (g' := (mkF m 11 #[.val (.long (own_b1 q1)), .second] [(.long (own_b1 q1))])) (fun t9 k9 => XS.lloadN X0.here hx rfl (hb hby d6_10) rfl k9) ?_
  refine own_st (T' := T0) (g' := (mkF m 14 #[.val (.long (own_b1 q1)), .second] [(.long (3689348814741910323 : Int64)), (.long (own_b1 q1))])) (fun t9 k9 => X0.ldc2Long hx hown (mvT hZ (hw _ (List.mem_of_getElem? (i := 43) rfl))) (g := (mkF m 11 #[.val (.long (own_b1 q1)), .second] [(.long (own_b1 q1))])) rfl (hb hby d6_11) t9 k9) ?_
  refine own_st (T' := T0) (g' := (mkF m 15 #[.val (.long (own_b1 q1)), .second] [(.long ((own_b1 q1) &&& (3689348814741910323 : Int64)))])) (fun t9 k9 => XS.land X0.here hx rfl (hb hby d6_14) rfl k9) ?_
  refine own_st (T' := T0) (g' := (mkF m 16 #[.val (.long (own_b1 q1)), .second] [(.long (own_b1 q1)), (.long ((own_b1 q1) &&& (3689348814741910323 : Int64)))])) (fun t9 k9 => XS.lloadN X0.here hx rfl (hb hby d6_15) rfl k9) ?_
  refine own_st (T' := T0) (g' := (mkF m 17 #[.val (.long (own_b1 q1)), .second] [(.int (2 : Int32)), (.long (own_b1 q1)), (.long ((own_b1 q1) &&& (3689348814741910323 : Int64)))])) (fun t9 k9 => XS.iconst X0.here hx rfl (hb hby d6_16) k9) ?_
  refine own_st (T' := T0) (g' := (mkF m 18 #[.val (.long (own_b1 q1)), .second] [(.long (((own_b1 q1).toUInt64 >>> ((2 : Int32) &&& 0x3f).toInt64.toUInt64).toInt64)), (.long ((own_b1 q1) &&& (3689348814741910323 : Int64)))])) (fun t9 k9 => XS.lushr X0.here hx rfl (hb hby d6_17) rfl k9) ?_
  refine own_st (T' := T0) (g' := (mkF m 21 #[.val (.long (own_b1 q1)), .second] [(.long (3689348814741910323 : Int64)), (.long (((own_b1 q1).toUInt64 >>> ((2 : Int32) &&& 0x3f).toInt64.toUInt64).toInt64)), (.long ((own_b1 q1) &&& (3689348814741910323 : Int64)))])) (fun t9 k9 => X0.ldc2Long hx hown (mvT hZ (hw _ (List.mem_of_getElem? (i := 43) rfl))) (g := (mkF m 18 #[.val (.long (own_b1 q1)), .second] [(.long (((own_b1 q1).toUInt64 >>> ((2 : Int32) &&& 0x3f).toInt64.toUInt64).toInt64)), (.long ((own_b1 q1) &&& (3689348814741910323 : Int64)))])) rfl (hb hby d6_18) t9 k9) ?_
  refine own_st (T' := T0) (g' := (mkF m 22 #[.val (.long (own_b1 q1)), .second] [(.long ((((own_b1 q1).toUInt64 >>> ((2 : Int32) &&& 0x3f).toInt64.toUInt64).toInt64) &&& (3689348814741910323 : Int64))), (.long ((own_b1 q1) &&& (3689348814741910323 : Int64)))])) (fun t9 k9 => XS.land X0.here hx rfl (hb hby d6_21) rfl k9) ?_
  refine own_st (T' := T0) (g' := (mkF m 23 #[.val (.long (own_b1 q1)), .second] [(.long (((own_b1 q1) &&& (3689348814741910323 : Int64)) + ((((own_b1 q1).toUInt64 >>> ((2 : Int32) &&& 0x3f).toInt64.toUInt64).toInt64) &&& (3689348814741910323 : Int64))))])) (fun t9 k9 => XS.ladd X0.here hx rfl (hb hby d6_22) rfl k9) ?_
  refine own_st (T' := T0) (g' := (mkF m 24 #[.val (.long (((own_b1 q1) &&& (3689348814741910323 : Int64)) + ((((own_b1 q1).toUInt64 >>> ((2 : Int32) &&& 0x3f).toInt64.toUInt64).toInt64) &&& (3689348814741910323 : Int64)))), .second] [])) (fun t9 k9 => XS.lstoreN X0.here hx rfl (hb hby d6_23) rfl (l' := #[.val (.long (((own_b1 q1) &&& (3689348814741910323 : Int64)) + ((((own_b1 q1).toUInt64 >>> ((2 : Int32) &&& 0x3f).toInt64.toUInt64).toInt64) &&& (3689348814741910323 : Int64)))), .second]) rfl k9) ?_
  show own_Go p e below F T0 (mkF m 24 #[.val (.long (own_b2 q1)), .second] [])
  refine own_st (T' := T0) (g' := (mkF m 25 #[.val (.long (own_b2 q1)), .second] [(.long (own_b2 q1))])) (fun t9 k9 => XS.lloadN X0.here hx rfl (hb hby d6_24) rfl k9) ?_
  refine own_st (T' := T0) (g' := (mkF m 26 #[.val (.long (own_b2 q1)), .second] [(.long (own_b2 q1)), (.long (own_b2 q1))])) (fun t9 k9 => XS.lloadN X0.here hx rfl (hb hby d6_25) rfl k9) ?_
  refine own_st (T' := T0) (g' := (mkF m 27 #[.val (.long (own_b2 q1)), .second] [(.int (4 : Int32)), (.long (own_b2 q1)), (.long (own_b2 q1))])) (fun t9 k9 => XS.iconst X0.here hx rfl (hb hby d6_26) k9) ?_
  refine own_st (T' := T0) (g' := (mkF m 28 #[.val (.long (own_b2 q1)), .second] [(.long (((own_b2 q1).toUInt64 >>> ((4 : Int32) &&& 0x3f).toInt64.toUInt64).toInt64)), (.long (own_b2 q1))])) (fun t9 k9 => XS.lushr X0.here hx rfl (hb hby d6_27) rfl k9) ?_
  refine own_st (T' := T0) (g' := (mkF m 29 #[.val (.long (own_b2 q1)), .second] [(.long ((own_b2 q1) + (((own_b2 q1).toUInt64 >>> ((4 : Int32) &&& 0x3f).toInt64.toUInt64).toInt64)))])) (fun t9 k9 => XS.ladd X0.here hx rfl (hb hby d6_28) rfl k9) ?_
  refine own_st (T' := T0) (g' := (mkF m 32 #[.val (.long (own_b2 q1)), .second] [(.long (1085102592571150095 : Int64)), (.long ((own_b2 q1) + (((own_b2 q1).toUInt64 >>> ((4 : Int32) &&& 0x3f).toInt64.toUInt64).toInt64)))])) (fun t9 k9 => X0.ldc2Long hx hown (mvT hZ (hw _ (List.mem_of_getElem? (i := 44) rfl))) (g := (mkF m 29 #[.val (.long (own_b2 q1)), .second] [(.long ((own_b2 q1) + (((own_b2 q1).toUInt64 >>> ((4 : Int32) &&& 0x3f).toInt64.toUInt64).toInt64)))])) rfl (hb hby d6_29) t9 k9) ?_
  refine own_st (T' := T0) (g' := (mkF m 33 #[.val (.long (own_b2 q1)), .second] [(.long (((own_b2 q1) + (((own_b2 q1).toUInt64 >>> ((4 : Int32) &&& 0x3f).toInt64.toUInt64).toInt64)) &&& (1085102592571150095 : Int64)))])) (fun t9 k9 => XS.land X0.here hx rfl (hb hby d6_32) rfl k9) ?_
  refine own_st (T' := T0) (g' := (mkF m 34 #[.val (.long (((own_b2 q1) + (((own_b2 q1).toUInt64 >>> ((4 : Int32) &&& 0x3f).toInt64.toUInt64).toInt64)) &&& (1085102592571150095 : Int64))), .second] [])) (fun t9 k9 => XS.lstoreN X0.here hx rfl (hb hby d6_33) rfl (l' := #[.val (.long (((own_b2 q1) + (((own_b2 q1).toUInt64 >>> ((4 : Int32) &&& 0x3f).toInt64.toUInt64).toInt64)) &&& (1085102592571150095 : Int64))), .second]) rfl k9) ?_
  show own_Go p e below F T0 (mkF m 34 #[.val (.long (own_b3 q1)), .second] [])
  refine own_st (T' := T0) (g' := (mkF m 35 #[.val (.long (own_b3 q1)), .second] [(.long (own_b3 q1))])) (fun t9 k9 => XS.lloadN X0.here hx rfl (hb hby d6_34) rfl k9) ?_
  refine own_st (T' := T0) (g' := (mkF m 36 #[.val (.long (own_b3 q1)), .second] [(.long (own_b3 q1)), (.long (own_b3 q1))])) (fun t9 k9 => XS.lloadN X0.here hx rfl (hb hby d6_35) rfl k9) ?_
  refine own_st (T' := T0) (g' := (mkF m 38 #[.val (.long (own_b3 q1)), .second] [(.int (8 : Int32)), (.long (own_b3 q1)), (.long (own_b3 q1))])) (fun t9 k9 => XS.bipush X0.here hx rfl (hb hby d6_36) k9) ?_
  refine own_st (T' := T0) (g' := (mkF m 39 #[.val (.long (own_b3 q1)), .second] [(.long (((own_b3 q1).toUInt64 >>> ((8 : Int32) &&& 0x3f).toInt64.toUInt64).toInt64)), (.long (own_b3 q1))])) (fun t9 k9 => XS.lushr X0.here hx rfl (hb hby d6_38) rfl k9) ?_
  refine own_st (T' := T0) (g' := (mkF m 40 #[.val (.long (own_b3 q1)), .second] [(.long ((own_b3 q1) + (((own_b3 q1).toUInt64 >>> ((8 : Int32) &&& 0x3f).toInt64.toUInt64).toInt64)))])) (fun t9 k9 => XS.ladd X0.here hx rfl (hb hby d6_39) rfl k9) ?_
  refine own_st (T' := T0) (g' := (mkF m 41 #[.val (.long ((own_b3 q1) + (((own_b3 q1).toUInt64 >>> ((8 : Int32) &&& 0x3f).toInt64.toUInt64).toInt64))), .second] [])) (fun t9 k9 => XS.lstoreN X0.here hx rfl (hb hby d6_40) rfl (l' := #[.val (.long ((own_b3 q1) + (((own_b3 q1).toUInt64 >>> ((8 : Int32) &&& 0x3f).toInt64.toUInt64).toInt64))), .second]) rfl k9) ?_
  show own_Go p e below F T0 (mkF m 41 #[.val (.long (own_b4 q1)), .second] [])
  refine own_st (T' := T0) (g' := (mkF m 42 #[.val (.long (own_b4 q1)), .second] [(.long (own_b4 q1))])) (fun t9 k9 => XS.lloadN X0.here hx rfl (hb hby d6_41) rfl k9) ?_
  refine own_st (T' := T0) (g' := (mkF m 43 #[.val (.long (own_b4 q1)), .second] [(.long (own_b4 q1)), (.long (own_b4 q1))])) (fun t9 k9 => XS.lloadN X0.here hx rfl (hb hby d6_42) rfl k9) ?_
  refine own_st (T' := T0) (g' := (mkF m 45 #[.val (.long (own_b4 q1)), .second] [(.int (16 : Int32)), (.long (own_b4 q1)), (.long (own_b4 q1))])) (fun t9 k9 => XS.bipush X0.here hx rfl (hb hby d6_43) k9) ?_
  refine own_st (T' := T0) (g' := (mkF m 46 #[.val (.long (own_b4 q1)), .second] [(.long (((own_b4 q1).toUInt64 >>> ((16 : Int32) &&& 0x3f).toInt64.toUInt64).toInt64)), (.long (own_b4 q1))])) (fun t9 k9 => XS.lushr X0.here hx rfl (hb hby d6_45) rfl k9) ?_
  refine own_st (T' := T0) (g' := (mkF m 47 #[.val (.long (own_b4 q1)), .second] [(.long ((own_b4 q1) + (((own_b4 q1).toUInt64 >>> ((16 : Int32) &&& 0x3f).toInt64.toUInt64).toInt64)))])) (fun t9 k9 => XS.ladd X0.here hx rfl (hb hby d6_46) rfl k9) ?_
  refine own_st (T' := T0) (g' := (mkF m 48 #[.val (.long ((own_b4 q1) + (((own_b4 q1).toUInt64 >>> ((16 : Int32) &&& 0x3f).toInt64.toUInt64).toInt64))), .second] [])) (fun t9 k9 => XS.lstoreN X0.here hx rfl (hb hby d6_47) rfl (l' := #[.val (.long ((own_b4 q1) + (((own_b4 q1).toUInt64 >>> ((16 : Int32) &&& 0x3f).toInt64.toUInt64).toInt64))), .second]) rfl k9) ?_
  show own_Go p e below F T0 (mkF m 48 #[.val (.long (own_b5 q1)), .second] [])
  refine own_st (T' := T0) (g' := (mkF m 49 #[.val (.long (own_b5 q1)), .second] [(.long (own_b5 q1))])) (fun t9 k9 => XS.lloadN X0.here hx rfl (hb hby d6_48) rfl k9) ?_
  refine own_st (T' := T0) (g' := (mkF m 50 #[.val (.long (own_b5 q1)), .second] [(.long (own_b5 q1)), (.long (own_b5 q1))])) (fun t9 k9 => XS.lloadN X0.here hx rfl (hb hby d6_49) rfl k9) ?_
  refine own_st (T' := T0) (g' := (mkF m 52 #[.val (.long (own_b5 q1)), .second] [(.int (32 : Int32)), (.long (own_b5 q1)), (.long (own_b5 q1))])) (fun t9 k9 => XS.bipush X0.here hx rfl (hb hby d6_50) k9) ?_
  refine own_st (T' := T0) (g' := (mkF m 53 #[.val (.long (own_b5 q1)), .second] [(.long (((own_b5 q1).toUInt64 >>> ((32 : Int32) &&& 0x3f).toInt64.toUInt64).toInt64)), (.long (own_b5 q1))])) (fun t9 k9 => XS.lushr X0.here hx rfl (hb hby d6_52) rfl k9) ?_
  refine own_st (T' := T0) (g' := (mkF m 54 #[.val (.long (own_b5 q1)), .second] [(.long ((own_b5 q1) + (((own_b5 q1).toUInt64 >>> ((32 : Int32) &&& 0x3f).toInt64.toUInt64).toInt64)))])) (fun t9 k9 => XS.ladd X0.here hx rfl (hb hby d6_53) rfl k9) ?_
  refine own_st (T' := T0) (g' := (mkF m 55 #[.val (.long ((own_b5 q1) + (((own_b5 q1).toUInt64 >>> ((32 : Int32) &&& 0x3f).toInt64.toUInt64).toInt64))), .second] [])) (fun t9 k9 => XS.lstoreN X0.here hx rfl (hb hby d6_54) rfl (l' := #[.val (.long ((own_b5 q1) + (((own_b5 q1).toUInt64 >>> ((32 : Int32) &&& 0x3f).toInt64.toUInt64).toInt64))), .second]) rfl k9) ?_
  show own_Go p e below F T0 (mkF m 55 #[.val (.long (own_b6 q1)), .second] [])
  refine own_st (T' := T0) (g' := (mkF m 56 #[.val (.long (own_b6 q1)), .second] [(.long (own_b6 q1))])) (fun t9 k9 => XS.lloadN X0.here hx rfl (hb hby d6_55) rfl k9) ?_
  refine own_st (T' := T0) (g' := (mkF m 57 #[.val (.long (own_b6 q1)), .second] [(.int ((own_b6 q1).toInt32))])) (fun t9 k9 => XS.l2i X0.here hx rfl (hb hby d6_56) rfl k9) ?_
  refine own_st (T' := T0) (g' := (mkF m 59 #[.val (.long (own_b6 q1)), .second] [(.int (127 : Int32)), (.int ((own_b6 q1).toInt32))])) (fun t9 k9 => XS.bipush X0.here hx rfl (hb hby d6_57) k9) ?_
  refine own_st (T' := T0) (g' := (mkF m 60 #[.val (.long (own_b6 q1)), .second] [(.int (((own_b6 q1).toInt32) &&& (127 : Int32)))])) (fun t9 k9 => XS.iand X0.here hx rfl (hb hby d6_59) rfl k9) ?_
  refine own_ret (v := some (.int (((own_b6 q1).toInt32) &&& (127 : Int32)))) hF X0 (own_some hret) hlk (fun fs hr => retI X0 hx hret (hb hby d6_60) hr) ?_ (by decide) (by decide)
  try rw [e0]
  exact ⟨rfl, N0, rfl⟩
theorem d10_0 : decode prog_38_method_2_code 0 = .ok (.ldc2_w 9, 3) := by decide +kernel
theorem d10_3 : decode prog_38_method_2_code 3 = .ok (.lload_n 0, 1) := by decide +kernel
theorem d10_4 : decode prog_38_method_2_code 4 = .ok (.ladd, 1) := by decide +kernel
theorem d10_5 : decode prog_38_method_2_code 5 = .ok (.ldc2_w 11, 3) := by decide +kernel
theorem d10_8 : decode prog_38_method_2_code 8 = .ok (.ladd, 1) := by decide +kernel
theorem d10_9 : decode prog_38_method_2_code 9 = .ok (.lconst 1, 1) := by decide +kernel
theorem d10_10 : decode prog_38_method_2_code 10 = .ok (.lsub, 1) := by decide +kernel
theorem d10_11 : decode prog_38_method_2_code 11 = .ok (.ldc2_w 13, 3) := by decide +kernel
theorem d10_14 : decode prog_38_method_2_code 14 = .ok (.land, 1) := by decide +kernel
theorem d10_15 : decode prog_38_method_2_code 15 = .ok (.lstore_n 2, 1) := by decide +kernel
theorem d10_16 : decode prog_38_method_2_code 16 = .ok (.lload_n 2, 1) := by decide +kernel
theorem d10_17 : decode prog_38_method_2_code 17 = .ok (.ldc2_w 15, 3) := by decide +kernel
theorem d10_20 : decode prog_38_method_2_code 20 = .ok (.lcmp, 1) := by decide +kernel
theorem d10_21 : decode prog_38_method_2_code 21 = .ok (.ifCond .lt 11, 3) := by decide +kernel
theorem d10_24 : decode prog_38_method_2_code 24 = .ok (.ldc2_w 17, 3) := by decide +kernel
theorem d10_27 : decode prog_38_method_2_code 27 = .ok (.lload_n 2, 1) := by decide +kernel
theorem d10_28 : decode prog_38_method_2_code 28 = .ok (.lmul, 1) := by decide +kernel
theorem d10_29 : decode prog_38_method_2_code 29 = .ok (.goto 4, 3) := by decide +kernel
theorem d10_32 : decode prog_38_method_2_code 32 = .ok (.lload_n 2, 1) := by decide +kernel
theorem d10_33 : decode prog_38_method_2_code 33 = .ok (.lreturn, 1) := by decide +kernel
theorem pn_10 : plainFor (⟨"com/example/newsweave/newsweave/core/HeapSizes", "ofArray", "(J)J"⟩ : MethodName) = true := plainFor_of_name (by first | (simp [plainName, overriddenIn]; done) | decide +kernel)
set_option maxRecDepth 65536 in
set_option maxHeartbeats 40000000 in
theorem rm10 (l : Launch) (Z : State) (a0 : Array Value) (hw : ∀ d ∈ tables_1, d.before a0 Z = true) (q1 : Int64) (h0 : Heap) (n0 : Nat) (Z0 : n0 ≤ h0.size) (hp : own_pad q1 < 524288) :
    own_Met l Z (⟨"com/example/newsweave/newsweave/core/HeapSizes", "ofArray", "(J)J"⟩ : MethodName) prog_38_method_2_code 4 (some .long) ({ frames := 0, cells := 0, slots := 0, locals := 0 } : Room) #[(.long q1)] h0 (fun v h L => v = some (.long (own_pad q1)) ∧ Fr n0 L ∧ h = h0) := by
  refine own_body pn_10 ?_
  intro p e s m below meth c T0 hZ hx hby hml hown hnm hret hlk X0 e0 F hF
  have N0 := Fr.nil n0
  have K0 := Keep.refl h0 []
  refine own_cast (g' := (mkF m 0 #[.val (.long q1), .second, .unset, .unset] [])) (by first | (simp [entryFrame, mkF, argsToLocals, Value.category]; done) | rfl) ?_
  refine own_st (T' := T0) (g' := (mkF m 3 #[.val (.long q1), .second, .unset, .unset] [(.long (16 : Int64))])) (fun t9 k9 => X0.ldc2Long hx hown (mvT hZ (hw _ (List.mem_of_getElem? (i := 69) rfl))) (g := (mkF m 0 #[.val (.long q1), .second, .unset, .unset] [])) rfl (hb hby d10_0) t9 k9) ?_
  refine own_st (T' := T0) (g' := (mkF m 4 #[.val (.long q1), .second, .unset, .unset] [(.long q1), (.long (16 : Int64))])) (fun t9 k9 => XS.lloadN X0.here hx rfl (hb hby d10_3) rfl k9) ?_
  refine own_st (T' := T0) (g' := (mkF m 5 #[.val (.long q1), .second, .unset, .unset] [(.long ((16 : Int64) + q1))])) (fun t9 k9 => XS.ladd X0.here hx rfl (hb hby d10_4) rfl k9) ?_
  refine own_st (T' := T0) (g' := (mkF m 8 #[.val (.long q1), .second, .unset, .unset] [(.long (8 : Int64)), (.long ((16 : Int64) + q1))])) (fun t9 k9 => X0.ldc2Long hx hown (mvT hZ (hw _ (List.mem_of_getElem? (i := 70) rfl))) (g := (mkF m 5 #[.val (.long q1), .second, .unset, .unset] [(.long ((16 : Int64) + q1))])) rfl (hb hby d10_5) t9 k9) ?_
  refine own_st (T' := T0) (g' := (mkF m 9 #[.val (.long q1), .second, .unset, .unset] [(.long (((16 : Int64) + q1) + (8 : Int64)))])) (fun t9 k9 => XS.ladd X0.here hx rfl (hb hby d10_8) rfl k9) ?_
  refine own_st (T' := T0) (g' := (mkF m 10 #[.val (.long q1), .second, .unset, .unset] [(.long (1 : Int64)), (.long (((16 : Int64) + q1) + (8 : Int64)))])) (fun t9 k9 => XS.lconst X0.here hx rfl (hb hby d10_9) k9) ?_
  refine own_st (T' := T0) (g' := (mkF m 11 #[.val (.long q1), .second, .unset, .unset] [(.long ((((16 : Int64) + q1) + (8 : Int64)) - (1 : Int64)))])) (fun t9 k9 => XS.lsub X0.here hx rfl (hb hby d10_10) rfl k9) ?_
  refine own_st (T' := T0) (g' := (mkF m 14 #[.val (.long q1), .second, .unset, .unset] [(.long (-8 : Int64)), (.long ((((16 : Int64) + q1) + (8 : Int64)) - (1 : Int64)))])) (fun t9 k9 => X0.ldc2Long hx hown (mvT hZ (hw _ (List.mem_of_getElem? (i := 71) rfl))) (g := (mkF m 11 #[.val (.long q1), .second, .unset, .unset] [(.long ((((16 : Int64) + q1) + (8 : Int64)) - (1 : Int64)))])) rfl (hb hby d10_11) t9 k9) ?_
  refine own_st (T' := T0) (g' := (mkF m 15 #[.val (.long q1), .second, .unset, .unset] [(.long (((((16 : Int64) + q1) + (8 : Int64)) - (1 : Int64)) &&& (-8 : Int64)))])) (fun t9 k9 => XS.land X0.here hx rfl (hb hby d10_14) rfl k9) ?_
  refine own_st (T' := T0) (g' := (mkF m 16 #[.val (.long q1), .second, .val (.long (((((16 : Int64) + q1) + (8 : Int64)) - (1 : Int64)) &&& (-8 : Int64))), .second] [])) (fun t9 k9 => XS.lstoreN X0.here hx rfl (hb hby d10_15) rfl (l' := #[.val (.long q1), .second, .val (.long (((((16 : Int64) + q1) + (8 : Int64)) - (1 : Int64)) &&& (-8 : Int64))), .second]) rfl k9) ?_
  show own_Go p e below F T0 (mkF m 16 #[.val (.long q1), .second, .val (.long (own_pad q1)), .second] [])
  refine own_st (T' := T0) (g' := (mkF m 17 #[.val (.long q1), .second, .val (.long (own_pad q1)), .second] [(.long (own_pad q1))])) (fun t9 k9 => XS.lloadN X0.here hx rfl (hb hby d10_16) rfl k9) ?_
  refine own_st (T' := T0) (g' := (mkF m 20 #[.val (.long q1), .second, .val (.long (own_pad q1)), .second] [(.long (524288 : Int64)), (.long (own_pad q1))])) (fun t9 k9 => X0.ldc2Long hx hown (mvT hZ (hw _ (List.mem_of_getElem? (i := 72) rfl))) (g := (mkF m 17 #[.val (.long q1), .second, .val (.long (own_pad q1)), .second] [(.long (own_pad q1))])) rfl (hb hby d10_17) t9 k9) ?_
  refine own_st (T' := T0) (g' := (mkF m 21 #[.val (.long q1), .second, .val (.long (own_pad q1)), .second] [(.int (lcmpW (own_pad q1) (524288 : Int64)))])) (fun t9 k9 => XS.lcmp X0.here hx rfl (hb hby d10_20) rfl k9) ?_
  refine own_st (T' := T0) (g' := (mkF m 32 #[.val (.long q1), .second, .val (.long (own_pad q1)), .second] [])) (fun t9 k9 => XS.ifYes X0.here hx rfl (pc0 := 21) (pc' := 32) rfl (hb hby d10_21) rfl ((if0 _ _).trans (tlt ((lw_lt _ _).mpr hp : (lcmpW (own_pad q1) (524288 : Int64)) < (0 : Int32))).1) (by decide) (by decide) k9) ?_
  refine own_st (T' := T0) (g' := (mkF m 33 #[.val (.long q1), .second, .val (.long (own_pad q1)), .second] [(.long (own_pad q1))])) (fun t9 k9 => XS.lloadN X0.here hx rfl (hb hby d10_32) rfl k9) ?_
  refine own_ret (v := some (.long (own_pad q1))) hF X0 (own_some hret) hlk (fun fs hr => X0.lreturnOut hx hret (hb hby d10_33) hr) ?_ (by decide) (by decide)
  try rw [e0]
  exact ⟨rfl, N0, rfl⟩
theorem d8_0 : decode method_2_code 0 = .ok (.lload_n 0, 1) := by decide +kernel
theorem d8_1 : decode method_2_code 1 = .ok (.ldc2_w 7, 3) := by decide +kernel
theorem d8_4 : decode method_2_code 4 = .ok (.ladd, 1) := by decide +kernel
theorem d8_5 : decode method_2_code 5 = .ok (.ldc2_w 9, 3) := by decide +kernel
theorem d8_8 : decode method_2_code 8 = .ok (.ladd, 1) := by decide +kernel
theorem d8_9 : decode method_2_code 9 = .ok (.ldc2_w 11, 3) := by decide +kernel
theorem d8_12 : decode method_2_code 12 = .ok (.ldiv, 1) := by decide +kernel
theorem d8_13 : decode method_2_code 13 = .ok (.ldc2_w 11, 3) := by decide +kernel
theorem d8_16 : decode method_2_code 16 = .ok (.lmul, 1) := by decide +kernel
theorem d8_17 : decode method_2_code 17 = .ok (.lreturn, 1) := by decide +kernel
theorem pn_8 : plainFor (⟨"com/example/newsweave/newsweave/nas/PlaceRecordsHeapPinLaw", "pad", "(J)J"⟩ : MethodName) = true := plainFor_of_name (by first | (simp [plainName, overriddenIn]; done) | decide +kernel)
set_option maxRecDepth 65536 in
set_option maxHeartbeats 40000000 in
theorem rm8 (l : Launch) (Z : State) (a0 : Array Value) (hw : ∀ d ∈ tables_1, d.before a0 Z = true) (q1 : Int64) (h0 : Heap) (n0 : Nat) (Z0 : n0 ≤ h0.size)  :
    own_Met l Z (⟨"com/example/newsweave/newsweave/nas/PlaceRecordsHeapPinLaw", "pad", "(J)J"⟩ : MethodName) method_2_code 2 (some .long) ({ frames := 0, cells := 0, slots := 0, locals := 0 } : Room) #[(.long q1)] h0 (fun v h L => v = some (.long (own_pd q1)) ∧ Fr n0 L ∧ h = h0) := by
  refine own_body pn_8 ?_
  intro p e s m below meth c T0 hZ hx hby hml hown hnm hret hlk X0 e0 F hF
  have N0 := Fr.nil n0
  have K0 := Keep.refl h0 []
  refine own_cast (g' := (mkF m 0 #[.val (.long q1), .second] [])) (by first | (simp [entryFrame, mkF, argsToLocals, Value.category]; done) | rfl) ?_
  refine own_st (T' := T0) (g' := (mkF m 1 #[.val (.long q1), .second] [(.long q1)])) (fun t9 k9 => XS.lloadN X0.here hx rfl (hb hby d8_0) rfl k9) ?_
  refine own_st (T' := T0) (g' := (mkF m 4 #[.val (.long q1), .second] [(.long (16 : Int64)), (.long q1)])) (fun t9 k9 => X0.ldc2Long hx hown (mvT hZ (hw _ (List.mem_of_getElem? (i := 55) rfl))) (g := (mkF m 1 #[.val (.long q1), .second] [(.long q1)])) rfl (hb hby d8_1) t9 k9) ?_
  refine own_st (T' := T0) (g' := (mkF m 5 #[.val (.long q1), .second] [(.long (q1 + (16 : Int64)))])) (fun t9 k9 => XS.ladd X0.here hx rfl (hb hby d8_4) rfl k9) ?_
  refine own_st (T' := T0) (g' := (mkF m 8 #[.val (.long q1), .second] [(.long (7 : Int64)), (.long (q1 + (16 : Int64)))])) (fun t9 k9 => X0.ldc2Long hx hown (mvT hZ (hw _ (List.mem_of_getElem? (i := 56) rfl))) (g := (mkF m 5 #[.val (.long q1), .second] [(.long (q1 + (16 : Int64)))])) rfl (hb hby d8_5) t9 k9) ?_
  refine own_st (T' := T0) (g' := (mkF m 9 #[.val (.long q1), .second] [(.long ((q1 + (16 : Int64)) + (7 : Int64)))])) (fun t9 k9 => XS.ladd X0.here hx rfl (hb hby d8_8) rfl k9) ?_
  refine own_st (T' := T0) (g' := (mkF m 12 #[.val (.long q1), .second] [(.long (8 : Int64)), (.long ((q1 + (16 : Int64)) + (7 : Int64)))])) (fun t9 k9 => X0.ldc2Long hx hown (mvT hZ (hw _ (List.mem_of_getElem? (i := 57) rfl))) (g := (mkF m 9 #[.val (.long q1), .second] [(.long ((q1 + (16 : Int64)) + (7 : Int64)))])) rfl (hb hby d8_9) t9 k9) ?_
  refine own_st (T' := T0) (g' := (mkF m 13 #[.val (.long q1), .second] [(.long (((q1 + (16 : Int64)) + (7 : Int64)) / (8 : Int64)))])) (fun t9 k9 => XS.ldiv X0.here hx rfl (hb hby d8_12) rfl (by decide) k9) ?_
  refine own_st (T' := T0) (g' := (mkF m 16 #[.val (.long q1), .second] [(.long (8 : Int64)), (.long (((q1 + (16 : Int64)) + (7 : Int64)) / (8 : Int64)))])) (fun t9 k9 => X0.ldc2Long hx hown (mvT hZ (hw _ (List.mem_of_getElem? (i := 57) rfl))) (g := (mkF m 13 #[.val (.long q1), .second] [(.long (((q1 + (16 : Int64)) + (7 : Int64)) / (8 : Int64)))])) rfl (hb hby d8_13) t9 k9) ?_
  refine own_st (T' := T0) (g' := (mkF m 17 #[.val (.long q1), .second] [(.long ((((q1 + (16 : Int64)) + (7 : Int64)) / (8 : Int64)) * (8 : Int64)))])) (fun t9 k9 => XS.lmul X0.here hx rfl (hb hby d8_16) rfl k9) ?_
  refine own_ret (v := some (.long ((((q1 + (16 : Int64)) + (7 : Int64)) / (8 : Int64)) * (8 : Int64)))) hF X0 (own_some hret) hlk (fun fs hr => X0.lreturnOut hx hret (hb hby d8_17) hr) ?_ (by decide) (by decide)
  try rw [e0]
  exact ⟨rfl, N0, rfl⟩
theorem d11_0 : decode method_4_code 0 = .ok (.bipush 64, 2) := by decide +kernel
theorem d11_2 : decode method_4_code 2 = .ok (.newarray .int, 2) := by decide +kernel
theorem d11_4 : decode method_4_code 4 = .ok (.dup, 1) := by decide +kernel
theorem d11_5 : decode method_4_code 5 = .ok (.iconst 0, 1) := by decide +kernel
theorem d11_6 : decode method_4_code 6 = .ok (.iconst (-1), 1) := by decide +kernel
theorem d11_7 : decode method_4_code 7 = .ok (.iastore, 1) := by decide +kernel
theorem d11_8 : decode method_4_code 8 = .ok (.dup, 1) := by decide +kernel
theorem d11_9 : decode method_4_code 9 = .ok (.iconst 1, 1) := by decide +kernel
theorem d11_10 : decode method_4_code 10 = .ok (.iconst (-1), 1) := by decide +kernel
theorem d11_11 : decode method_4_code 11 = .ok (.iastore, 1) := by decide +kernel
theorem d11_12 : decode method_4_code 12 = .ok (.dup, 1) := by decide +kernel
theorem d11_13 : decode method_4_code 13 = .ok (.iconst 2, 1) := by decide +kernel
theorem d11_14 : decode method_4_code 14 = .ok (.iconst (-1), 1) := by decide +kernel
theorem d11_15 : decode method_4_code 15 = .ok (.iastore, 1) := by decide +kernel
theorem d11_16 : decode method_4_code 16 = .ok (.dup, 1) := by decide +kernel
theorem d11_17 : decode method_4_code 17 = .ok (.iconst 3, 1) := by decide +kernel
theorem d11_18 : decode method_4_code 18 = .ok (.iconst (-1), 1) := by decide +kernel
theorem d11_19 : decode method_4_code 19 = .ok (.iastore, 1) := by decide +kernel
theorem d11_20 : decode method_4_code 20 = .ok (.dup, 1) := by decide +kernel
theorem d11_21 : decode method_4_code 21 = .ok (.iconst 4, 1) := by decide +kernel
theorem d11_22 : decode method_4_code 22 = .ok (.iconst (-1), 1) := by decide +kernel
theorem d11_23 : decode method_4_code 23 = .ok (.iastore, 1) := by decide +kernel
theorem d11_24 : decode method_4_code 24 = .ok (.dup, 1) := by decide +kernel
theorem d11_25 : decode method_4_code 25 = .ok (.iconst 5, 1) := by decide +kernel
theorem d11_26 : decode method_4_code 26 = .ok (.iconst (-1), 1) := by decide +kernel
theorem d11_27 : decode method_4_code 27 = .ok (.iastore, 1) := by decide +kernel
theorem d11_28 : decode method_4_code 28 = .ok (.dup, 1) := by decide +kernel
theorem d11_29 : decode method_4_code 29 = .ok (.bipush 6, 2) := by decide +kernel
theorem d11_31 : decode method_4_code 31 = .ok (.iconst (-1), 1) := by decide +kernel
theorem d11_32 : decode method_4_code 32 = .ok (.iastore, 1) := by decide +kernel
theorem d11_33 : decode method_4_code 33 = .ok (.dup, 1) := by decide +kernel
theorem d11_34 : decode method_4_code 34 = .ok (.bipush 7, 2) := by decide +kernel
theorem d11_36 : decode method_4_code 36 = .ok (.iconst (-1), 1) := by decide +kernel
theorem d11_37 : decode method_4_code 37 = .ok (.iastore, 1) := by decide +kernel
theorem d11_38 : decode method_4_code 38 = .ok (.dup, 1) := by decide +kernel
theorem d11_39 : decode method_4_code 39 = .ok (.bipush 8, 2) := by decide +kernel
theorem d11_41 : decode method_4_code 41 = .ok (.iconst (-1), 1) := by decide +kernel
theorem d11_42 : decode method_4_code 42 = .ok (.iastore, 1) := by decide +kernel
theorem d11_43 : decode method_4_code 43 = .ok (.dup, 1) := by decide +kernel
theorem d11_44 : decode method_4_code 44 = .ok (.bipush 9, 2) := by decide +kernel
theorem d11_46 : decode method_4_code 46 = .ok (.iconst (-1), 1) := by decide +kernel
theorem d11_47 : decode method_4_code 47 = .ok (.iastore, 1) := by decide +kernel
theorem d11_48 : decode method_4_code 48 = .ok (.dup, 1) := by decide +kernel
theorem d11_49 : decode method_4_code 49 = .ok (.bipush 10, 2) := by decide +kernel
theorem d11_51 : decode method_4_code 51 = .ok (.iconst (-1), 1) := by decide +kernel
theorem d11_52 : decode method_4_code 52 = .ok (.iastore, 1) := by decide +kernel
theorem d11_53 : decode method_4_code 53 = .ok (.dup, 1) := by decide +kernel
theorem d11_54 : decode method_4_code 54 = .ok (.bipush 11, 2) := by decide +kernel
theorem d11_56 : decode method_4_code 56 = .ok (.iconst (-1), 1) := by decide +kernel
theorem d11_57 : decode method_4_code 57 = .ok (.iastore, 1) := by decide +kernel
theorem d11_58 : decode method_4_code 58 = .ok (.dup, 1) := by decide +kernel
theorem d11_59 : decode method_4_code 59 = .ok (.bipush 12, 2) := by decide +kernel
theorem d11_61 : decode method_4_code 61 = .ok (.iconst (-1), 1) := by decide +kernel
theorem d11_62 : decode method_4_code 62 = .ok (.iastore, 1) := by decide +kernel
theorem d11_63 : decode method_4_code 63 = .ok (.dup, 1) := by decide +kernel
theorem d11_64 : decode method_4_code 64 = .ok (.bipush 13, 2) := by decide +kernel
theorem d11_66 : decode method_4_code 66 = .ok (.iconst (-1), 1) := by decide +kernel
theorem d11_67 : decode method_4_code 67 = .ok (.iastore, 1) := by decide +kernel
theorem d11_68 : decode method_4_code 68 = .ok (.dup, 1) := by decide +kernel
theorem d11_69 : decode method_4_code 69 = .ok (.bipush 14, 2) := by decide +kernel
theorem d11_71 : decode method_4_code 71 = .ok (.iconst (-1), 1) := by decide +kernel
theorem d11_72 : decode method_4_code 72 = .ok (.iastore, 1) := by decide +kernel
theorem d11_73 : decode method_4_code 73 = .ok (.dup, 1) := by decide +kernel
theorem d11_74 : decode method_4_code 74 = .ok (.bipush 15, 2) := by decide +kernel
theorem d11_76 : decode method_4_code 76 = .ok (.iconst (-1), 1) := by decide +kernel
theorem d11_77 : decode method_4_code 77 = .ok (.iastore, 1) := by decide +kernel
theorem d11_78 : decode method_4_code 78 = .ok (.dup, 1) := by decide +kernel
theorem d11_79 : decode method_4_code 79 = .ok (.bipush 16, 2) := by decide +kernel
theorem d11_81 : decode method_4_code 81 = .ok (.iconst (-1), 1) := by decide +kernel
theorem d11_82 : decode method_4_code 82 = .ok (.iastore, 1) := by decide +kernel
theorem d11_83 : decode method_4_code 83 = .ok (.dup, 1) := by decide +kernel
theorem d11_84 : decode method_4_code 84 = .ok (.bipush 17, 2) := by decide +kernel
theorem d11_86 : decode method_4_code 86 = .ok (.iconst (-1), 1) := by decide +kernel
theorem d11_87 : decode method_4_code 87 = .ok (.iastore, 1) := by decide +kernel
theorem d11_88 : decode method_4_code 88 = .ok (.dup, 1) := by decide +kernel
theorem d11_89 : decode method_4_code 89 = .ok (.bipush 18, 2) := by decide +kernel
theorem d11_91 : decode method_4_code 91 = .ok (.iconst (-1), 1) := by decide +kernel
theorem d11_92 : decode method_4_code 92 = .ok (.iastore, 1) := by decide +kernel
theorem d11_93 : decode method_4_code 93 = .ok (.dup, 1) := by decide +kernel
theorem d11_94 : decode method_4_code 94 = .ok (.bipush 19, 2) := by decide +kernel
theorem d11_96 : decode method_4_code 96 = .ok (.iconst (-1), 1) := by decide +kernel
theorem d11_97 : decode method_4_code 97 = .ok (.iastore, 1) := by decide +kernel
theorem d11_98 : decode method_4_code 98 = .ok (.dup, 1) := by decide +kernel
theorem d11_99 : decode method_4_code 99 = .ok (.bipush 20, 2) := by decide +kernel
theorem d11_101 : decode method_4_code 101 = .ok (.iconst (-1), 1) := by decide +kernel
theorem d11_102 : decode method_4_code 102 = .ok (.iastore, 1) := by decide +kernel
theorem d11_103 : decode method_4_code 103 = .ok (.dup, 1) := by decide +kernel
theorem d11_104 : decode method_4_code 104 = .ok (.bipush 21, 2) := by decide +kernel
theorem d11_106 : decode method_4_code 106 = .ok (.iconst (-1), 1) := by decide +kernel
theorem d11_107 : decode method_4_code 107 = .ok (.iastore, 1) := by decide +kernel
theorem d11_108 : decode method_4_code 108 = .ok (.dup, 1) := by decide +kernel
theorem d11_109 : decode method_4_code 109 = .ok (.bipush 22, 2) := by decide +kernel
theorem d11_111 : decode method_4_code 111 = .ok (.iconst (-1), 1) := by decide +kernel
theorem d11_112 : decode method_4_code 112 = .ok (.iastore, 1) := by decide +kernel
theorem d11_113 : decode method_4_code 113 = .ok (.dup, 1) := by decide +kernel
theorem d11_114 : decode method_4_code 114 = .ok (.bipush 23, 2) := by decide +kernel
theorem d11_116 : decode method_4_code 116 = .ok (.iconst (-1), 1) := by decide +kernel
theorem d11_117 : decode method_4_code 117 = .ok (.iastore, 1) := by decide +kernel
theorem d11_118 : decode method_4_code 118 = .ok (.dup, 1) := by decide +kernel
theorem d11_119 : decode method_4_code 119 = .ok (.bipush 24, 2) := by decide +kernel
theorem d11_121 : decode method_4_code 121 = .ok (.iconst (-1), 1) := by decide +kernel
theorem d11_122 : decode method_4_code 122 = .ok (.iastore, 1) := by decide +kernel
theorem d11_123 : decode method_4_code 123 = .ok (.dup, 1) := by decide +kernel
theorem d11_124 : decode method_4_code 124 = .ok (.bipush 25, 2) := by decide +kernel
theorem d11_126 : decode method_4_code 126 = .ok (.iconst (-1), 1) := by decide +kernel
theorem d11_127 : decode method_4_code 127 = .ok (.iastore, 1) := by decide +kernel
theorem d11_128 : decode method_4_code 128 = .ok (.dup, 1) := by decide +kernel
theorem d11_129 : decode method_4_code 129 = .ok (.bipush 26, 2) := by decide +kernel
theorem d11_131 : decode method_4_code 131 = .ok (.iconst (-1), 1) := by decide +kernel
theorem d11_132 : decode method_4_code 132 = .ok (.iastore, 1) := by decide +kernel
theorem d11_133 : decode method_4_code 133 = .ok (.dup, 1) := by decide +kernel
theorem d11_134 : decode method_4_code 134 = .ok (.bipush 27, 2) := by decide +kernel
theorem d11_136 : decode method_4_code 136 = .ok (.iconst (-1), 1) := by decide +kernel
theorem d11_137 : decode method_4_code 137 = .ok (.iastore, 1) := by decide +kernel
theorem d11_138 : decode method_4_code 138 = .ok (.dup, 1) := by decide +kernel
theorem d11_139 : decode method_4_code 139 = .ok (.bipush 28, 2) := by decide +kernel
theorem d11_141 : decode method_4_code 141 = .ok (.iconst (-1), 1) := by decide +kernel
theorem d11_142 : decode method_4_code 142 = .ok (.iastore, 1) := by decide +kernel
theorem d11_143 : decode method_4_code 143 = .ok (.dup, 1) := by decide +kernel
theorem d11_144 : decode method_4_code 144 = .ok (.bipush 29, 2) := by decide +kernel
theorem d11_146 : decode method_4_code 146 = .ok (.iconst (-1), 1) := by decide +kernel
theorem d11_147 : decode method_4_code 147 = .ok (.iastore, 1) := by decide +kernel
theorem d11_148 : decode method_4_code 148 = .ok (.dup, 1) := by decide +kernel
theorem d11_149 : decode method_4_code 149 = .ok (.bipush 30, 2) := by decide +kernel
theorem d11_151 : decode method_4_code 151 = .ok (.iconst (-1), 1) := by decide +kernel
theorem d11_152 : decode method_4_code 152 = .ok (.iastore, 1) := by decide +kernel
theorem d11_153 : decode method_4_code 153 = .ok (.dup, 1) := by decide +kernel
theorem d11_154 : decode method_4_code 154 = .ok (.bipush 31, 2) := by decide +kernel
theorem d11_156 : decode method_4_code 156 = .ok (.iconst (-1), 1) := by decide +kernel
theorem d11_157 : decode method_4_code 157 = .ok (.iastore, 1) := by decide +kernel
theorem d11_158 : decode method_4_code 158 = .ok (.dup, 1) := by decide +kernel
theorem d11_159 : decode method_4_code 159 = .ok (.bipush 32, 2) := by decide +kernel
theorem d11_161 : decode method_4_code 161 = .ok (.iconst (-1), 1) := by decide +kernel
theorem d11_162 : decode method_4_code 162 = .ok (.iastore, 1) := by decide +kernel
theorem d11_163 : decode method_4_code 163 = .ok (.dup, 1) := by decide +kernel
theorem d11_164 : decode method_4_code 164 = .ok (.bipush 33, 2) := by decide +kernel
theorem d11_166 : decode method_4_code 166 = .ok (.iconst (-1), 1) := by decide +kernel
theorem d11_167 : decode method_4_code 167 = .ok (.iastore, 1) := by decide +kernel
theorem d11_168 : decode method_4_code 168 = .ok (.dup, 1) := by decide +kernel
theorem d11_169 : decode method_4_code 169 = .ok (.bipush 34, 2) := by decide +kernel
theorem d11_171 : decode method_4_code 171 = .ok (.iconst (-1), 1) := by decide +kernel
theorem d11_172 : decode method_4_code 172 = .ok (.iastore, 1) := by decide +kernel
theorem d11_173 : decode method_4_code 173 = .ok (.dup, 1) := by decide +kernel
theorem d11_174 : decode method_4_code 174 = .ok (.bipush 35, 2) := by decide +kernel
theorem d11_176 : decode method_4_code 176 = .ok (.iconst (-1), 1) := by decide +kernel
theorem d11_177 : decode method_4_code 177 = .ok (.iastore, 1) := by decide +kernel
theorem d11_178 : decode method_4_code 178 = .ok (.dup, 1) := by decide +kernel
theorem d11_179 : decode method_4_code 179 = .ok (.bipush 36, 2) := by decide +kernel
theorem d11_181 : decode method_4_code 181 = .ok (.iconst (-1), 1) := by decide +kernel
theorem d11_182 : decode method_4_code 182 = .ok (.iastore, 1) := by decide +kernel
theorem d11_183 : decode method_4_code 183 = .ok (.dup, 1) := by decide +kernel
theorem d11_184 : decode method_4_code 184 = .ok (.bipush 37, 2) := by decide +kernel
theorem d11_186 : decode method_4_code 186 = .ok (.iconst (-1), 1) := by decide +kernel
theorem d11_187 : decode method_4_code 187 = .ok (.iastore, 1) := by decide +kernel
theorem d11_188 : decode method_4_code 188 = .ok (.dup, 1) := by decide +kernel
theorem d11_189 : decode method_4_code 189 = .ok (.bipush 38, 2) := by decide +kernel
theorem d11_191 : decode method_4_code 191 = .ok (.iconst (-1), 1) := by decide +kernel
theorem d11_192 : decode method_4_code 192 = .ok (.iastore, 1) := by decide +kernel
theorem d11_193 : decode method_4_code 193 = .ok (.dup, 1) := by decide +kernel
theorem d11_194 : decode method_4_code 194 = .ok (.bipush 39, 2) := by decide +kernel
theorem d11_196 : decode method_4_code 196 = .ok (.iconst (-1), 1) := by decide +kernel
theorem d11_197 : decode method_4_code 197 = .ok (.iastore, 1) := by decide +kernel
theorem d11_198 : decode method_4_code 198 = .ok (.dup, 1) := by decide +kernel
theorem d11_199 : decode method_4_code 199 = .ok (.bipush 40, 2) := by decide +kernel
theorem d11_201 : decode method_4_code 201 = .ok (.iconst (-1), 1) := by decide +kernel
theorem d11_202 : decode method_4_code 202 = .ok (.iastore, 1) := by decide +kernel
theorem d11_203 : decode method_4_code 203 = .ok (.dup, 1) := by decide +kernel
theorem d11_204 : decode method_4_code 204 = .ok (.bipush 41, 2) := by decide +kernel
theorem d11_206 : decode method_4_code 206 = .ok (.iconst (-1), 1) := by decide +kernel
theorem d11_207 : decode method_4_code 207 = .ok (.iastore, 1) := by decide +kernel
theorem d11_208 : decode method_4_code 208 = .ok (.dup, 1) := by decide +kernel
theorem d11_209 : decode method_4_code 209 = .ok (.bipush 42, 2) := by decide +kernel
theorem d11_211 : decode method_4_code 211 = .ok (.iconst (-1), 1) := by decide +kernel
theorem d11_212 : decode method_4_code 212 = .ok (.iastore, 1) := by decide +kernel
theorem d11_213 : decode method_4_code 213 = .ok (.dup, 1) := by decide +kernel
theorem d11_214 : decode method_4_code 214 = .ok (.bipush 43, 2) := by decide +kernel
theorem d11_216 : decode method_4_code 216 = .ok (.iconst (-1), 1) := by decide +kernel
theorem d11_217 : decode method_4_code 217 = .ok (.iastore, 1) := by decide +kernel
theorem d11_218 : decode method_4_code 218 = .ok (.dup, 1) := by decide +kernel
theorem d11_219 : decode method_4_code 219 = .ok (.bipush 44, 2) := by decide +kernel
theorem d11_221 : decode method_4_code 221 = .ok (.iconst (-1), 1) := by decide +kernel
theorem d11_222 : decode method_4_code 222 = .ok (.iastore, 1) := by decide +kernel
theorem d11_223 : decode method_4_code 223 = .ok (.dup, 1) := by decide +kernel
theorem d11_224 : decode method_4_code 224 = .ok (.bipush 45, 2) := by decide +kernel
theorem d11_226 : decode method_4_code 226 = .ok (.iconst (-1), 1) := by decide +kernel
theorem d11_227 : decode method_4_code 227 = .ok (.iastore, 1) := by decide +kernel
theorem d11_228 : decode method_4_code 228 = .ok (.dup, 1) := by decide +kernel
theorem d11_229 : decode method_4_code 229 = .ok (.bipush 46, 2) := by decide +kernel
theorem d11_231 : decode method_4_code 231 = .ok (.iconst (-1), 1) := by decide +kernel
theorem d11_232 : decode method_4_code 232 = .ok (.iastore, 1) := by decide +kernel
theorem d11_233 : decode method_4_code 233 = .ok (.dup, 1) := by decide +kernel
theorem d11_234 : decode method_4_code 234 = .ok (.bipush 47, 2) := by decide +kernel
theorem d11_236 : decode method_4_code 236 = .ok (.iconst (-1), 1) := by decide +kernel
theorem d11_237 : decode method_4_code 237 = .ok (.iastore, 1) := by decide +kernel
theorem d11_238 : decode method_4_code 238 = .ok (.dup, 1) := by decide +kernel
theorem d11_239 : decode method_4_code 239 = .ok (.bipush 48, 2) := by decide +kernel
theorem d11_241 : decode method_4_code 241 = .ok (.iconst (-1), 1) := by decide +kernel
theorem d11_242 : decode method_4_code 242 = .ok (.iastore, 1) := by decide +kernel
theorem d11_243 : decode method_4_code 243 = .ok (.dup, 1) := by decide +kernel
theorem d11_244 : decode method_4_code 244 = .ok (.bipush 49, 2) := by decide +kernel
theorem d11_246 : decode method_4_code 246 = .ok (.iconst (-1), 1) := by decide +kernel
theorem d11_247 : decode method_4_code 247 = .ok (.iastore, 1) := by decide +kernel
theorem d11_248 : decode method_4_code 248 = .ok (.dup, 1) := by decide +kernel
theorem d11_249 : decode method_4_code 249 = .ok (.bipush 50, 2) := by decide +kernel
theorem d11_251 : decode method_4_code 251 = .ok (.iconst (-1), 1) := by decide +kernel
theorem d11_252 : decode method_4_code 252 = .ok (.iastore, 1) := by decide +kernel
theorem d11_253 : decode method_4_code 253 = .ok (.dup, 1) := by decide +kernel
theorem d11_254 : decode method_4_code 254 = .ok (.bipush 51, 2) := by decide +kernel
theorem d11_256 : decode method_4_code 256 = .ok (.iconst (-1), 1) := by decide +kernel
theorem d11_257 : decode method_4_code 257 = .ok (.iastore, 1) := by decide +kernel
theorem d11_258 : decode method_4_code 258 = .ok (.dup, 1) := by decide +kernel
theorem d11_259 : decode method_4_code 259 = .ok (.bipush 52, 2) := by decide +kernel
theorem d11_261 : decode method_4_code 261 = .ok (.iconst (-1), 1) := by decide +kernel
theorem d11_262 : decode method_4_code 262 = .ok (.iastore, 1) := by decide +kernel
theorem d11_263 : decode method_4_code 263 = .ok (.dup, 1) := by decide +kernel
theorem d11_264 : decode method_4_code 264 = .ok (.bipush 53, 2) := by decide +kernel
theorem d11_266 : decode method_4_code 266 = .ok (.iconst (-1), 1) := by decide +kernel
theorem d11_267 : decode method_4_code 267 = .ok (.iastore, 1) := by decide +kernel
theorem d11_268 : decode method_4_code 268 = .ok (.dup, 1) := by decide +kernel
theorem d11_269 : decode method_4_code 269 = .ok (.bipush 54, 2) := by decide +kernel
theorem d11_271 : decode method_4_code 271 = .ok (.iconst (-1), 1) := by decide +kernel
theorem d11_272 : decode method_4_code 272 = .ok (.iastore, 1) := by decide +kernel
theorem d11_273 : decode method_4_code 273 = .ok (.dup, 1) := by decide +kernel
theorem d11_274 : decode method_4_code 274 = .ok (.bipush 55, 2) := by decide +kernel
theorem d11_276 : decode method_4_code 276 = .ok (.iconst (-1), 1) := by decide +kernel
theorem d11_277 : decode method_4_code 277 = .ok (.iastore, 1) := by decide +kernel
theorem d11_278 : decode method_4_code 278 = .ok (.dup, 1) := by decide +kernel
theorem d11_279 : decode method_4_code 279 = .ok (.bipush 56, 2) := by decide +kernel
theorem d11_281 : decode method_4_code 281 = .ok (.iconst (-1), 1) := by decide +kernel
theorem d11_282 : decode method_4_code 282 = .ok (.iastore, 1) := by decide +kernel
theorem d11_283 : decode method_4_code 283 = .ok (.dup, 1) := by decide +kernel
theorem d11_284 : decode method_4_code 284 = .ok (.bipush 57, 2) := by decide +kernel
theorem d11_286 : decode method_4_code 286 = .ok (.iconst (-1), 1) := by decide +kernel
theorem d11_287 : decode method_4_code 287 = .ok (.iastore, 1) := by decide +kernel
theorem d11_288 : decode method_4_code 288 = .ok (.dup, 1) := by decide +kernel
theorem d11_289 : decode method_4_code 289 = .ok (.bipush 58, 2) := by decide +kernel
theorem d11_291 : decode method_4_code 291 = .ok (.iconst (-1), 1) := by decide +kernel
theorem d11_292 : decode method_4_code 292 = .ok (.iastore, 1) := by decide +kernel
theorem d11_293 : decode method_4_code 293 = .ok (.dup, 1) := by decide +kernel
theorem d11_294 : decode method_4_code 294 = .ok (.bipush 59, 2) := by decide +kernel
theorem d11_296 : decode method_4_code 296 = .ok (.iconst (-1), 1) := by decide +kernel
theorem d11_297 : decode method_4_code 297 = .ok (.iastore, 1) := by decide +kernel
theorem d11_298 : decode method_4_code 298 = .ok (.dup, 1) := by decide +kernel
theorem d11_299 : decode method_4_code 299 = .ok (.bipush 60, 2) := by decide +kernel
theorem d11_301 : decode method_4_code 301 = .ok (.iconst (-1), 1) := by decide +kernel
theorem d11_302 : decode method_4_code 302 = .ok (.iastore, 1) := by decide +kernel
theorem d11_303 : decode method_4_code 303 = .ok (.dup, 1) := by decide +kernel
theorem d11_304 : decode method_4_code 304 = .ok (.bipush 61, 2) := by decide +kernel
theorem d11_306 : decode method_4_code 306 = .ok (.iconst (-1), 1) := by decide +kernel
theorem d11_307 : decode method_4_code 307 = .ok (.iastore, 1) := by decide +kernel
theorem d11_308 : decode method_4_code 308 = .ok (.dup, 1) := by decide +kernel
theorem d11_309 : decode method_4_code 309 = .ok (.bipush 62, 2) := by decide +kernel
theorem d11_311 : decode method_4_code 311 = .ok (.iconst (-1), 1) := by decide +kernel
theorem d11_312 : decode method_4_code 312 = .ok (.iastore, 1) := by decide +kernel
theorem d11_313 : decode method_4_code 313 = .ok (.dup, 1) := by decide +kernel
theorem d11_314 : decode method_4_code 314 = .ok (.bipush 63, 2) := by decide +kernel
theorem d11_316 : decode method_4_code 316 = .ok (.iconst (-1), 1) := by decide +kernel
theorem d11_317 : decode method_4_code 317 = .ok (.iastore, 1) := by decide +kernel
theorem d11_318 : decode method_4_code 318 = .ok (.areturn, 1) := by decide +kernel
theorem pn_11 : plainFor (⟨"com/example/newsweave/newsweave/nas/PlaceRecordsHeapPinLaw", "sixtyFourNone", "()[I"⟩ : MethodName) = true := plainFor_of_name (by first | (simp [plainName, overriddenIn]; done) | decide +kernel)
set_option maxRecDepth 65536 in
set_option maxHeartbeats 40000000 in
theorem rm11 (l : Launch) (Z : State) (a0 : Array Value) (hw : ∀ d ∈ tables_1, d.before a0 Z = true)  (h0 : Heap) (n0 : Nat) (Z0 : n0 ≤ h0.size)  :
    own_Met l Z (⟨"com/example/newsweave/newsweave/nas/PlaceRecordsHeapPinLaw", "sixtyFourNone", "()[I"⟩ : MethodName) method_4_code 0 (some (.array .int)) ({ frames := 0, cells := 1, slots := 64, locals := 0 } : Room) #[] h0 (fun v h L => ∃ (b : Nat) (kb : ClassId), v = some (.ref b) ∧ Fr n0 L ∧ Keep h0 h [] ∧ h0.size ≤ b ∧ n0 ≤ b ∧ Arv Z h b kb .int (Int32.ofNat 64) (List.replicate 64 (.int (-1))) (.int 0)) := by
  refine own_body pn_11 ?_
  intro p e s m below meth c T0 hZ hx hby hml hown hnm hret hlk X0 e0 F hF
  have N0 := Fr.nil n0
  have K0 := Keep.refl h0 []
  refine own_cast (g' := (mkF m 0 #[] [])) (by first | (simp [entryFrame, mkF, argsToLocals, Value.category]; done) | rfl) ?_
  refine own_st (T' := T0) (g' := (mkF m 2 #[] [(.int (64 : Int32))])) (fun t9 k9 => XS.bipush X0.here hx rfl (hb hby d11_0) k9) ?_
  obtain ⟨T1, h1, k1, X1, e1, Ex1, A1, st1⟩ := newP X0 hx hZ (hw _ (List.mem_of_getElem? (i := 1) rfl)) e0 (g := (mkF m 2 #[] [(.int (64 : Int32))])) rfl (hb hby d11_2) rfl (by decide) (cap := 64) (by decide) (by decide) (by decide) (by decide)
  obtain ⟨b1, gb1⟩ : ∃ z, z = h0.size := ⟨_, rfl⟩
  have g_b1 : n0 ≤ b1 := gb1 ▸ Z0
  have sz_b1 : h0.size ≤ b1 := gb1 ▸ K0.1
  rw [← gb1] at A1 st1
  have K1 := K0.ext Ex1
  have Z1 : n0 ≤ h1.size := Nat.le_trans Z0 Ex1.1
  have V_b1 : Arv Z h1 b1 k1 .int (64 : Int32) (List.replicate 64 (Value.int (0 : Int32))) (.int (0 : Int32)) := (Arv.new A1 (by decide)).pad (pad_rep [] (.int (0 : Int32)) 64)
  refine own_st (T' := T1) (g' := (mkF m 4 #[] [(.ref b1)])) (fun t9 k9 => st1 t9 k9) ?_
  obtain ⟨vs0, Wv0, hU0⟩ : ∃ vs, Arv Z h1 b1 k1 .int (64 : Int32) vs (.int 0) ∧ own_U vs 64 0 (-1) := ⟨_, V_b1, own_U.zero (v := .int 0)⟩
  refine own_st (T' := T1) (g' := (mkF m 5 #[] [(.ref b1), (.ref b1)])) (fun t9 k9 => XS.dup X1.here hx rfl (hb hby d11_4) rfl rfl k9) ?_
  refine own_st (T' := T1) (g' := (mkF m 6 #[] [(.int (0 : Int32)), (.ref b1), (.ref b1)])) (fun t9 k9 => XS.iconst X1.here hx rfl (hb hby d11_5) k9) ?_
  refine own_st (T' := T1) (g' := (mkF m 7 #[] [(.int (-1 : Int32)), (.int (0 : Int32)), (.ref b1), (.ref b1)])) (fun t9 k9 => XS.iconst X1.here hx rfl (hb hby d11_6) k9) ?_
  obtain ⟨clu2, Aru2, qu2, Su2, Nu2, Hu2, Gu2⟩ := (id Wv0)
  obtain ⟨T3, h3, X3, e3, W3, st3⟩ := stI X1 hx hZ e1 Aru2 (j := (0 : Int32)) (inb_of Su2 ⟨by decide, by decide⟩) (g := (mkF m 7 #[] [(.int (-1 : Int32)), (.int (0 : Int32)), (.ref b1), (.ref b1)])) rfl rfl (hb hby d11_7)
  have Va3 := Arv.set Aru2 qu2 Su2 Nu2 Hu2 Gu2 rfl W3 0 rfl (by rw [hU0.1]; decide)
  have K3 := K1.wr W3 (Or.inr sz_b1)
  have N3 := Fr.snoc X3 N0 g_b1
  have Z3 : n0 ≤ h3.size := by rw [W3.size]; exact Z1
  refine own_st (T' := T3) (g' := (mkF m 8 #[] [(.ref b1)])) (fun t9 k9 => st3 t9 k9) ?_
  obtain ⟨vs1, Wv1, hU1⟩ : ∃ vs, Arv Z h3 b1 k1 .int (64 : Int32) vs (.int 0) ∧ own_U vs 64 1 (-1) := ⟨_, Va3, hU0.step (by decide)⟩
  refine own_st (T' := T3) (g' := (mkF m 9 #[] [(.ref b1), (.ref b1)])) (fun t9 k9 => XS.dup X3.here hx rfl (hb hby d11_8) rfl rfl k9) ?_
  refine own_st (T' := T3) (g' := (mkF m 10 #[] [(.int (1 : Int32)), (.ref b1), (.ref b1)])) (fun t9 k9 => XS.iconst X3.here hx rfl (hb hby d11_9) k9) ?_
  refine own_st (T' := T3) (g' := (mkF m 11 #[] [(.int (-1 : Int32)), (.int (1 : Int32)), (.ref b1), (.ref b1)])) (fun t9 k9 => XS.iconst X3.here hx rfl (hb hby d11_10) k9) ?_
  obtain ⟨clu4, Aru4, qu4, Su4, Nu4, Hu4, Gu4⟩ := (id Wv1)
  obtain ⟨T5, h5, X5, e5, W5, st5⟩ := stI X3 hx hZ e3 Aru4 (j := (1 : Int32)) (inb_of Su4 ⟨by decide, by decide⟩) (g := (mkF m 11 #[] [(.int (-1 : Int32)), (.int (1 : Int32)), (.ref b1), (.ref b1)])) rfl rfl (hb hby d11_11)
  have Va5 := Arv.set Aru4 qu4 Su4 Nu4 Hu4 Gu4 rfl W5 1 rfl (by rw [hU1.1]; decide)
  have K5 := K3.wr W5 (Or.inr sz_b1)
  have N5 := Fr.snoc X5 N3 g_b1
  have Z5 : n0 ≤ h5.size := by rw [W5.size]; exact Z3
  refine own_st (T' := T5) (g' := (mkF m 12 #[] [(.ref b1)])) (fun t9 k9 => st5 t9 k9) ?_
  obtain ⟨vs2, Wv2, hU2⟩ : ∃ vs, Arv Z h5 b1 k1 .int (64 : Int32) vs (.int 0) ∧ own_U vs 64 2 (-1) := ⟨_, Va5, hU1.step (by decide)⟩
  refine own_st (T' := T5) (g' := (mkF m 13 #[] [(.ref b1), (.ref b1)])) (fun t9 k9 => XS.dup X5.here hx rfl (hb hby d11_12) rfl rfl k9) ?_
  refine own_st (T' := T5) (g' := (mkF m 14 #[] [(.int (2 : Int32)), (.ref b1), (.ref b1)])) (fun t9 k9 => XS.iconst X5.here hx rfl (hb hby d11_13) k9) ?_
  refine own_st (T' := T5) (g' := (mkF m 15 #[] [(.int (-1 : Int32)), (.int (2 : Int32)), (.ref b1), (.ref b1)])) (fun t9 k9 => XS.iconst X5.here hx rfl (hb hby d11_14) k9) ?_
  obtain ⟨clu6, Aru6, qu6, Su6, Nu6, Hu6, Gu6⟩ := (id Wv2)
  obtain ⟨T7, h7, X7, e7, W7, st7⟩ := stI X5 hx hZ e5 Aru6 (j := (2 : Int32)) (inb_of Su6 ⟨by decide, by decide⟩) (g := (mkF m 15 #[] [(.int (-1 : Int32)), (.int (2 : Int32)), (.ref b1), (.ref b1)])) rfl rfl (hb hby d11_15)
  have Va7 := Arv.set Aru6 qu6 Su6 Nu6 Hu6 Gu6 rfl W7 2 rfl (by rw [hU2.1]; decide)
  have K7 := K5.wr W7 (Or.inr sz_b1)
  have N7 := Fr.snoc X7 N5 g_b1
  have Z7 : n0 ≤ h7.size := by rw [W7.size]; exact Z5
  refine own_st (T' := T7) (g' := (mkF m 16 #[] [(.ref b1)])) (fun t9 k9 => st7 t9 k9) ?_
  obtain ⟨vs3, Wv3, hU3⟩ : ∃ vs, Arv Z h7 b1 k1 .int (64 : Int32) vs (.int 0) ∧ own_U vs 64 3 (-1) := ⟨_, Va7, hU2.step (by decide)⟩
  refine own_st (T' := T7) (g' := (mkF m 17 #[] [(.ref b1), (.ref b1)])) (fun t9 k9 => XS.dup X7.here hx rfl (hb hby d11_16) rfl rfl k9) ?_
  refine own_st (T' := T7) (g' := (mkF m 18 #[] [(.int (3 : Int32)), (.ref b1), (.ref b1)])) (fun t9 k9 => XS.iconst X7.here hx rfl (hb hby d11_17) k9) ?_
  refine own_st (T' := T7) (g' := (mkF m 19 #[] [(.int (-1 : Int32)), (.int (3 : Int32)), (.ref b1), (.ref b1)])) (fun t9 k9 => XS.iconst X7.here hx rfl (hb hby d11_18) k9) ?_
  obtain ⟨clu8, Aru8, qu8, Su8, Nu8, Hu8, Gu8⟩ := (id Wv3)
  obtain ⟨T9, h9, X9, e9, W9, st9⟩ := stI X7 hx hZ e7 Aru8 (j := (3 : Int32)) (inb_of Su8 ⟨by decide, by decide⟩) (g := (mkF m 19 #[] [(.int (-1 : Int32)), (.int (3 : Int32)), (.ref b1), (.ref b1)])) rfl rfl (hb hby d11_19)
  have Va9 := Arv.set Aru8 qu8 Su8 Nu8 Hu8 Gu8 rfl W9 3 rfl (by rw [hU3.1]; decide)
  have K9 := K7.wr W9 (Or.inr sz_b1)
  have N9 := Fr.snoc X9 N7 g_b1
  have Z9 : n0 ≤ h9.size := by rw [W9.size]; exact Z7
  refine own_st (T' := T9) (g' := (mkF m 20 #[] [(.ref b1)])) (fun t9 k9 => st9 t9 k9) ?_
  obtain ⟨vs4, Wv4, hU4⟩ : ∃ vs, Arv Z h9 b1 k1 .int (64 : Int32) vs (.int 0) ∧ own_U vs 64 4 (-1) := ⟨_, Va9, hU3.step (by decide)⟩
  refine own_st (T' := T9) (g' := (mkF m 21 #[] [(.ref b1), (.ref b1)])) (fun t9 k9 => XS.dup X9.here hx rfl (hb hby d11_20) rfl rfl k9) ?_
  refine own_st (T' := T9) (g' := (mkF m 22 #[] [(.int (4 : Int32)), (.ref b1), (.ref b1)])) (fun t9 k9 => XS.iconst X9.here hx rfl (hb hby d11_21) k9) ?_
  refine own_st (T' := T9) (g' := (mkF m 23 #[] [(.int (-1 : Int32)), (.int (4 : Int32)), (.ref b1), (.ref b1)])) (fun t9 k9 => XS.iconst X9.here hx rfl (hb hby d11_22) k9) ?_
  obtain ⟨clu10, Aru10, qu10, Su10, Nu10, Hu10, Gu10⟩ := (id Wv4)
  obtain ⟨T11, h11, X11, e11, W11, st11⟩ := stI X9 hx hZ e9 Aru10 (j := (4 : Int32)) (inb_of Su10 ⟨by decide, by decide⟩) (g := (mkF m 23 #[] [(.int (-1 : Int32)), (.int (4 : Int32)), (.ref b1), (.ref b1)])) rfl rfl (hb hby d11_23)
  have Va11 := Arv.set Aru10 qu10 Su10 Nu10 Hu10 Gu10 rfl W11 4 rfl (by rw [hU4.1]; decide)
  have K11 := K9.wr W11 (Or.inr sz_b1)
  have N11 := Fr.snoc X11 N9 g_b1
  have Z11 : n0 ≤ h11.size := by rw [W11.size]; exact Z9
  refine own_st (T' := T11) (g' := (mkF m 24 #[] [(.ref b1)])) (fun t9 k9 => st11 t9 k9) ?_
  obtain ⟨vs5, Wv5, hU5⟩ : ∃ vs, Arv Z h11 b1 k1 .int (64 : Int32) vs (.int 0) ∧ own_U vs 64 5 (-1) := ⟨_, Va11, hU4.step (by decide)⟩
  refine own_st (T' := T11) (g' := (mkF m 25 #[] [(.ref b1), (.ref b1)])) (fun t9 k9 => XS.dup X11.here hx rfl (hb hby d11_24) rfl rfl k9) ?_
  refine own_st (T' := T11) (g' := (mkF m 26 #[] [(.int (5 : Int32)), (.ref b1), (.ref b1)])) (fun t9 k9 => XS.iconst X11.here hx rfl (hb hby d11_25) k9) ?_
  refine own_st (T' := T11) (g' := (mkF m 27 #[] [(.int (-1 : Int32)), (.int (5 : Int32)), (.ref b1), (.ref b1)])) (fun t9 k9 => XS.iconst X11.here hx rfl (hb hby d11_26) k9) ?_
  obtain ⟨clu12, Aru12, qu12, Su12, Nu12, Hu12, Gu12⟩ := (id Wv5)
  obtain ⟨T13, h13, X13, e13, W13, st13⟩ := stI X11 hx hZ e11 Aru12 (j := (5 : Int32)) (inb_of Su12 ⟨by decide, by decide⟩) (g := (mkF m 27 #[] [(.int (-1 : Int32)), (.int (5 : Int32)), (.ref b1), (.ref b1)])) rfl rfl (hb hby d11_27)
  have Va13 := Arv.set Aru12 qu12 Su12 Nu12 Hu12 Gu12 rfl W13 5 rfl (by rw [hU5.1]; decide)
  have K13 := K11.wr W13 (Or.inr sz_b1)
  have N13 := Fr.snoc X13 N11 g_b1
  have Z13 : n0 ≤ h13.size := by rw [W13.size]; exact Z11
  refine own_st (T' := T13) (g' := (mkF m 28 #[] [(.ref b1)])) (fun t9 k9 => st13 t9 k9) ?_
  obtain ⟨vs6, Wv6, hU6⟩ : ∃ vs, Arv Z h13 b1 k1 .int (64 : Int32) vs (.int 0) ∧ own_U vs 64 6 (-1) := ⟨_, Va13, hU5.step (by decide)⟩
  refine own_st (T' := T13) (g' := (mkF m 29 #[] [(.ref b1), (.ref b1)])) (fun t9 k9 => XS.dup X13.here hx rfl (hb hby d11_28) rfl rfl k9) ?_
  refine own_st (T' := T13) (g' := (mkF m 31 #[] [(.int (6 : Int32)), (.ref b1), (.ref b1)])) (fun t9 k9 => XS.bipush X13.here hx rfl (hb hby d11_29) k9) ?_
  refine own_st (T' := T13) (g' := (mkF m 32 #[] [(.int (-1 : Int32)), (.int (6 : Int32)), (.ref b1), (.ref b1)])) (fun t9 k9 => XS.iconst X13.here hx rfl (hb hby d11_31) k9) ?_
  obtain ⟨clu14, Aru14, qu14, Su14, Nu14, Hu14, Gu14⟩ := (id Wv6)
  obtain ⟨T15, h15, X15, e15, W15, st15⟩ := stI X13 hx hZ e13 Aru14 (j := (6 : Int32)) (inb_of Su14 ⟨by decide, by decide⟩) (g := (mkF m 32 #[] [(.int (-1 : Int32)), (.int (6 : Int32)), (.ref b1), (.ref b1)])) rfl rfl (hb hby d11_32)
  have Va15 := Arv.set Aru14 qu14 Su14 Nu14 Hu14 Gu14 rfl W15 6 rfl (by rw [hU6.1]; decide)
  have K15 := K13.wr W15 (Or.inr sz_b1)
  have N15 := Fr.snoc X15 N13 g_b1
  have Z15 : n0 ≤ h15.size := by rw [W15.size]; exact Z13
  refine own_st (T' := T15) (g' := (mkF m 33 #[] [(.ref b1)])) (fun t9 k9 => st15 t9 k9) ?_
  obtain ⟨vs7, Wv7, hU7⟩ : ∃ vs, Arv Z h15 b1 k1 .int (64 : Int32) vs (.int 0) ∧ own_U vs 64 7 (-1) := ⟨_, Va15, hU6.step (by decide)⟩
  refine own_st (T' := T15) (g' := (mkF m 34 #[] [(.ref b1), (.ref b1)])) (fun t9 k9 => XS.dup X15.here hx rfl (hb hby d11_33) rfl rfl k9) ?_
  refine own_st (T' := T15) (g' := (mkF m 36 #[] [(.int (7 : Int32)), (.ref b1), (.ref b1)])) (fun t9 k9 => XS.bipush X15.here hx rfl (hb hby d11_34) k9) ?_
  refine own_st (T' := T15) (g' := (mkF m 37 #[] [(.int (-1 : Int32)), (.int (7 : Int32)), (.ref b1), (.ref b1)])) (fun t9 k9 => XS.iconst X15.here hx rfl (hb hby d11_36) k9) ?_
  obtain ⟨clu16, Aru16, qu16, Su16, Nu16, Hu16, Gu16⟩ := (id Wv7)
  obtain ⟨T17, h17, X17, e17, W17, st17⟩ := stI X15 hx hZ e15 Aru16 (j := (7 : Int32)) (inb_of Su16 ⟨by decide, by decide⟩) (g := (mkF m 37 #[] [(.int (-1 : Int32)), (.int (7 : Int32)), (.ref b1), (.ref b1)])) rfl rfl (hb hby d11_37)
  have Va17 := Arv.set Aru16 qu16 Su16 Nu16 Hu16 Gu16 rfl W17 7 rfl (by rw [hU7.1]; decide)
  have K17 := K15.wr W17 (Or.inr sz_b1)
  have N17 := Fr.snoc X17 N15 g_b1
  have Z17 : n0 ≤ h17.size := by rw [W17.size]; exact Z15
  refine own_st (T' := T17) (g' := (mkF m 38 #[] [(.ref b1)])) (fun t9 k9 => st17 t9 k9) ?_
  obtain ⟨vs8, Wv8, hU8⟩ : ∃ vs, Arv Z h17 b1 k1 .int (64 : Int32) vs (.int 0) ∧ own_U vs 64 8 (-1) := ⟨_, Va17, hU7.step (by decide)⟩
  refine own_st (T' := T17) (g' := (mkF m 39 #[] [(.ref b1), (.ref b1)])) (fun t9 k9 => XS.dup X17.here hx rfl (hb hby d11_38) rfl rfl k9) ?_
  refine own_st (T' := T17) (g' := (mkF m 41 #[] [(.int (8 : Int32)), (.ref b1), (.ref b1)])) (fun t9 k9 => XS.bipush X17.here hx rfl (hb hby d11_39) k9) ?_
  refine own_st (T' := T17) (g' := (mkF m 42 #[] [(.int (-1 : Int32)), (.int (8 : Int32)), (.ref b1), (.ref b1)])) (fun t9 k9 => XS.iconst X17.here hx rfl (hb hby d11_41) k9) ?_
  obtain ⟨clu18, Aru18, qu18, Su18, Nu18, Hu18, Gu18⟩ := (id Wv8)
  obtain ⟨T19, h19, X19, e19, W19, st19⟩ := stI X17 hx hZ e17 Aru18 (j := (8 : Int32)) (inb_of Su18 ⟨by decide, by decide⟩) (g := (mkF m 42 #[] [(.int (-1 : Int32)), (.int (8 : Int32)), (.ref b1), (.ref b1)])) rfl rfl (hb hby d11_42)
  have Va19 := Arv.set Aru18 qu18 Su18 Nu18 Hu18 Gu18 rfl W19 8 rfl (by rw [hU8.1]; decide)
  have K19 := K17.wr W19 (Or.inr sz_b1)
  have N19 := Fr.snoc X19 N17 g_b1
  have Z19 : n0 ≤ h19.size := by rw [W19.size]; exact Z17
  refine own_st (T' := T19) (g' := (mkF m 43 #[] [(.ref b1)])) (fun t9 k9 => st19 t9 k9) ?_
  obtain ⟨vs9, Wv9, hU9⟩ : ∃ vs, Arv Z h19 b1 k1 .int (64 : Int32) vs (.int 0) ∧ own_U vs 64 9 (-1) := ⟨_, Va19, hU8.step (by decide)⟩
  refine own_st (T' := T19) (g' := (mkF m 44 #[] [(.ref b1), (.ref b1)])) (fun t9 k9 => XS.dup X19.here hx rfl (hb hby d11_43) rfl rfl k9) ?_
  refine own_st (T' := T19) (g' := (mkF m 46 #[] [(.int (9 : Int32)), (.ref b1), (.ref b1)])) (fun t9 k9 => XS.bipush X19.here hx rfl (hb hby d11_44) k9) ?_
  refine own_st (T' := T19) (g' := (mkF m 47 #[] [(.int (-1 : Int32)), (.int (9 : Int32)), (.ref b1), (.ref b1)])) (fun t9 k9 => XS.iconst X19.here hx rfl (hb hby d11_46) k9) ?_
  obtain ⟨clu20, Aru20, qu20, Su20, Nu20, Hu20, Gu20⟩ := (id Wv9)
  obtain ⟨T21, h21, X21, e21, W21, st21⟩ := stI X19 hx hZ e19 Aru20 (j := (9 : Int32)) (inb_of Su20 ⟨by decide, by decide⟩) (g := (mkF m 47 #[] [(.int (-1 : Int32)), (.int (9 : Int32)), (.ref b1), (.ref b1)])) rfl rfl (hb hby d11_47)
  have Va21 := Arv.set Aru20 qu20 Su20 Nu20 Hu20 Gu20 rfl W21 9 rfl (by rw [hU9.1]; decide)
  have K21 := K19.wr W21 (Or.inr sz_b1)
  have N21 := Fr.snoc X21 N19 g_b1
  have Z21 : n0 ≤ h21.size := by rw [W21.size]; exact Z19
  refine own_st (T' := T21) (g' := (mkF m 48 #[] [(.ref b1)])) (fun t9 k9 => st21 t9 k9) ?_
  obtain ⟨vs10, Wv10, hU10⟩ : ∃ vs, Arv Z h21 b1 k1 .int (64 : Int32) vs (.int 0) ∧ own_U vs 64 10 (-1) := ⟨_, Va21, hU9.step (by decide)⟩
  refine own_st (T' := T21) (g' := (mkF m 49 #[] [(.ref b1), (.ref b1)])) (fun t9 k9 => XS.dup X21.here hx rfl (hb hby d11_48) rfl rfl k9) ?_
  refine own_st (T' := T21) (g' := (mkF m 51 #[] [(.int (10 : Int32)), (.ref b1), (.ref b1)])) (fun t9 k9 => XS.bipush X21.here hx rfl (hb hby d11_49) k9) ?_
  refine own_st (T' := T21) (g' := (mkF m 52 #[] [(.int (-1 : Int32)), (.int (10 : Int32)), (.ref b1), (.ref b1)])) (fun t9 k9 => XS.iconst X21.here hx rfl (hb hby d11_51) k9) ?_
  obtain ⟨clu22, Aru22, qu22, Su22, Nu22, Hu22, Gu22⟩ := (id Wv10)
  obtain ⟨T23, h23, X23, e23, W23, st23⟩ := stI X21 hx hZ e21 Aru22 (j := (10 : Int32)) (inb_of Su22 ⟨by decide, by decide⟩) (g := (mkF m 52 #[] [(.int (-1 : Int32)), (.int (10 : Int32)), (.ref b1), (.ref b1)])) rfl rfl (hb hby d11_52)
  have Va23 := Arv.set Aru22 qu22 Su22 Nu22 Hu22 Gu22 rfl W23 10 rfl (by rw [hU10.1]; decide)
  have K23 := K21.wr W23 (Or.inr sz_b1)
  have N23 := Fr.snoc X23 N21 g_b1
  have Z23 : n0 ≤ h23.size := by rw [W23.size]; exact Z21
  refine own_st (T' := T23) (g' := (mkF m 53 #[] [(.ref b1)])) (fun t9 k9 => st23 t9 k9) ?_
  obtain ⟨vs11, Wv11, hU11⟩ : ∃ vs, Arv Z h23 b1 k1 .int (64 : Int32) vs (.int 0) ∧ own_U vs 64 11 (-1) := ⟨_, Va23, hU10.step (by decide)⟩
  refine own_st (T' := T23) (g' := (mkF m 54 #[] [(.ref b1), (.ref b1)])) (fun t9 k9 => XS.dup X23.here hx rfl (hb hby d11_53) rfl rfl k9) ?_
  refine own_st (T' := T23) (g' := (mkF m 56 #[] [(.int (11 : Int32)), (.ref b1), (.ref b1)])) (fun t9 k9 => XS.bipush X23.here hx rfl (hb hby d11_54) k9) ?_
  refine own_st (T' := T23) (g' := (mkF m 57 #[] [(.int (-1 : Int32)), (.int (11 : Int32)), (.ref b1), (.ref b1)])) (fun t9 k9 => XS.iconst X23.here hx rfl (hb hby d11_56) k9) ?_
  obtain ⟨clu24, Aru24, qu24, Su24, Nu24, Hu24, Gu24⟩ := (id Wv11)
  obtain ⟨T25, h25, X25, e25, W25, st25⟩ := stI X23 hx hZ e23 Aru24 (j := (11 : Int32)) (inb_of Su24 ⟨by decide, by decide⟩) (g := (mkF m 57 #[] [(.int (-1 : Int32)), (.int (11 : Int32)), (.ref b1), (.ref b1)])) rfl rfl (hb hby d11_57)
  have Va25 := Arv.set Aru24 qu24 Su24 Nu24 Hu24 Gu24 rfl W25 11 rfl (by rw [hU11.1]; decide)
  have K25 := K23.wr W25 (Or.inr sz_b1)
  have N25 := Fr.snoc X25 N23 g_b1
  have Z25 : n0 ≤ h25.size := by rw [W25.size]; exact Z23
  refine own_st (T' := T25) (g' := (mkF m 58 #[] [(.ref b1)])) (fun t9 k9 => st25 t9 k9) ?_
  obtain ⟨vs12, Wv12, hU12⟩ : ∃ vs, Arv Z h25 b1 k1 .int (64 : Int32) vs (.int 0) ∧ own_U vs 64 12 (-1) := ⟨_, Va25, hU11.step (by decide)⟩
  refine own_st (T' := T25) (g' := (mkF m 59 #[] [(.ref b1), (.ref b1)])) (fun t9 k9 => XS.dup X25.here hx rfl (hb hby d11_58) rfl rfl k9) ?_
  refine own_st (T' := T25) (g' := (mkF m 61 #[] [(.int (12 : Int32)), (.ref b1), (.ref b1)])) (fun t9 k9 => XS.bipush X25.here hx rfl (hb hby d11_59) k9) ?_
  refine own_st (T' := T25) (g' := (mkF m 62 #[] [(.int (-1 : Int32)), (.int (12 : Int32)), (.ref b1), (.ref b1)])) (fun t9 k9 => XS.iconst X25.here hx rfl (hb hby d11_61) k9) ?_
  obtain ⟨clu26, Aru26, qu26, Su26, Nu26, Hu26, Gu26⟩ := (id Wv12)
  obtain ⟨T27, h27, X27, e27, W27, st27⟩ := stI X25 hx hZ e25 Aru26 (j := (12 : Int32)) (inb_of Su26 ⟨by decide, by decide⟩) (g := (mkF m 62 #[] [(.int (-1 : Int32)), (.int (12 : Int32)), (.ref b1), (.ref b1)])) rfl rfl (hb hby d11_62)
  have Va27 := Arv.set Aru26 qu26 Su26 Nu26 Hu26 Gu26 rfl W27 12 rfl (by rw [hU12.1]; decide)
  have K27 := K25.wr W27 (Or.inr sz_b1)
  have N27 := Fr.snoc X27 N25 g_b1
  have Z27 : n0 ≤ h27.size := by rw [W27.size]; exact Z25
  refine own_st (T' := T27) (g' := (mkF m 63 #[] [(.ref b1)])) (fun t9 k9 => st27 t9 k9) ?_
  obtain ⟨vs13, Wv13, hU13⟩ : ∃ vs, Arv Z h27 b1 k1 .int (64 : Int32) vs (.int 0) ∧ own_U vs 64 13 (-1) := ⟨_, Va27, hU12.step (by decide)⟩
  refine own_st (T' := T27) (g' := (mkF m 64 #[] [(.ref b1), (.ref b1)])) (fun t9 k9 => XS.dup X27.here hx rfl (hb hby d11_63) rfl rfl k9) ?_
  refine own_st (T' := T27) (g' := (mkF m 66 #[] [(.int (13 : Int32)), (.ref b1), (.ref b1)])) (fun t9 k9 => XS.bipush X27.here hx rfl (hb hby d11_64) k9) ?_
  refine own_st (T' := T27) (g' := (mkF m 67 #[] [(.int (-1 : Int32)), (.int (13 : Int32)), (.ref b1), (.ref b1)])) (fun t9 k9 => XS.iconst X27.here hx rfl (hb hby d11_66) k9) ?_
  obtain ⟨clu28, Aru28, qu28, Su28, Nu28, Hu28, Gu28⟩ := (id Wv13)
  obtain ⟨T29, h29, X29, e29, W29, st29⟩ := stI X27 hx hZ e27 Aru28 (j := (13 : Int32)) (inb_of Su28 ⟨by decide, by decide⟩) (g := (mkF m 67 #[] [(.int (-1 : Int32)), (.int (13 : Int32)), (.ref b1), (.ref b1)])) rfl rfl (hb hby d11_67)
  have Va29 := Arv.set Aru28 qu28 Su28 Nu28 Hu28 Gu28 rfl W29 13 rfl (by rw [hU13.1]; decide)
  have K29 := K27.wr W29 (Or.inr sz_b1)
  have N29 := Fr.snoc X29 N27 g_b1
  have Z29 : n0 ≤ h29.size := by rw [W29.size]; exact Z27
  refine own_st (T' := T29) (g' := (mkF m 68 #[] [(.ref b1)])) (fun t9 k9 => st29 t9 k9) ?_
  obtain ⟨vs14, Wv14, hU14⟩ : ∃ vs, Arv Z h29 b1 k1 .int (64 : Int32) vs (.int 0) ∧ own_U vs 64 14 (-1) := ⟨_, Va29, hU13.step (by decide)⟩
  refine own_st (T' := T29) (g' := (mkF m 69 #[] [(.ref b1), (.ref b1)])) (fun t9 k9 => XS.dup X29.here hx rfl (hb hby d11_68) rfl rfl k9) ?_
  refine own_st (T' := T29) (g' := (mkF m 71 #[] [(.int (14 : Int32)), (.ref b1), (.ref b1)])) (fun t9 k9 => XS.bipush X29.here hx rfl (hb hby d11_69) k9) ?_
  refine own_st (T' := T29) (g' := (mkF m 72 #[] [(.int (-1 : Int32)), (.int (14 : Int32)), (.ref b1), (.ref b1)])) (fun t9 k9 => XS.iconst X29.here hx rfl (hb hby d11_71) k9) ?_
  obtain ⟨clu30, Aru30, qu30, Su30, Nu30, Hu30, Gu30⟩ := (id Wv14)
  obtain ⟨T31, h31, X31, e31, W31, st31⟩ := stI X29 hx hZ e29 Aru30 (j := (14 : Int32)) (inb_of Su30 ⟨by decide, by decide⟩) (g := (mkF m 72 #[] [(.int (-1 : Int32)), (.int (14 : Int32)), (.ref b1), (.ref b1)])) rfl rfl (hb hby d11_72)
  have Va31 := Arv.set Aru30 qu30 Su30 Nu30 Hu30 Gu30 rfl W31 14 rfl (by rw [hU14.1]; decide)
  have K31 := K29.wr W31 (Or.inr sz_b1)
  have N31 := Fr.snoc X31 N29 g_b1
  have Z31 : n0 ≤ h31.size := by rw [W31.size]; exact Z29
  refine own_st (T' := T31) (g' := (mkF m 73 #[] [(.ref b1)])) (fun t9 k9 => st31 t9 k9) ?_
  obtain ⟨vs15, Wv15, hU15⟩ : ∃ vs, Arv Z h31 b1 k1 .int (64 : Int32) vs (.int 0) ∧ own_U vs 64 15 (-1) := ⟨_, Va31, hU14.step (by decide)⟩
  refine own_st (T' := T31) (g' := (mkF m 74 #[] [(.ref b1), (.ref b1)])) (fun t9 k9 => XS.dup X31.here hx rfl (hb hby d11_73) rfl rfl k9) ?_
  refine own_st (T' := T31) (g' := (mkF m 76 #[] [(.int (15 : Int32)), (.ref b1), (.ref b1)])) (fun t9 k9 => XS.bipush X31.here hx rfl (hb hby d11_74) k9) ?_
  refine own_st (T' := T31) (g' := (mkF m 77 #[] [(.int (-1 : Int32)), (.int (15 : Int32)), (.ref b1), (.ref b1)])) (fun t9 k9 => XS.iconst X31.here hx rfl (hb hby d11_76) k9) ?_
  obtain ⟨clu32, Aru32, qu32, Su32, Nu32, Hu32, Gu32⟩ := (id Wv15)
  obtain ⟨T33, h33, X33, e33, W33, st33⟩ := stI X31 hx hZ e31 Aru32 (j := (15 : Int32)) (inb_of Su32 ⟨by decide, by decide⟩) (g := (mkF m 77 #[] [(.int (-1 : Int32)), (.int (15 : Int32)), (.ref b1), (.ref b1)])) rfl rfl (hb hby d11_77)
  have Va33 := Arv.set Aru32 qu32 Su32 Nu32 Hu32 Gu32 rfl W33 15 rfl (by rw [hU15.1]; decide)
  have K33 := K31.wr W33 (Or.inr sz_b1)
  have N33 := Fr.snoc X33 N31 g_b1
  have Z33 : n0 ≤ h33.size := by rw [W33.size]; exact Z31
  refine own_st (T' := T33) (g' := (mkF m 78 #[] [(.ref b1)])) (fun t9 k9 => st33 t9 k9) ?_
  obtain ⟨vs16, Wv16, hU16⟩ : ∃ vs, Arv Z h33 b1 k1 .int (64 : Int32) vs (.int 0) ∧ own_U vs 64 16 (-1) := ⟨_, Va33, hU15.step (by decide)⟩
  refine own_st (T' := T33) (g' := (mkF m 79 #[] [(.ref b1), (.ref b1)])) (fun t9 k9 => XS.dup X33.here hx rfl (hb hby d11_78) rfl rfl k9) ?_
  refine own_st (T' := T33) (g' := (mkF m 81 #[] [(.int (16 : Int32)), (.ref b1), (.ref b1)])) (fun t9 k9 => XS.bipush X33.here hx rfl (hb hby d11_79) k9) ?_
  refine own_st (T' := T33) (g' := (mkF m 82 #[] [(.int (-1 : Int32)), (.int (16 : Int32)), (.ref b1), (.ref b1)])) (fun t9 k9 => XS.iconst X33.here hx rfl (hb hby d11_81) k9) ?_
  obtain ⟨clu34, Aru34, qu34, Su34, Nu34, Hu34, Gu34⟩ := (id Wv16)
  obtain ⟨T35, h35, X35, e35, W35, st35⟩ := stI X33 hx hZ e33 Aru34 (j := (16 : Int32)) (inb_of Su34 ⟨by decide, by decide⟩) (g := (mkF m 82 #[] [(.int (-1 : Int32)), (.int (16 : Int32)), (.ref b1), (.ref b1)])) rfl rfl (hb hby d11_82)
  have Va35 := Arv.set Aru34 qu34 Su34 Nu34 Hu34 Gu34 rfl W35 16 rfl (by rw [hU16.1]; decide)
  have K35 := K33.wr W35 (Or.inr sz_b1)
  have N35 := Fr.snoc X35 N33 g_b1
  have Z35 : n0 ≤ h35.size := by rw [W35.size]; exact Z33
  refine own_st (T' := T35) (g' := (mkF m 83 #[] [(.ref b1)])) (fun t9 k9 => st35 t9 k9) ?_
  obtain ⟨vs17, Wv17, hU17⟩ : ∃ vs, Arv Z h35 b1 k1 .int (64 : Int32) vs (.int 0) ∧ own_U vs 64 17 (-1) := ⟨_, Va35, hU16.step (by decide)⟩
  refine own_st (T' := T35) (g' := (mkF m 84 #[] [(.ref b1), (.ref b1)])) (fun t9 k9 => XS.dup X35.here hx rfl (hb hby d11_83) rfl rfl k9) ?_
  refine own_st (T' := T35) (g' := (mkF m 86 #[] [(.int (17 : Int32)), (.ref b1), (.ref b1)])) (fun t9 k9 => XS.bipush X35.here hx rfl (hb hby d11_84) k9) ?_
  refine own_st (T' := T35) (g' := (mkF m 87 #[] [(.int (-1 : Int32)), (.int (17 : Int32)), (.ref b1), (.ref b1)])) (fun t9 k9 => XS.iconst X35.here hx rfl (hb hby d11_86) k9) ?_
  obtain ⟨clu36, Aru36, qu36, Su36, Nu36, Hu36, Gu36⟩ := (id Wv17)
  obtain ⟨T37, h37, X37, e37, W37, st37⟩ := stI X35 hx hZ e35 Aru36 (j := (17 : Int32)) (inb_of Su36 ⟨by decide, by decide⟩) (g := (mkF m 87 #[] [(.int (-1 : Int32)), (.int (17 : Int32)), (.ref b1), (.ref b1)])) rfl rfl (hb hby d11_87)
  have Va37 := Arv.set Aru36 qu36 Su36 Nu36 Hu36 Gu36 rfl W37 17 rfl (by rw [hU17.1]; decide)
  have K37 := K35.wr W37 (Or.inr sz_b1)
  have N37 := Fr.snoc X37 N35 g_b1
  have Z37 : n0 ≤ h37.size := by rw [W37.size]; exact Z35
  refine own_st (T' := T37) (g' := (mkF m 88 #[] [(.ref b1)])) (fun t9 k9 => st37 t9 k9) ?_
  obtain ⟨vs18, Wv18, hU18⟩ : ∃ vs, Arv Z h37 b1 k1 .int (64 : Int32) vs (.int 0) ∧ own_U vs 64 18 (-1) := ⟨_, Va37, hU17.step (by decide)⟩
  refine own_st (T' := T37) (g' := (mkF m 89 #[] [(.ref b1), (.ref b1)])) (fun t9 k9 => XS.dup X37.here hx rfl (hb hby d11_88) rfl rfl k9) ?_
  refine own_st (T' := T37) (g' := (mkF m 91 #[] [(.int (18 : Int32)), (.ref b1), (.ref b1)])) (fun t9 k9 => XS.bipush X37.here hx rfl (hb hby d11_89) k9) ?_
  refine own_st (T' := T37) (g' := (mkF m 92 #[] [(.int (-1 : Int32)), (.int (18 : Int32)), (.ref b1), (.ref b1)])) (fun t9 k9 => XS.iconst X37.here hx rfl (hb hby d11_91) k9) ?_
  obtain ⟨clu38, Aru38, qu38, Su38, Nu38, Hu38, Gu38⟩ := (id Wv18)
  obtain ⟨T39, h39, X39, e39, W39, st39⟩ := stI X37 hx hZ e37 Aru38 (j := (18 : Int32)) (inb_of Su38 ⟨by decide, by decide⟩) (g := (mkF m 92 #[] [(.int (-1 : Int32)), (.int (18 : Int32)), (.ref b1), (.ref b1)])) rfl rfl (hb hby d11_92)
  have Va39 := Arv.set Aru38 qu38 Su38 Nu38 Hu38 Gu38 rfl W39 18 rfl (by rw [hU18.1]; decide)
  have K39 := K37.wr W39 (Or.inr sz_b1)
  have N39 := Fr.snoc X39 N37 g_b1
  have Z39 : n0 ≤ h39.size := by rw [W39.size]; exact Z37
  refine own_st (T' := T39) (g' := (mkF m 93 #[] [(.ref b1)])) (fun t9 k9 => st39 t9 k9) ?_
  obtain ⟨vs19, Wv19, hU19⟩ : ∃ vs, Arv Z h39 b1 k1 .int (64 : Int32) vs (.int 0) ∧ own_U vs 64 19 (-1) := ⟨_, Va39, hU18.step (by decide)⟩
  refine own_st (T' := T39) (g' := (mkF m 94 #[] [(.ref b1), (.ref b1)])) (fun t9 k9 => XS.dup X39.here hx rfl (hb hby d11_93) rfl rfl k9) ?_
  refine own_st (T' := T39) (g' := (mkF m 96 #[] [(.int (19 : Int32)), (.ref b1), (.ref b1)])) (fun t9 k9 => XS.bipush X39.here hx rfl (hb hby d11_94) k9) ?_
  refine own_st (T' := T39) (g' := (mkF m 97 #[] [(.int (-1 : Int32)), (.int (19 : Int32)), (.ref b1), (.ref b1)])) (fun t9 k9 => XS.iconst X39.here hx rfl (hb hby d11_96) k9) ?_
  obtain ⟨clu40, Aru40, qu40, Su40, Nu40, Hu40, Gu40⟩ := (id Wv19)
  obtain ⟨T41, h41, X41, e41, W41, st41⟩ := stI X39 hx hZ e39 Aru40 (j := (19 : Int32)) (inb_of Su40 ⟨by decide, by decide⟩) (g := (mkF m 97 #[] [(.int (-1 : Int32)), (.int (19 : Int32)), (.ref b1), (.ref b1)])) rfl rfl (hb hby d11_97)
  have Va41 := Arv.set Aru40 qu40 Su40 Nu40 Hu40 Gu40 rfl W41 19 rfl (by rw [hU19.1]; decide)
  have K41 := K39.wr W41 (Or.inr sz_b1)
  have N41 := Fr.snoc X41 N39 g_b1
  have Z41 : n0 ≤ h41.size := by rw [W41.size]; exact Z39
  refine own_st (T' := T41) (g' := (mkF m 98 #[] [(.ref b1)])) (fun t9 k9 => st41 t9 k9) ?_
  obtain ⟨vs20, Wv20, hU20⟩ : ∃ vs, Arv Z h41 b1 k1 .int (64 : Int32) vs (.int 0) ∧ own_U vs 64 20 (-1) := ⟨_, Va41, hU19.step (by decide)⟩
  refine own_st (T' := T41) (g' := (mkF m 99 #[] [(.ref b1), (.ref b1)])) (fun t9 k9 => XS.dup X41.here hx rfl (hb hby d11_98) rfl rfl k9) ?_
  refine own_st (T' := T41) (g' := (mkF m 101 #[] [(.int (20 : Int32)), (.ref b1), (.ref b1)])) (fun t9 k9 => XS.bipush X41.here hx rfl (hb hby d11_99) k9) ?_
  refine own_st (T' := T41) (g' := (mkF m 102 #[] [(.int (-1 : Int32)), (.int (20 : Int32)), (.ref b1), (.ref b1)])) (fun t9 k9 => XS.iconst X41.here hx rfl (hb hby d11_101) k9) ?_
  obtain ⟨clu42, Aru42, qu42, Su42, Nu42, Hu42, Gu42⟩ := (id Wv20)
  obtain ⟨T43, h43, X43, e43, W43, st43⟩ := stI X41 hx hZ e41 Aru42 (j := (20 : Int32)) (inb_of Su42 ⟨by decide, by decide⟩) (g := (mkF m 102 #[] [(.int (-1 : Int32)), (.int (20 : Int32)), (.ref b1), (.ref b1)])) rfl rfl (hb hby d11_102)
  have Va43 := Arv.set Aru42 qu42 Su42 Nu42 Hu42 Gu42 rfl W43 20 rfl (by rw [hU20.1]; decide)
  have K43 := K41.wr W43 (Or.inr sz_b1)
  have N43 := Fr.snoc X43 N41 g_b1
  have Z43 : n0 ≤ h43.size := by rw [W43.size]; exact Z41
  refine own_st (T' := T43) (g' := (mkF m 103 #[] [(.ref b1)])) (fun t9 k9 => st43 t9 k9) ?_
  obtain ⟨vs21, Wv21, hU21⟩ : ∃ vs, Arv Z h43 b1 k1 .int (64 : Int32) vs (.int 0) ∧ own_U vs 64 21 (-1) := ⟨_, Va43, hU20.step (by decide)⟩
  refine own_st (T' := T43) (g' := (mkF m 104 #[] [(.ref b1), (.ref b1)])) (fun t9 k9 => XS.dup X43.here hx rfl (hb hby d11_103) rfl rfl k9) ?_
  refine own_st (T' := T43) (g' := (mkF m 106 #[] [(.int (21 : Int32)), (.ref b1), (.ref b1)])) (fun t9 k9 => XS.bipush X43.here hx rfl (hb hby d11_104) k9) ?_
  refine own_st (T' := T43) (g' := (mkF m 107 #[] [(.int (-1 : Int32)), (.int (21 : Int32)), (.ref b1), (.ref b1)])) (fun t9 k9 => XS.iconst X43.here hx rfl (hb hby d11_106) k9) ?_
  obtain ⟨clu44, Aru44, qu44, Su44, Nu44, Hu44, Gu44⟩ := (id Wv21)
  obtain ⟨T45, h45, X45, e45, W45, st45⟩ := stI X43 hx hZ e43 Aru44 (j := (21 : Int32)) (inb_of Su44 ⟨by decide, by decide⟩) (g := (mkF m 107 #[] [(.int (-1 : Int32)), (.int (21 : Int32)), (.ref b1), (.ref b1)])) rfl rfl (hb hby d11_107)
  have Va45 := Arv.set Aru44 qu44 Su44 Nu44 Hu44 Gu44 rfl W45 21 rfl (by rw [hU21.1]; decide)
  have K45 := K43.wr W45 (Or.inr sz_b1)
  have N45 := Fr.snoc X45 N43 g_b1
  have Z45 : n0 ≤ h45.size := by rw [W45.size]; exact Z43
  refine own_st (T' := T45) (g' := (mkF m 108 #[] [(.ref b1)])) (fun t9 k9 => st45 t9 k9) ?_
  obtain ⟨vs22, Wv22, hU22⟩ : ∃ vs, Arv Z h45 b1 k1 .int (64 : Int32) vs (.int 0) ∧ own_U vs 64 22 (-1) := ⟨_, Va45, hU21.step (by decide)⟩
  refine own_st (T' := T45) (g' := (mkF m 109 #[] [(.ref b1), (.ref b1)])) (fun t9 k9 => XS.dup X45.here hx rfl (hb hby d11_108) rfl rfl k9) ?_
  refine own_st (T' := T45) (g' := (mkF m 111 #[] [(.int (22 : Int32)), (.ref b1), (.ref b1)])) (fun t9 k9 => XS.bipush X45.here hx rfl (hb hby d11_109) k9) ?_
  refine own_st (T' := T45) (g' := (mkF m 112 #[] [(.int (-1 : Int32)), (.int (22 : Int32)), (.ref b1), (.ref b1)])) (fun t9 k9 => XS.iconst X45.here hx rfl (hb hby d11_111) k9) ?_
  obtain ⟨clu46, Aru46, qu46, Su46, Nu46, Hu46, Gu46⟩ := (id Wv22)
  obtain ⟨T47, h47, X47, e47, W47, st47⟩ := stI X45 hx hZ e45 Aru46 (j := (22 : Int32)) (inb_of Su46 ⟨by decide, by decide⟩) (g := (mkF m 112 #[] [(.int (-1 : Int32)), (.int (22 : Int32)), (.ref b1), (.ref b1)])) rfl rfl (hb hby d11_112)
  have Va47 := Arv.set Aru46 qu46 Su46 Nu46 Hu46 Gu46 rfl W47 22 rfl (by rw [hU22.1]; decide)
  have K47 := K45.wr W47 (Or.inr sz_b1)
  have N47 := Fr.snoc X47 N45 g_b1
  have Z47 : n0 ≤ h47.size := by rw [W47.size]; exact Z45
  refine own_st (T' := T47) (g' := (mkF m 113 #[] [(.ref b1)])) (fun t9 k9 => st47 t9 k9) ?_
  obtain ⟨vs23, Wv23, hU23⟩ : ∃ vs, Arv Z h47 b1 k1 .int (64 : Int32) vs (.int 0) ∧ own_U vs 64 23 (-1) := ⟨_, Va47, hU22.step (by decide)⟩
  refine own_st (T' := T47) (g' := (mkF m 114 #[] [(.ref b1), (.ref b1)])) (fun t9 k9 => XS.dup X47.here hx rfl (hb hby d11_113) rfl rfl k9) ?_
  refine own_st (T' := T47) (g' := (mkF m 116 #[] [(.int (23 : Int32)), (.ref b1), (.ref b1)])) (fun t9 k9 => XS.bipush X47.here hx rfl (hb hby d11_114) k9) ?_
  refine own_st (T' := T47) (g' := (mkF m 117 #[] [(.int (-1 : Int32)), (.int (23 : Int32)), (.ref b1), (.ref b1)])) (fun t9 k9 => XS.iconst X47.here hx rfl (hb hby d11_116) k9) ?_
  obtain ⟨clu48, Aru48, qu48, Su48, Nu48, Hu48, Gu48⟩ := (id Wv23)
  obtain ⟨T49, h49, X49, e49, W49, st49⟩ := stI X47 hx hZ e47 Aru48 (j := (23 : Int32)) (inb_of Su48 ⟨by decide, by decide⟩) (g := (mkF m 117 #[] [(.int (-1 : Int32)), (.int (23 : Int32)), (.ref b1), (.ref b1)])) rfl rfl (hb hby d11_117)
  have Va49 := Arv.set Aru48 qu48 Su48 Nu48 Hu48 Gu48 rfl W49 23 rfl (by rw [hU23.1]; decide)
  have K49 := K47.wr W49 (Or.inr sz_b1)
  have N49 := Fr.snoc X49 N47 g_b1
  have Z49 : n0 ≤ h49.size := by rw [W49.size]; exact Z47
  refine own_st (T' := T49) (g' := (mkF m 118 #[] [(.ref b1)])) (fun t9 k9 => st49 t9 k9) ?_
  obtain ⟨vs24, Wv24, hU24⟩ : ∃ vs, Arv Z h49 b1 k1 .int (64 : Int32) vs (.int 0) ∧ own_U vs 64 24 (-1) := ⟨_, Va49, hU23.step (by decide)⟩
  refine own_st (T' := T49) (g' := (mkF m 119 #[] [(.ref b1), (.ref b1)])) (fun t9 k9 => XS.dup X49.here hx rfl (hb hby d11_118) rfl rfl k9) ?_
  refine own_st (T' := T49) (g' := (mkF m 121 #[] [(.int (24 : Int32)), (.ref b1), (.ref b1)])) (fun t9 k9 => XS.bipush X49.here hx rfl (hb hby d11_119) k9) ?_
  refine own_st (T' := T49) (g' := (mkF m 122 #[] [(.int (-1 : Int32)), (.int (24 : Int32)), (.ref b1), (.ref b1)])) (fun t9 k9 => XS.iconst X49.here hx rfl (hb hby d11_121) k9) ?_
  obtain ⟨clu50, Aru50, qu50, Su50, Nu50, Hu50, Gu50⟩ := (id Wv24)
  obtain ⟨T51, h51, X51, e51, W51, st51⟩ := stI X49 hx hZ e49 Aru50 (j := (24 : Int32)) (inb_of Su50 ⟨by decide, by decide⟩) (g := (mkF m 122 #[] [(.int (-1 : Int32)), (.int (24 : Int32)), (.ref b1), (.ref b1)])) rfl rfl (hb hby d11_122)
  have Va51 := Arv.set Aru50 qu50 Su50 Nu50 Hu50 Gu50 rfl W51 24 rfl (by rw [hU24.1]; decide)
  have K51 := K49.wr W51 (Or.inr sz_b1)
  have N51 := Fr.snoc X51 N49 g_b1
  have Z51 : n0 ≤ h51.size := by rw [W51.size]; exact Z49
  refine own_st (T' := T51) (g' := (mkF m 123 #[] [(.ref b1)])) (fun t9 k9 => st51 t9 k9) ?_
  obtain ⟨vs25, Wv25, hU25⟩ : ∃ vs, Arv Z h51 b1 k1 .int (64 : Int32) vs (.int 0) ∧ own_U vs 64 25 (-1) := ⟨_, Va51, hU24.step (by decide)⟩
  refine own_st (T' := T51) (g' := (mkF m 124 #[] [(.ref b1), (.ref b1)])) (fun t9 k9 => XS.dup X51.here hx rfl (hb hby d11_123) rfl rfl k9) ?_
  refine own_st (T' := T51) (g' := (mkF m 126 #[] [(.int (25 : Int32)), (.ref b1), (.ref b1)])) (fun t9 k9 => XS.bipush X51.here hx rfl (hb hby d11_124) k9) ?_
  refine own_st (T' := T51) (g' := (mkF m 127 #[] [(.int (-1 : Int32)), (.int (25 : Int32)), (.ref b1), (.ref b1)])) (fun t9 k9 => XS.iconst X51.here hx rfl (hb hby d11_126) k9) ?_
  obtain ⟨clu52, Aru52, qu52, Su52, Nu52, Hu52, Gu52⟩ := (id Wv25)
  obtain ⟨T53, h53, X53, e53, W53, st53⟩ := stI X51 hx hZ e51 Aru52 (j := (25 : Int32)) (inb_of Su52 ⟨by decide, by decide⟩) (g := (mkF m 127 #[] [(.int (-1 : Int32)), (.int (25 : Int32)), (.ref b1), (.ref b1)])) rfl rfl (hb hby d11_127)
  have Va53 := Arv.set Aru52 qu52 Su52 Nu52 Hu52 Gu52 rfl W53 25 rfl (by rw [hU25.1]; decide)
  have K53 := K51.wr W53 (Or.inr sz_b1)
  have N53 := Fr.snoc X53 N51 g_b1
  have Z53 : n0 ≤ h53.size := by rw [W53.size]; exact Z51
  refine own_st (T' := T53) (g' := (mkF m 128 #[] [(.ref b1)])) (fun t9 k9 => st53 t9 k9) ?_
  obtain ⟨vs26, Wv26, hU26⟩ : ∃ vs, Arv Z h53 b1 k1 .int (64 : Int32) vs (.int 0) ∧ own_U vs 64 26 (-1) := ⟨_, Va53, hU25.step (by decide)⟩
  refine own_st (T' := T53) (g' := (mkF m 129 #[] [(.ref b1), (.ref b1)])) (fun t9 k9 => XS.dup X53.here hx rfl (hb hby d11_128) rfl rfl k9) ?_
  refine own_st (T' := T53) (g' := (mkF m 131 #[] [(.int (26 : Int32)), (.ref b1), (.ref b1)])) (fun t9 k9 => XS.bipush X53.here hx rfl (hb hby d11_129) k9) ?_
  refine own_st (T' := T53) (g' := (mkF m 132 #[] [(.int (-1 : Int32)), (.int (26 : Int32)), (.ref b1), (.ref b1)])) (fun t9 k9 => XS.iconst X53.here hx rfl (hb hby d11_131) k9) ?_
  obtain ⟨clu54, Aru54, qu54, Su54, Nu54, Hu54, Gu54⟩ := (id Wv26)
  obtain ⟨T55, h55, X55, e55, W55, st55⟩ := stI X53 hx hZ e53 Aru54 (j := (26 : Int32)) (inb_of Su54 ⟨by decide, by decide⟩) (g := (mkF m 132 #[] [(.int (-1 : Int32)), (.int (26 : Int32)), (.ref b1), (.ref b1)])) rfl rfl (hb hby d11_132)
  have Va55 := Arv.set Aru54 qu54 Su54 Nu54 Hu54 Gu54 rfl W55 26 rfl (by rw [hU26.1]; decide)
  have K55 := K53.wr W55 (Or.inr sz_b1)
  have N55 := Fr.snoc X55 N53 g_b1
  have Z55 : n0 ≤ h55.size := by rw [W55.size]; exact Z53
  refine own_st (T' := T55) (g' := (mkF m 133 #[] [(.ref b1)])) (fun t9 k9 => st55 t9 k9) ?_
  obtain ⟨vs27, Wv27, hU27⟩ : ∃ vs, Arv Z h55 b1 k1 .int (64 : Int32) vs (.int 0) ∧ own_U vs 64 27 (-1) := ⟨_, Va55, hU26.step (by decide)⟩
  refine own_st (T' := T55) (g' := (mkF m 134 #[] [(.ref b1), (.ref b1)])) (fun t9 k9 => XS.dup X55.here hx rfl (hb hby d11_133) rfl rfl k9) ?_
  refine own_st (T' := T55) (g' := (mkF m 136 #[] [(.int (27 : Int32)), (.ref b1), (.ref b1)])) (fun t9 k9 => XS.bipush X55.here hx rfl (hb hby d11_134) k9) ?_
  refine own_st (T' := T55) (g' := (mkF m 137 #[] [(.int (-1 : Int32)), (.int (27 : Int32)), (.ref b1), (.ref b1)])) (fun t9 k9 => XS.iconst X55.here hx rfl (hb hby d11_136) k9) ?_
  obtain ⟨clu56, Aru56, qu56, Su56, Nu56, Hu56, Gu56⟩ := (id Wv27)
  obtain ⟨T57, h57, X57, e57, W57, st57⟩ := stI X55 hx hZ e55 Aru56 (j := (27 : Int32)) (inb_of Su56 ⟨by decide, by decide⟩) (g := (mkF m 137 #[] [(.int (-1 : Int32)), (.int (27 : Int32)), (.ref b1), (.ref b1)])) rfl rfl (hb hby d11_137)
  have Va57 := Arv.set Aru56 qu56 Su56 Nu56 Hu56 Gu56 rfl W57 27 rfl (by rw [hU27.1]; decide)
  have K57 := K55.wr W57 (Or.inr sz_b1)
  have N57 := Fr.snoc X57 N55 g_b1
  have Z57 : n0 ≤ h57.size := by rw [W57.size]; exact Z55
  refine own_st (T' := T57) (g' := (mkF m 138 #[] [(.ref b1)])) (fun t9 k9 => st57 t9 k9) ?_
  obtain ⟨vs28, Wv28, hU28⟩ : ∃ vs, Arv Z h57 b1 k1 .int (64 : Int32) vs (.int 0) ∧ own_U vs 64 28 (-1) := ⟨_, Va57, hU27.step (by decide)⟩
  refine own_st (T' := T57) (g' := (mkF m 139 #[] [(.ref b1), (.ref b1)])) (fun t9 k9 => XS.dup X57.here hx rfl (hb hby d11_138) rfl rfl k9) ?_
  refine own_st (T' := T57) (g' := (mkF m 141 #[] [(.int (28 : Int32)), (.ref b1), (.ref b1)])) (fun t9 k9 => XS.bipush X57.here hx rfl (hb hby d11_139) k9) ?_
  refine own_st (T' := T57) (g' := (mkF m 142 #[] [(.int (-1 : Int32)), (.int (28 : Int32)), (.ref b1), (.ref b1)])) (fun t9 k9 => XS.iconst X57.here hx rfl (hb hby d11_141) k9) ?_
  obtain ⟨clu58, Aru58, qu58, Su58, Nu58, Hu58, Gu58⟩ := (id Wv28)
  obtain ⟨T59, h59, X59, e59, W59, st59⟩ := stI X57 hx hZ e57 Aru58 (j := (28 : Int32)) (inb_of Su58 ⟨by decide, by decide⟩) (g := (mkF m 142 #[] [(.int (-1 : Int32)), (.int (28 : Int32)), (.ref b1), (.ref b1)])) rfl rfl (hb hby d11_142)
  have Va59 := Arv.set Aru58 qu58 Su58 Nu58 Hu58 Gu58 rfl W59 28 rfl (by rw [hU28.1]; decide)
  have K59 := K57.wr W59 (Or.inr sz_b1)
  have N59 := Fr.snoc X59 N57 g_b1
  have Z59 : n0 ≤ h59.size := by rw [W59.size]; exact Z57
  refine own_st (T' := T59) (g' := (mkF m 143 #[] [(.ref b1)])) (fun t9 k9 => st59 t9 k9) ?_
  obtain ⟨vs29, Wv29, hU29⟩ : ∃ vs, Arv Z h59 b1 k1 .int (64 : Int32) vs (.int 0) ∧ own_U vs 64 29 (-1) := ⟨_, Va59, hU28.step (by decide)⟩
  refine own_st (T' := T59) (g' := (mkF m 144 #[] [(.ref b1), (.ref b1)])) (fun t9 k9 => XS.dup X59.here hx rfl (hb hby d11_143) rfl rfl k9) ?_
  refine own_st (T' := T59) (g' := (mkF m 146 #[] [(.int (29 : Int32)), (.ref b1), (.ref b1)])) (fun t9 k9 => XS.bipush X59.here hx rfl (hb hby d11_144) k9) ?_
  refine own_st (T' := T59) (g' := (mkF m 147 #[] [(.int (-1 : Int32)), (.int (29 : Int32)), (.ref b1), (.ref b1)])) (fun t9 k9 => XS.iconst X59.here hx rfl (hb hby d11_146) k9) ?_
  obtain ⟨clu60, Aru60, qu60, Su60, Nu60, Hu60, Gu60⟩ := (id Wv29)
  obtain ⟨T61, h61, X61, e61, W61, st61⟩ := stI X59 hx hZ e59 Aru60 (j := (29 : Int32)) (inb_of Su60 ⟨by decide, by decide⟩) (g := (mkF m 147 #[] [(.int (-1 : Int32)), (.int (29 : Int32)), (.ref b1), (.ref b1)])) rfl rfl (hb hby d11_147)
  have Va61 := Arv.set Aru60 qu60 Su60 Nu60 Hu60 Gu60 rfl W61 29 rfl (by rw [hU29.1]; decide)
  have K61 := K59.wr W61 (Or.inr sz_b1)
  have N61 := Fr.snoc X61 N59 g_b1
  have Z61 : n0 ≤ h61.size := by rw [W61.size]; exact Z59
  refine own_st (T' := T61) (g' := (mkF m 148 #[] [(.ref b1)])) (fun t9 k9 => st61 t9 k9) ?_
  obtain ⟨vs30, Wv30, hU30⟩ : ∃ vs, Arv Z h61 b1 k1 .int (64 : Int32) vs (.int 0) ∧ own_U vs 64 30 (-1) := ⟨_, Va61, hU29.step (by decide)⟩
  refine own_st (T' := T61) (g' := (mkF m 149 #[] [(.ref b1), (.ref b1)])) (fun t9 k9 => XS.dup X61.here hx rfl (hb hby d11_148) rfl rfl k9) ?_
  refine own_st (T' := T61) (g' := (mkF m 151 #[] [(.int (30 : Int32)), (.ref b1), (.ref b1)])) (fun t9 k9 => XS.bipush X61.here hx rfl (hb hby d11_149) k9) ?_
  refine own_st (T' := T61) (g' := (mkF m 152 #[] [(.int (-1 : Int32)), (.int (30 : Int32)), (.ref b1), (.ref b1)])) (fun t9 k9 => XS.iconst X61.here hx rfl (hb hby d11_151) k9) ?_
  obtain ⟨clu62, Aru62, qu62, Su62, Nu62, Hu62, Gu62⟩ := (id Wv30)
  obtain ⟨T63, h63, X63, e63, W63, st63⟩ := stI X61 hx hZ e61 Aru62 (j := (30 : Int32)) (inb_of Su62 ⟨by decide, by decide⟩) (g := (mkF m 152 #[] [(.int (-1 : Int32)), (.int (30 : Int32)), (.ref b1), (.ref b1)])) rfl rfl (hb hby d11_152)
  have Va63 := Arv.set Aru62 qu62 Su62 Nu62 Hu62 Gu62 rfl W63 30 rfl (by rw [hU30.1]; decide)
  have K63 := K61.wr W63 (Or.inr sz_b1)
  have N63 := Fr.snoc X63 N61 g_b1
  have Z63 : n0 ≤ h63.size := by rw [W63.size]; exact Z61
  refine own_st (T' := T63) (g' := (mkF m 153 #[] [(.ref b1)])) (fun t9 k9 => st63 t9 k9) ?_
  obtain ⟨vs31, Wv31, hU31⟩ : ∃ vs, Arv Z h63 b1 k1 .int (64 : Int32) vs (.int 0) ∧ own_U vs 64 31 (-1) := ⟨_, Va63, hU30.step (by decide)⟩
  refine own_st (T' := T63) (g' := (mkF m 154 #[] [(.ref b1), (.ref b1)])) (fun t9 k9 => XS.dup X63.here hx rfl (hb hby d11_153) rfl rfl k9) ?_
  refine own_st (T' := T63) (g' := (mkF m 156 #[] [(.int (31 : Int32)), (.ref b1), (.ref b1)])) (fun t9 k9 => XS.bipush X63.here hx rfl (hb hby d11_154) k9) ?_
  refine own_st (T' := T63) (g' := (mkF m 157 #[] [(.int (-1 : Int32)), (.int (31 : Int32)), (.ref b1), (.ref b1)])) (fun t9 k9 => XS.iconst X63.here hx rfl (hb hby d11_156) k9) ?_
  obtain ⟨clu64, Aru64, qu64, Su64, Nu64, Hu64, Gu64⟩ := (id Wv31)
  obtain ⟨T65, h65, X65, e65, W65, st65⟩ := stI X63 hx hZ e63 Aru64 (j := (31 : Int32)) (inb_of Su64 ⟨by decide, by decide⟩) (g := (mkF m 157 #[] [(.int (-1 : Int32)), (.int (31 : Int32)), (.ref b1), (.ref b1)])) rfl rfl (hb hby d11_157)
  have Va65 := Arv.set Aru64 qu64 Su64 Nu64 Hu64 Gu64 rfl W65 31 rfl (by rw [hU31.1]; decide)
  have K65 := K63.wr W65 (Or.inr sz_b1)
  have N65 := Fr.snoc X65 N63 g_b1
  have Z65 : n0 ≤ h65.size := by rw [W65.size]; exact Z63
  refine own_st (T' := T65) (g' := (mkF m 158 #[] [(.ref b1)])) (fun t9 k9 => st65 t9 k9) ?_
  obtain ⟨vs32, Wv32, hU32⟩ : ∃ vs, Arv Z h65 b1 k1 .int (64 : Int32) vs (.int 0) ∧ own_U vs 64 32 (-1) := ⟨_, Va65, hU31.step (by decide)⟩
  refine own_st (T' := T65) (g' := (mkF m 159 #[] [(.ref b1), (.ref b1)])) (fun t9 k9 => XS.dup X65.here hx rfl (hb hby d11_158) rfl rfl k9) ?_
  refine own_st (T' := T65) (g' := (mkF m 161 #[] [(.int (32 : Int32)), (.ref b1), (.ref b1)])) (fun t9 k9 => XS.bipush X65.here hx rfl (hb hby d11_159) k9) ?_
  refine own_st (T' := T65) (g' := (mkF m 162 #[] [(.int (-1 : Int32)), (.int (32 : Int32)), (.ref b1), (.ref b1)])) (fun t9 k9 => XS.iconst X65.here hx rfl (hb hby d11_161) k9) ?_
  obtain ⟨clu66, Aru66, qu66, Su66, Nu66, Hu66, Gu66⟩ := (id Wv32)
  obtain ⟨T67, h67, X67, e67, W67, st67⟩ := stI X65 hx hZ e65 Aru66 (j := (32 : Int32)) (inb_of Su66 ⟨by decide, by decide⟩) (g := (mkF m 162 #[] [(.int (-1 : Int32)), (.int (32 : Int32)), (.ref b1), (.ref b1)])) rfl rfl (hb hby d11_162)
  have Va67 := Arv.set Aru66 qu66 Su66 Nu66 Hu66 Gu66 rfl W67 32 rfl (by rw [hU32.1]; decide)
  have K67 := K65.wr W67 (Or.inr sz_b1)
  have N67 := Fr.snoc X67 N65 g_b1
  have Z67 : n0 ≤ h67.size := by rw [W67.size]; exact Z65
  refine own_st (T' := T67) (g' := (mkF m 163 #[] [(.ref b1)])) (fun t9 k9 => st67 t9 k9) ?_
  obtain ⟨vs33, Wv33, hU33⟩ : ∃ vs, Arv Z h67 b1 k1 .int (64 : Int32) vs (.int 0) ∧ own_U vs 64 33 (-1) := ⟨_, Va67, hU32.step (by decide)⟩
  refine own_st (T' := T67) (g' := (mkF m 164 #[] [(.ref b1), (.ref b1)])) (fun t9 k9 => XS.dup X67.here hx rfl (hb hby d11_163) rfl rfl k9) ?_
  refine own_st (T' := T67) (g' := (mkF m 166 #[] [(.int (33 : Int32)), (.ref b1), (.ref b1)])) (fun t9 k9 => XS.bipush X67.here hx rfl (hb hby d11_164) k9) ?_
  refine own_st (T' := T67) (g' := (mkF m 167 #[] [(.int (-1 : Int32)), (.int (33 : Int32)), (.ref b1), (.ref b1)])) (fun t9 k9 => XS.iconst X67.here hx rfl (hb hby d11_166) k9) ?_
  obtain ⟨clu68, Aru68, qu68, Su68, Nu68, Hu68, Gu68⟩ := (id Wv33)
  obtain ⟨T69, h69, X69, e69, W69, st69⟩ := stI X67 hx hZ e67 Aru68 (j := (33 : Int32)) (inb_of Su68 ⟨by decide, by decide⟩) (g := (mkF m 167 #[] [(.int (-1 : Int32)), (.int (33 : Int32)), (.ref b1), (.ref b1)])) rfl rfl (hb hby d11_167)
  have Va69 := Arv.set Aru68 qu68 Su68 Nu68 Hu68 Gu68 rfl W69 33 rfl (by rw [hU33.1]; decide)
  have K69 := K67.wr W69 (Or.inr sz_b1)
  have N69 := Fr.snoc X69 N67 g_b1
  have Z69 : n0 ≤ h69.size := by rw [W69.size]; exact Z67
  refine own_st (T' := T69) (g' := (mkF m 168 #[] [(.ref b1)])) (fun t9 k9 => st69 t9 k9) ?_
  obtain ⟨vs34, Wv34, hU34⟩ : ∃ vs, Arv Z h69 b1 k1 .int (64 : Int32) vs (.int 0) ∧ own_U vs 64 34 (-1) := ⟨_, Va69, hU33.step (by decide)⟩
  refine own_st (T' := T69) (g' := (mkF m 169 #[] [(.ref b1), (.ref b1)])) (fun t9 k9 => XS.dup X69.here hx rfl (hb hby d11_168) rfl rfl k9) ?_
  refine own_st (T' := T69) (g' := (mkF m 171 #[] [(.int (34 : Int32)), (.ref b1), (.ref b1)])) (fun t9 k9 => XS.bipush X69.here hx rfl (hb hby d11_169) k9) ?_
  refine own_st (T' := T69) (g' := (mkF m 172 #[] [(.int (-1 : Int32)), (.int (34 : Int32)), (.ref b1), (.ref b1)])) (fun t9 k9 => XS.iconst X69.here hx rfl (hb hby d11_171) k9) ?_
  obtain ⟨clu70, Aru70, qu70, Su70, Nu70, Hu70, Gu70⟩ := (id Wv34)
  obtain ⟨T71, h71, X71, e71, W71, st71⟩ := stI X69 hx hZ e69 Aru70 (j := (34 : Int32)) (inb_of Su70 ⟨by decide, by decide⟩) (g := (mkF m 172 #[] [(.int (-1 : Int32)), (.int (34 : Int32)), (.ref b1), (.ref b1)])) rfl rfl (hb hby d11_172)
  have Va71 := Arv.set Aru70 qu70 Su70 Nu70 Hu70 Gu70 rfl W71 34 rfl (by rw [hU34.1]; decide)
  have K71 := K69.wr W71 (Or.inr sz_b1)
  have N71 := Fr.snoc X71 N69 g_b1
  have Z71 : n0 ≤ h71.size := by rw [W71.size]; exact Z69
  refine own_st (T' := T71) (g' := (mkF m 173 #[] [(.ref b1)])) (fun t9 k9 => st71 t9 k9) ?_
  obtain ⟨vs35, Wv35, hU35⟩ : ∃ vs, Arv Z h71 b1 k1 .int (64 : Int32) vs (.int 0) ∧ own_U vs 64 35 (-1) := ⟨_, Va71, hU34.step (by decide)⟩
  refine own_st (T' := T71) (g' := (mkF m 174 #[] [(.ref b1), (.ref b1)])) (fun t9 k9 => XS.dup X71.here hx rfl (hb hby d11_173) rfl rfl k9) ?_
  refine own_st (T' := T71) (g' := (mkF m 176 #[] [(.int (35 : Int32)), (.ref b1), (.ref b1)])) (fun t9 k9 => XS.bipush X71.here hx rfl (hb hby d11_174) k9) ?_
  refine own_st (T' := T71) (g' := (mkF m 177 #[] [(.int (-1 : Int32)), (.int (35 : Int32)), (.ref b1), (.ref b1)])) (fun t9 k9 => XS.iconst X71.here hx rfl (hb hby d11_176) k9) ?_
  obtain ⟨clu72, Aru72, qu72, Su72, Nu72, Hu72, Gu72⟩ := (id Wv35)
  obtain ⟨T73, h73, X73, e73, W73, st73⟩ := stI X71 hx hZ e71 Aru72 (j := (35 : Int32)) (inb_of Su72 ⟨by decide, by decide⟩) (g := (mkF m 177 #[] [(.int (-1 : Int32)), (.int (35 : Int32)), (.ref b1), (.ref b1)])) rfl rfl (hb hby d11_177)
  have Va73 := Arv.set Aru72 qu72 Su72 Nu72 Hu72 Gu72 rfl W73 35 rfl (by rw [hU35.1]; decide)
  have K73 := K71.wr W73 (Or.inr sz_b1)
  have N73 := Fr.snoc X73 N71 g_b1
  have Z73 : n0 ≤ h73.size := by rw [W73.size]; exact Z71
  refine own_st (T' := T73) (g' := (mkF m 178 #[] [(.ref b1)])) (fun t9 k9 => st73 t9 k9) ?_
  obtain ⟨vs36, Wv36, hU36⟩ : ∃ vs, Arv Z h73 b1 k1 .int (64 : Int32) vs (.int 0) ∧ own_U vs 64 36 (-1) := ⟨_, Va73, hU35.step (by decide)⟩
  refine own_st (T' := T73) (g' := (mkF m 179 #[] [(.ref b1), (.ref b1)])) (fun t9 k9 => XS.dup X73.here hx rfl (hb hby d11_178) rfl rfl k9) ?_
  refine own_st (T' := T73) (g' := (mkF m 181 #[] [(.int (36 : Int32)), (.ref b1), (.ref b1)])) (fun t9 k9 => XS.bipush X73.here hx rfl (hb hby d11_179) k9) ?_
  refine own_st (T' := T73) (g' := (mkF m 182 #[] [(.int (-1 : Int32)), (.int (36 : Int32)), (.ref b1), (.ref b1)])) (fun t9 k9 => XS.iconst X73.here hx rfl (hb hby d11_181) k9) ?_
  obtain ⟨clu74, Aru74, qu74, Su74, Nu74, Hu74, Gu74⟩ := (id Wv36)
  obtain ⟨T75, h75, X75, e75, W75, st75⟩ := stI X73 hx hZ e73 Aru74 (j := (36 : Int32)) (inb_of Su74 ⟨by decide, by decide⟩) (g := (mkF m 182 #[] [(.int (-1 : Int32)), (.int (36 : Int32)), (.ref b1), (.ref b1)])) rfl rfl (hb hby d11_182)
  have Va75 := Arv.set Aru74 qu74 Su74 Nu74 Hu74 Gu74 rfl W75 36 rfl (by rw [hU36.1]; decide)
  have K75 := K73.wr W75 (Or.inr sz_b1)
  have N75 := Fr.snoc X75 N73 g_b1
  have Z75 : n0 ≤ h75.size := by rw [W75.size]; exact Z73
  refine own_st (T' := T75) (g' := (mkF m 183 #[] [(.ref b1)])) (fun t9 k9 => st75 t9 k9) ?_
  obtain ⟨vs37, Wv37, hU37⟩ : ∃ vs, Arv Z h75 b1 k1 .int (64 : Int32) vs (.int 0) ∧ own_U vs 64 37 (-1) := ⟨_, Va75, hU36.step (by decide)⟩
  refine own_st (T' := T75) (g' := (mkF m 184 #[] [(.ref b1), (.ref b1)])) (fun t9 k9 => XS.dup X75.here hx rfl (hb hby d11_183) rfl rfl k9) ?_
  refine own_st (T' := T75) (g' := (mkF m 186 #[] [(.int (37 : Int32)), (.ref b1), (.ref b1)])) (fun t9 k9 => XS.bipush X75.here hx rfl (hb hby d11_184) k9) ?_
  refine own_st (T' := T75) (g' := (mkF m 187 #[] [(.int (-1 : Int32)), (.int (37 : Int32)), (.ref b1), (.ref b1)])) (fun t9 k9 => XS.iconst X75.here hx rfl (hb hby d11_186) k9) ?_
  obtain ⟨clu76, Aru76, qu76, Su76, Nu76, Hu76, Gu76⟩ := (id Wv37)
  obtain ⟨T77, h77, X77, e77, W77, st77⟩ := stI X75 hx hZ e75 Aru76 (j := (37 : Int32)) (inb_of Su76 ⟨by decide, by decide⟩) (g := (mkF m 187 #[] [(.int (-1 : Int32)), (.int (37 : Int32)), (.ref b1), (.ref b1)])) rfl rfl (hb hby d11_187)
  have Va77 := Arv.set Aru76 qu76 Su76 Nu76 Hu76 Gu76 rfl W77 37 rfl (by rw [hU37.1]; decide)
  have K77 := K75.wr W77 (Or.inr sz_b1)
  have N77 := Fr.snoc X77 N75 g_b1
  have Z77 : n0 ≤ h77.size := by rw [W77.size]; exact Z75
  refine own_st (T' := T77) (g' := (mkF m 188 #[] [(.ref b1)])) (fun t9 k9 => st77 t9 k9) ?_
  obtain ⟨vs38, Wv38, hU38⟩ : ∃ vs, Arv Z h77 b1 k1 .int (64 : Int32) vs (.int 0) ∧ own_U vs 64 38 (-1) := ⟨_, Va77, hU37.step (by decide)⟩
  refine own_st (T' := T77) (g' := (mkF m 189 #[] [(.ref b1), (.ref b1)])) (fun t9 k9 => XS.dup X77.here hx rfl (hb hby d11_188) rfl rfl k9) ?_
  refine own_st (T' := T77) (g' := (mkF m 191 #[] [(.int (38 : Int32)), (.ref b1), (.ref b1)])) (fun t9 k9 => XS.bipush X77.here hx rfl (hb hby d11_189) k9) ?_
  refine own_st (T' := T77) (g' := (mkF m 192 #[] [(.int (-1 : Int32)), (.int (38 : Int32)), (.ref b1), (.ref b1)])) (fun t9 k9 => XS.iconst X77.here hx rfl (hb hby d11_191) k9) ?_
  obtain ⟨clu78, Aru78, qu78, Su78, Nu78, Hu78, Gu78⟩ := (id Wv38)
  obtain ⟨T79, h79, X79, e79, W79, st79⟩ := stI X77 hx hZ e77 Aru78 (j := (38 : Int32)) (inb_of Su78 ⟨by decide, by decide⟩) (g := (mkF m 192 #[] [(.int (-1 : Int32)), (.int (38 : Int32)), (.ref b1), (.ref b1)])) rfl rfl (hb hby d11_192)
  have Va79 := Arv.set Aru78 qu78 Su78 Nu78 Hu78 Gu78 rfl W79 38 rfl (by rw [hU38.1]; decide)
  have K79 := K77.wr W79 (Or.inr sz_b1)
  have N79 := Fr.snoc X79 N77 g_b1
  have Z79 : n0 ≤ h79.size := by rw [W79.size]; exact Z77
  refine own_st (T' := T79) (g' := (mkF m 193 #[] [(.ref b1)])) (fun t9 k9 => st79 t9 k9) ?_
  obtain ⟨vs39, Wv39, hU39⟩ : ∃ vs, Arv Z h79 b1 k1 .int (64 : Int32) vs (.int 0) ∧ own_U vs 64 39 (-1) := ⟨_, Va79, hU38.step (by decide)⟩
  refine own_st (T' := T79) (g' := (mkF m 194 #[] [(.ref b1), (.ref b1)])) (fun t9 k9 => XS.dup X79.here hx rfl (hb hby d11_193) rfl rfl k9) ?_
  refine own_st (T' := T79) (g' := (mkF m 196 #[] [(.int (39 : Int32)), (.ref b1), (.ref b1)])) (fun t9 k9 => XS.bipush X79.here hx rfl (hb hby d11_194) k9) ?_
  refine own_st (T' := T79) (g' := (mkF m 197 #[] [(.int (-1 : Int32)), (.int (39 : Int32)), (.ref b1), (.ref b1)])) (fun t9 k9 => XS.iconst X79.here hx rfl (hb hby d11_196) k9) ?_
  obtain ⟨clu80, Aru80, qu80, Su80, Nu80, Hu80, Gu80⟩ := (id Wv39)
  obtain ⟨T81, h81, X81, e81, W81, st81⟩ := stI X79 hx hZ e79 Aru80 (j := (39 : Int32)) (inb_of Su80 ⟨by decide, by decide⟩) (g := (mkF m 197 #[] [(.int (-1 : Int32)), (.int (39 : Int32)), (.ref b1), (.ref b1)])) rfl rfl (hb hby d11_197)
  have Va81 := Arv.set Aru80 qu80 Su80 Nu80 Hu80 Gu80 rfl W81 39 rfl (by rw [hU39.1]; decide)
  have K81 := K79.wr W81 (Or.inr sz_b1)
  have N81 := Fr.snoc X81 N79 g_b1
  have Z81 : n0 ≤ h81.size := by rw [W81.size]; exact Z79
  refine own_st (T' := T81) (g' := (mkF m 198 #[] [(.ref b1)])) (fun t9 k9 => st81 t9 k9) ?_
  obtain ⟨vs40, Wv40, hU40⟩ : ∃ vs, Arv Z h81 b1 k1 .int (64 : Int32) vs (.int 0) ∧ own_U vs 64 40 (-1) := ⟨_, Va81, hU39.step (by decide)⟩
  refine own_st (T' := T81) (g' := (mkF m 199 #[] [(.ref b1), (.ref b1)])) (fun t9 k9 => XS.dup X81.here hx rfl (hb hby d11_198) rfl rfl k9) ?_
  refine own_st (T' := T81) (g' := (mkF m 201 #[] [(.int (40 : Int32)), (.ref b1), (.ref b1)])) (fun t9 k9 => XS.bipush X81.here hx rfl (hb hby d11_199) k9) ?_
  refine own_st (T' := T81) (g' := (mkF m 202 #[] [(.int (-1 : Int32)), (.int (40 : Int32)), (.ref b1), (.ref b1)])) (fun t9 k9 => XS.iconst X81.here hx rfl (hb hby d11_201) k9) ?_
  obtain ⟨clu82, Aru82, qu82, Su82, Nu82, Hu82, Gu82⟩ := (id Wv40)
  obtain ⟨T83, h83, X83, e83, W83, st83⟩ := stI X81 hx hZ e81 Aru82 (j := (40 : Int32)) (inb_of Su82 ⟨by decide, by decide⟩) (g := (mkF m 202 #[] [(.int (-1 : Int32)), (.int (40 : Int32)), (.ref b1), (.ref b1)])) rfl rfl (hb hby d11_202)
  have Va83 := Arv.set Aru82 qu82 Su82 Nu82 Hu82 Gu82 rfl W83 40 rfl (by rw [hU40.1]; decide)
  have K83 := K81.wr W83 (Or.inr sz_b1)
  have N83 := Fr.snoc X83 N81 g_b1
  have Z83 : n0 ≤ h83.size := by rw [W83.size]; exact Z81
  refine own_st (T' := T83) (g' := (mkF m 203 #[] [(.ref b1)])) (fun t9 k9 => st83 t9 k9) ?_
  obtain ⟨vs41, Wv41, hU41⟩ : ∃ vs, Arv Z h83 b1 k1 .int (64 : Int32) vs (.int 0) ∧ own_U vs 64 41 (-1) := ⟨_, Va83, hU40.step (by decide)⟩
  refine own_st (T' := T83) (g' := (mkF m 204 #[] [(.ref b1), (.ref b1)])) (fun t9 k9 => XS.dup X83.here hx rfl (hb hby d11_203) rfl rfl k9) ?_
  refine own_st (T' := T83) (g' := (mkF m 206 #[] [(.int (41 : Int32)), (.ref b1), (.ref b1)])) (fun t9 k9 => XS.bipush X83.here hx rfl (hb hby d11_204) k9) ?_
  refine own_st (T' := T83) (g' := (mkF m 207 #[] [(.int (-1 : Int32)), (.int (41 : Int32)), (.ref b1), (.ref b1)])) (fun t9 k9 => XS.iconst X83.here hx rfl (hb hby d11_206) k9) ?_
  obtain ⟨clu84, Aru84, qu84, Su84, Nu84, Hu84, Gu84⟩ := (id Wv41)
  obtain ⟨T85, h85, X85, e85, W85, st85⟩ := stI X83 hx hZ e83 Aru84 (j := (41 : Int32)) (inb_of Su84 ⟨by decide, by decide⟩) (g := (mkF m 207 #[] [(.int (-1 : Int32)), (.int (41 : Int32)), (.ref b1), (.ref b1)])) rfl rfl (hb hby d11_207)
  have Va85 := Arv.set Aru84 qu84 Su84 Nu84 Hu84 Gu84 rfl W85 41 rfl (by rw [hU41.1]; decide)
  have K85 := K83.wr W85 (Or.inr sz_b1)
  have N85 := Fr.snoc X85 N83 g_b1
  have Z85 : n0 ≤ h85.size := by rw [W85.size]; exact Z83
  refine own_st (T' := T85) (g' := (mkF m 208 #[] [(.ref b1)])) (fun t9 k9 => st85 t9 k9) ?_
  obtain ⟨vs42, Wv42, hU42⟩ : ∃ vs, Arv Z h85 b1 k1 .int (64 : Int32) vs (.int 0) ∧ own_U vs 64 42 (-1) := ⟨_, Va85, hU41.step (by decide)⟩
  refine own_st (T' := T85) (g' := (mkF m 209 #[] [(.ref b1), (.ref b1)])) (fun t9 k9 => XS.dup X85.here hx rfl (hb hby d11_208) rfl rfl k9) ?_
  refine own_st (T' := T85) (g' := (mkF m 211 #[] [(.int (42 : Int32)), (.ref b1), (.ref b1)])) (fun t9 k9 => XS.bipush X85.here hx rfl (hb hby d11_209) k9) ?_
  refine own_st (T' := T85) (g' := (mkF m 212 #[] [(.int (-1 : Int32)), (.int (42 : Int32)), (.ref b1), (.ref b1)])) (fun t9 k9 => XS.iconst X85.here hx rfl (hb hby d11_211) k9) ?_
  obtain ⟨clu86, Aru86, qu86, Su86, Nu86, Hu86, Gu86⟩ := (id Wv42)
  obtain ⟨T87, h87, X87, e87, W87, st87⟩ := stI X85 hx hZ e85 Aru86 (j := (42 : Int32)) (inb_of Su86 ⟨by decide, by decide⟩) (g := (mkF m 212 #[] [(.int (-1 : Int32)), (.int (42 : Int32)), (.ref b1), (.ref b1)])) rfl rfl (hb hby d11_212)
  have Va87 := Arv.set Aru86 qu86 Su86 Nu86 Hu86 Gu86 rfl W87 42 rfl (by rw [hU42.1]; decide)
  have K87 := K85.wr W87 (Or.inr sz_b1)
  have N87 := Fr.snoc X87 N85 g_b1
  have Z87 : n0 ≤ h87.size := by rw [W87.size]; exact Z85
  refine own_st (T' := T87) (g' := (mkF m 213 #[] [(.ref b1)])) (fun t9 k9 => st87 t9 k9) ?_
  obtain ⟨vs43, Wv43, hU43⟩ : ∃ vs, Arv Z h87 b1 k1 .int (64 : Int32) vs (.int 0) ∧ own_U vs 64 43 (-1) := ⟨_, Va87, hU42.step (by decide)⟩
  refine own_st (T' := T87) (g' := (mkF m 214 #[] [(.ref b1), (.ref b1)])) (fun t9 k9 => XS.dup X87.here hx rfl (hb hby d11_213) rfl rfl k9) ?_
  refine own_st (T' := T87) (g' := (mkF m 216 #[] [(.int (43 : Int32)), (.ref b1), (.ref b1)])) (fun t9 k9 => XS.bipush X87.here hx rfl (hb hby d11_214) k9) ?_
  refine own_st (T' := T87) (g' := (mkF m 217 #[] [(.int (-1 : Int32)), (.int (43 : Int32)), (.ref b1), (.ref b1)])) (fun t9 k9 => XS.iconst X87.here hx rfl (hb hby d11_216) k9) ?_
  obtain ⟨clu88, Aru88, qu88, Su88, Nu88, Hu88, Gu88⟩ := (id Wv43)
  obtain ⟨T89, h89, X89, e89, W89, st89⟩ := stI X87 hx hZ e87 Aru88 (j := (43 : Int32)) (inb_of Su88 ⟨by decide, by decide⟩) (g := (mkF m 217 #[] [(.int (-1 : Int32)), (.int (43 : Int32)), (.ref b1), (.ref b1)])) rfl rfl (hb hby d11_217)
  have Va89 := Arv.set Aru88 qu88 Su88 Nu88 Hu88 Gu88 rfl W89 43 rfl (by rw [hU43.1]; decide)
  have K89 := K87.wr W89 (Or.inr sz_b1)
  have N89 := Fr.snoc X89 N87 g_b1
  have Z89 : n0 ≤ h89.size := by rw [W89.size]; exact Z87
  refine own_st (T' := T89) (g' := (mkF m 218 #[] [(.ref b1)])) (fun t9 k9 => st89 t9 k9) ?_
  obtain ⟨vs44, Wv44, hU44⟩ : ∃ vs, Arv Z h89 b1 k1 .int (64 : Int32) vs (.int 0) ∧ own_U vs 64 44 (-1) := ⟨_, Va89, hU43.step (by decide)⟩
  refine own_st (T' := T89) (g' := (mkF m 219 #[] [(.ref b1), (.ref b1)])) (fun t9 k9 => XS.dup X89.here hx rfl (hb hby d11_218) rfl rfl k9) ?_
  refine own_st (T' := T89) (g' := (mkF m 221 #[] [(.int (44 : Int32)), (.ref b1), (.ref b1)])) (fun t9 k9 => XS.bipush X89.here hx rfl (hb hby d11_219) k9) ?_
  refine own_st (T' := T89) (g' := (mkF m 222 #[] [(.int (-1 : Int32)), (.int (44 : Int32)), (.ref b1), (.ref b1)])) (fun t9 k9 => XS.iconst X89.here hx rfl (hb hby d11_221) k9) ?_
  obtain ⟨clu90, Aru90, qu90, Su90, Nu90, Hu90, Gu90⟩ := (id Wv44)
  obtain ⟨T91, h91, X91, e91, W91, st91⟩ := stI X89 hx hZ e89 Aru90 (j := (44 : Int32)) (inb_of Su90 ⟨by decide, by decide⟩) (g := (mkF m 222 #[] [(.int (-1 : Int32)), (.int (44 : Int32)), (.ref b1), (.ref b1)])) rfl rfl (hb hby d11_222)
  have Va91 := Arv.set Aru90 qu90 Su90 Nu90 Hu90 Gu90 rfl W91 44 rfl (by rw [hU44.1]; decide)
  have K91 := K89.wr W91 (Or.inr sz_b1)
  have N91 := Fr.snoc X91 N89 g_b1
  have Z91 : n0 ≤ h91.size := by rw [W91.size]; exact Z89
  refine own_st (T' := T91) (g' := (mkF m 223 #[] [(.ref b1)])) (fun t9 k9 => st91 t9 k9) ?_
  obtain ⟨vs45, Wv45, hU45⟩ : ∃ vs, Arv Z h91 b1 k1 .int (64 : Int32) vs (.int 0) ∧ own_U vs 64 45 (-1) := ⟨_, Va91, hU44.step (by decide)⟩
  refine own_st (T' := T91) (g' := (mkF m 224 #[] [(.ref b1), (.ref b1)])) (fun t9 k9 => XS.dup X91.here hx rfl (hb hby d11_223) rfl rfl k9) ?_
  refine own_st (T' := T91) (g' := (mkF m 226 #[] [(.int (45 : Int32)), (.ref b1), (.ref b1)])) (fun t9 k9 => XS.bipush X91.here hx rfl (hb hby d11_224) k9) ?_
  refine own_st (T' := T91) (g' := (mkF m 227 #[] [(.int (-1 : Int32)), (.int (45 : Int32)), (.ref b1), (.ref b1)])) (fun t9 k9 => XS.iconst X91.here hx rfl (hb hby d11_226) k9) ?_
  obtain ⟨clu92, Aru92, qu92, Su92, Nu92, Hu92, Gu92⟩ := (id Wv45)
  obtain ⟨T93, h93, X93, e93, W93, st93⟩ := stI X91 hx hZ e91 Aru92 (j := (45 : Int32)) (inb_of Su92 ⟨by decide, by decide⟩) (g := (mkF m 227 #[] [(.int (-1 : Int32)), (.int (45 : Int32)), (.ref b1), (.ref b1)])) rfl rfl (hb hby d11_227)
  have Va93 := Arv.set Aru92 qu92 Su92 Nu92 Hu92 Gu92 rfl W93 45 rfl (by rw [hU45.1]; decide)
  have K93 := K91.wr W93 (Or.inr sz_b1)
  have N93 := Fr.snoc X93 N91 g_b1
  have Z93 : n0 ≤ h93.size := by rw [W93.size]; exact Z91
  refine own_st (T' := T93) (g' := (mkF m 228 #[] [(.ref b1)])) (fun t9 k9 => st93 t9 k9) ?_
  obtain ⟨vs46, Wv46, hU46⟩ : ∃ vs, Arv Z h93 b1 k1 .int (64 : Int32) vs (.int 0) ∧ own_U vs 64 46 (-1) := ⟨_, Va93, hU45.step (by decide)⟩
  refine own_st (T' := T93) (g' := (mkF m 229 #[] [(.ref b1), (.ref b1)])) (fun t9 k9 => XS.dup X93.here hx rfl (hb hby d11_228) rfl rfl k9) ?_
  refine own_st (T' := T93) (g' := (mkF m 231 #[] [(.int (46 : Int32)), (.ref b1), (.ref b1)])) (fun t9 k9 => XS.bipush X93.here hx rfl (hb hby d11_229) k9) ?_
  refine own_st (T' := T93) (g' := (mkF m 232 #[] [(.int (-1 : Int32)), (.int (46 : Int32)), (.ref b1), (.ref b1)])) (fun t9 k9 => XS.iconst X93.here hx rfl (hb hby d11_231) k9) ?_
  obtain ⟨clu94, Aru94, qu94, Su94, Nu94, Hu94, Gu94⟩ := (id Wv46)
  obtain ⟨T95, h95, X95, e95, W95, st95⟩ := stI X93 hx hZ e93 Aru94 (j := (46 : Int32)) (inb_of Su94 ⟨by decide, by decide⟩) (g := (mkF m 232 #[] [(.int (-1 : Int32)), (.int (46 : Int32)), (.ref b1), (.ref b1)])) rfl rfl (hb hby d11_232)
  have Va95 := Arv.set Aru94 qu94 Su94 Nu94 Hu94 Gu94 rfl W95 46 rfl (by rw [hU46.1]; decide)
  have K95 := K93.wr W95 (Or.inr sz_b1)
  have N95 := Fr.snoc X95 N93 g_b1
  have Z95 : n0 ≤ h95.size := by rw [W95.size]; exact Z93
  refine own_st (T' := T95) (g' := (mkF m 233 #[] [(.ref b1)])) (fun t9 k9 => st95 t9 k9) ?_
  obtain ⟨vs47, Wv47, hU47⟩ : ∃ vs, Arv Z h95 b1 k1 .int (64 : Int32) vs (.int 0) ∧ own_U vs 64 47 (-1) := ⟨_, Va95, hU46.step (by decide)⟩
  refine own_st (T' := T95) (g' := (mkF m 234 #[] [(.ref b1), (.ref b1)])) (fun t9 k9 => XS.dup X95.here hx rfl (hb hby d11_233) rfl rfl k9) ?_
  refine own_st (T' := T95) (g' := (mkF m 236 #[] [(.int (47 : Int32)), (.ref b1), (.ref b1)])) (fun t9 k9 => XS.bipush X95.here hx rfl (hb hby d11_234) k9) ?_
  refine own_st (T' := T95) (g' := (mkF m 237 #[] [(.int (-1 : Int32)), (.int (47 : Int32)), (.ref b1), (.ref b1)])) (fun t9 k9 => XS.iconst X95.here hx rfl (hb hby d11_236) k9) ?_
  obtain ⟨clu96, Aru96, qu96, Su96, Nu96, Hu96, Gu96⟩ := (id Wv47)
  obtain ⟨T97, h97, X97, e97, W97, st97⟩ := stI X95 hx hZ e95 Aru96 (j := (47 : Int32)) (inb_of Su96 ⟨by decide, by decide⟩) (g := (mkF m 237 #[] [(.int (-1 : Int32)), (.int (47 : Int32)), (.ref b1), (.ref b1)])) rfl rfl (hb hby d11_237)
  have Va97 := Arv.set Aru96 qu96 Su96 Nu96 Hu96 Gu96 rfl W97 47 rfl (by rw [hU47.1]; decide)
  have K97 := K95.wr W97 (Or.inr sz_b1)
  have N97 := Fr.snoc X97 N95 g_b1
  have Z97 : n0 ≤ h97.size := by rw [W97.size]; exact Z95
  refine own_st (T' := T97) (g' := (mkF m 238 #[] [(.ref b1)])) (fun t9 k9 => st97 t9 k9) ?_
  obtain ⟨vs48, Wv48, hU48⟩ : ∃ vs, Arv Z h97 b1 k1 .int (64 : Int32) vs (.int 0) ∧ own_U vs 64 48 (-1) := ⟨_, Va97, hU47.step (by decide)⟩
  refine own_st (T' := T97) (g' := (mkF m 239 #[] [(.ref b1), (.ref b1)])) (fun t9 k9 => XS.dup X97.here hx rfl (hb hby d11_238) rfl rfl k9) ?_
  refine own_st (T' := T97) (g' := (mkF m 241 #[] [(.int (48 : Int32)), (.ref b1), (.ref b1)])) (fun t9 k9 => XS.bipush X97.here hx rfl (hb hby d11_239) k9) ?_
  refine own_st (T' := T97) (g' := (mkF m 242 #[] [(.int (-1 : Int32)), (.int (48 : Int32)), (.ref b1), (.ref b1)])) (fun t9 k9 => XS.iconst X97.here hx rfl (hb hby d11_241) k9) ?_
  obtain ⟨clu98, Aru98, qu98, Su98, Nu98, Hu98, Gu98⟩ := (id Wv48)
  obtain ⟨T99, h99, X99, e99, W99, st99⟩ := stI X97 hx hZ e97 Aru98 (j := (48 : Int32)) (inb_of Su98 ⟨by decide, by decide⟩) (g := (mkF m 242 #[] [(.int (-1 : Int32)), (.int (48 : Int32)), (.ref b1), (.ref b1)])) rfl rfl (hb hby d11_242)
  have Va99 := Arv.set Aru98 qu98 Su98 Nu98 Hu98 Gu98 rfl W99 48 rfl (by rw [hU48.1]; decide)
  have K99 := K97.wr W99 (Or.inr sz_b1)
  have N99 := Fr.snoc X99 N97 g_b1
  have Z99 : n0 ≤ h99.size := by rw [W99.size]; exact Z97
  refine own_st (T' := T99) (g' := (mkF m 243 #[] [(.ref b1)])) (fun t9 k9 => st99 t9 k9) ?_
  obtain ⟨vs49, Wv49, hU49⟩ : ∃ vs, Arv Z h99 b1 k1 .int (64 : Int32) vs (.int 0) ∧ own_U vs 64 49 (-1) := ⟨_, Va99, hU48.step (by decide)⟩
  refine own_st (T' := T99) (g' := (mkF m 244 #[] [(.ref b1), (.ref b1)])) (fun t9 k9 => XS.dup X99.here hx rfl (hb hby d11_243) rfl rfl k9) ?_
  refine own_st (T' := T99) (g' := (mkF m 246 #[] [(.int (49 : Int32)), (.ref b1), (.ref b1)])) (fun t9 k9 => XS.bipush X99.here hx rfl (hb hby d11_244) k9) ?_
  refine own_st (T' := T99) (g' := (mkF m 247 #[] [(.int (-1 : Int32)), (.int (49 : Int32)), (.ref b1), (.ref b1)])) (fun t9 k9 => XS.iconst X99.here hx rfl (hb hby d11_246) k9) ?_
  obtain ⟨clu100, Aru100, qu100, Su100, Nu100, Hu100, Gu100⟩ := (id Wv49)
  obtain ⟨T101, h101, X101, e101, W101, st101⟩ := stI X99 hx hZ e99 Aru100 (j := (49 : Int32)) (inb_of Su100 ⟨by decide, by decide⟩) (g := (mkF m 247 #[] [(.int (-1 : Int32)), (.int (49 : Int32)), (.ref b1), (.ref b1)])) rfl rfl (hb hby d11_247)
  have Va101 := Arv.set Aru100 qu100 Su100 Nu100 Hu100 Gu100 rfl W101 49 rfl (by rw [hU49.1]; decide)
  have K101 := K99.wr W101 (Or.inr sz_b1)
  have N101 := Fr.snoc X101 N99 g_b1
  have Z101 : n0 ≤ h101.size := by rw [W101.size]; exact Z99
  refine own_st (T' := T101) (g' := (mkF m 248 #[] [(.ref b1)])) (fun t9 k9 => st101 t9 k9) ?_
  obtain ⟨vs50, Wv50, hU50⟩ : ∃ vs, Arv Z h101 b1 k1 .int (64 : Int32) vs (.int 0) ∧ own_U vs 64 50 (-1) := ⟨_, Va101, hU49.step (by decide)⟩
  refine own_st (T' := T101) (g' := (mkF m 249 #[] [(.ref b1), (.ref b1)])) (fun t9 k9 => XS.dup X101.here hx rfl (hb hby d11_248) rfl rfl k9) ?_
  refine own_st (T' := T101) (g' := (mkF m 251 #[] [(.int (50 : Int32)), (.ref b1), (.ref b1)])) (fun t9 k9 => XS.bipush X101.here hx rfl (hb hby d11_249) k9) ?_
  refine own_st (T' := T101) (g' := (mkF m 252 #[] [(.int (-1 : Int32)), (.int (50 : Int32)), (.ref b1), (.ref b1)])) (fun t9 k9 => XS.iconst X101.here hx rfl (hb hby d11_251) k9) ?_
  obtain ⟨clu102, Aru102, qu102, Su102, Nu102, Hu102, Gu102⟩ := (id Wv50)
  obtain ⟨T103, h103, X103, e103, W103, st103⟩ := stI X101 hx hZ e101 Aru102 (j := (50 : Int32)) (inb_of Su102 ⟨by decide, by decide⟩) (g := (mkF m 252 #[] [(.int (-1 : Int32)), (.int (50 : Int32)), (.ref b1), (.ref b1)])) rfl rfl (hb hby d11_252)
  have Va103 := Arv.set Aru102 qu102 Su102 Nu102 Hu102 Gu102 rfl W103 50 rfl (by rw [hU50.1]; decide)
  have K103 := K101.wr W103 (Or.inr sz_b1)
  have N103 := Fr.snoc X103 N101 g_b1
  have Z103 : n0 ≤ h103.size := by rw [W103.size]; exact Z101
  refine own_st (T' := T103) (g' := (mkF m 253 #[] [(.ref b1)])) (fun t9 k9 => st103 t9 k9) ?_
  obtain ⟨vs51, Wv51, hU51⟩ : ∃ vs, Arv Z h103 b1 k1 .int (64 : Int32) vs (.int 0) ∧ own_U vs 64 51 (-1) := ⟨_, Va103, hU50.step (by decide)⟩
  refine own_st (T' := T103) (g' := (mkF m 254 #[] [(.ref b1), (.ref b1)])) (fun t9 k9 => XS.dup X103.here hx rfl (hb hby d11_253) rfl rfl k9) ?_
  refine own_st (T' := T103) (g' := (mkF m 256 #[] [(.int (51 : Int32)), (.ref b1), (.ref b1)])) (fun t9 k9 => XS.bipush X103.here hx rfl (hb hby d11_254) k9) ?_
  refine own_st (T' := T103) (g' := (mkF m 257 #[] [(.int (-1 : Int32)), (.int (51 : Int32)), (.ref b1), (.ref b1)])) (fun t9 k9 => XS.iconst X103.here hx rfl (hb hby d11_256) k9) ?_
  obtain ⟨clu104, Aru104, qu104, Su104, Nu104, Hu104, Gu104⟩ := (id Wv51)
  obtain ⟨T105, h105, X105, e105, W105, st105⟩ := stI X103 hx hZ e103 Aru104 (j := (51 : Int32)) (inb_of Su104 ⟨by decide, by decide⟩) (g := (mkF m 257 #[] [(.int (-1 : Int32)), (.int (51 : Int32)), (.ref b1), (.ref b1)])) rfl rfl (hb hby d11_257)
  have Va105 := Arv.set Aru104 qu104 Su104 Nu104 Hu104 Gu104 rfl W105 51 rfl (by rw [hU51.1]; decide)
  have K105 := K103.wr W105 (Or.inr sz_b1)
  have N105 := Fr.snoc X105 N103 g_b1
  have Z105 : n0 ≤ h105.size := by rw [W105.size]; exact Z103
  refine own_st (T' := T105) (g' := (mkF m 258 #[] [(.ref b1)])) (fun t9 k9 => st105 t9 k9) ?_
  obtain ⟨vs52, Wv52, hU52⟩ : ∃ vs, Arv Z h105 b1 k1 .int (64 : Int32) vs (.int 0) ∧ own_U vs 64 52 (-1) := ⟨_, Va105, hU51.step (by decide)⟩
  refine own_st (T' := T105) (g' := (mkF m 259 #[] [(.ref b1), (.ref b1)])) (fun t9 k9 => XS.dup X105.here hx rfl (hb hby d11_258) rfl rfl k9) ?_
  refine own_st (T' := T105) (g' := (mkF m 261 #[] [(.int (52 : Int32)), (.ref b1), (.ref b1)])) (fun t9 k9 => XS.bipush X105.here hx rfl (hb hby d11_259) k9) ?_
  refine own_st (T' := T105) (g' := (mkF m 262 #[] [(.int (-1 : Int32)), (.int (52 : Int32)), (.ref b1), (.ref b1)])) (fun t9 k9 => XS.iconst X105.here hx rfl (hb hby d11_261) k9) ?_
  obtain ⟨clu106, Aru106, qu106, Su106, Nu106, Hu106, Gu106⟩ := (id Wv52)
  obtain ⟨T107, h107, X107, e107, W107, st107⟩ := stI X105 hx hZ e105 Aru106 (j := (52 : Int32)) (inb_of Su106 ⟨by decide, by decide⟩) (g := (mkF m 262 #[] [(.int (-1 : Int32)), (.int (52 : Int32)), (.ref b1), (.ref b1)])) rfl rfl (hb hby d11_262)
  have Va107 := Arv.set Aru106 qu106 Su106 Nu106 Hu106 Gu106 rfl W107 52 rfl (by rw [hU52.1]; decide)
  have K107 := K105.wr W107 (Or.inr sz_b1)
  have N107 := Fr.snoc X107 N105 g_b1
  have Z107 : n0 ≤ h107.size := by rw [W107.size]; exact Z105
  refine own_st (T' := T107) (g' := (mkF m 263 #[] [(.ref b1)])) (fun t9 k9 => st107 t9 k9) ?_
  obtain ⟨vs53, Wv53, hU53⟩ : ∃ vs, Arv Z h107 b1 k1 .int (64 : Int32) vs (.int 0) ∧ own_U vs 64 53 (-1) := ⟨_, Va107, hU52.step (by decide)⟩
  refine own_st (T' := T107) (g' := (mkF m 264 #[] [(.ref b1), (.ref b1)])) (fun t9 k9 => XS.dup X107.here hx rfl (hb hby d11_263) rfl rfl k9) ?_
  refine own_st (T' := T107) (g' := (mkF m 266 #[] [(.int (53 : Int32)), (.ref b1), (.ref b1)])) (fun t9 k9 => XS.bipush X107.here hx rfl (hb hby d11_264) k9) ?_
  refine own_st (T' := T107) (g' := (mkF m 267 #[] [(.int (-1 : Int32)), (.int (53 : Int32)), (.ref b1), (.ref b1)])) (fun t9 k9 => XS.iconst X107.here hx rfl (hb hby d11_266) k9) ?_
  obtain ⟨clu108, Aru108, qu108, Su108, Nu108, Hu108, Gu108⟩ := (id Wv53)
  obtain ⟨T109, h109, X109, e109, W109, st109⟩ := stI X107 hx hZ e107 Aru108 (j := (53 : Int32)) (inb_of Su108 ⟨by decide, by decide⟩) (g := (mkF m 267 #[] [(.int (-1 : Int32)), (.int (53 : Int32)), (.ref b1), (.ref b1)])) rfl rfl (hb hby d11_267)
  have Va109 := Arv.set Aru108 qu108 Su108 Nu108 Hu108 Gu108 rfl W109 53 rfl (by rw [hU53.1]; decide)
  have K109 := K107.wr W109 (Or.inr sz_b1)
  have N109 := Fr.snoc X109 N107 g_b1
  have Z109 : n0 ≤ h109.size := by rw [W109.size]; exact Z107
  refine own_st (T' := T109) (g' := (mkF m 268 #[] [(.ref b1)])) (fun t9 k9 => st109 t9 k9) ?_
  obtain ⟨vs54, Wv54, hU54⟩ : ∃ vs, Arv Z h109 b1 k1 .int (64 : Int32) vs (.int 0) ∧ own_U vs 64 54 (-1) := ⟨_, Va109, hU53.step (by decide)⟩
  refine own_st (T' := T109) (g' := (mkF m 269 #[] [(.ref b1), (.ref b1)])) (fun t9 k9 => XS.dup X109.here hx rfl (hb hby d11_268) rfl rfl k9) ?_
  refine own_st (T' := T109) (g' := (mkF m 271 #[] [(.int (54 : Int32)), (.ref b1), (.ref b1)])) (fun t9 k9 => XS.bipush X109.here hx rfl (hb hby d11_269) k9) ?_
  refine own_st (T' := T109) (g' := (mkF m 272 #[] [(.int (-1 : Int32)), (.int (54 : Int32)), (.ref b1), (.ref b1)])) (fun t9 k9 => XS.iconst X109.here hx rfl (hb hby d11_271) k9) ?_
  obtain ⟨clu110, Aru110, qu110, Su110, Nu110, Hu110, Gu110⟩ := (id Wv54)
  obtain ⟨T111, h111, X111, e111, W111, st111⟩ := stI X109 hx hZ e109 Aru110 (j := (54 : Int32)) (inb_of Su110 ⟨by decide, by decide⟩) (g := (mkF m 272 #[] [(.int (-1 : Int32)), (.int (54 : Int32)), (.ref b1), (.ref b1)])) rfl rfl (hb hby d11_272)
  have Va111 := Arv.set Aru110 qu110 Su110 Nu110 Hu110 Gu110 rfl W111 54 rfl (by rw [hU54.1]; decide)
  have K111 := K109.wr W111 (Or.inr sz_b1)
  have N111 := Fr.snoc X111 N109 g_b1
  have Z111 : n0 ≤ h111.size := by rw [W111.size]; exact Z109
  refine own_st (T' := T111) (g' := (mkF m 273 #[] [(.ref b1)])) (fun t9 k9 => st111 t9 k9) ?_
  obtain ⟨vs55, Wv55, hU55⟩ : ∃ vs, Arv Z h111 b1 k1 .int (64 : Int32) vs (.int 0) ∧ own_U vs 64 55 (-1) := ⟨_, Va111, hU54.step (by decide)⟩
  refine own_st (T' := T111) (g' := (mkF m 274 #[] [(.ref b1), (.ref b1)])) (fun t9 k9 => XS.dup X111.here hx rfl (hb hby d11_273) rfl rfl k9) ?_
  refine own_st (T' := T111) (g' := (mkF m 276 #[] [(.int (55 : Int32)), (.ref b1), (.ref b1)])) (fun t9 k9 => XS.bipush X111.here hx rfl (hb hby d11_274) k9) ?_
  refine own_st (T' := T111) (g' := (mkF m 277 #[] [(.int (-1 : Int32)), (.int (55 : Int32)), (.ref b1), (.ref b1)])) (fun t9 k9 => XS.iconst X111.here hx rfl (hb hby d11_276) k9) ?_
  obtain ⟨clu112, Aru112, qu112, Su112, Nu112, Hu112, Gu112⟩ := (id Wv55)
  obtain ⟨T113, h113, X113, e113, W113, st113⟩ := stI X111 hx hZ e111 Aru112 (j := (55 : Int32)) (inb_of Su112 ⟨by decide, by decide⟩) (g := (mkF m 277 #[] [(.int (-1 : Int32)), (.int (55 : Int32)), (.ref b1), (.ref b1)])) rfl rfl (hb hby d11_277)
  have Va113 := Arv.set Aru112 qu112 Su112 Nu112 Hu112 Gu112 rfl W113 55 rfl (by rw [hU55.1]; decide)
  have K113 := K111.wr W113 (Or.inr sz_b1)
  have N113 := Fr.snoc X113 N111 g_b1
  have Z113 : n0 ≤ h113.size := by rw [W113.size]; exact Z111
  refine own_st (T' := T113) (g' := (mkF m 278 #[] [(.ref b1)])) (fun t9 k9 => st113 t9 k9) ?_
  obtain ⟨vs56, Wv56, hU56⟩ : ∃ vs, Arv Z h113 b1 k1 .int (64 : Int32) vs (.int 0) ∧ own_U vs 64 56 (-1) := ⟨_, Va113, hU55.step (by decide)⟩
  refine own_st (T' := T113) (g' := (mkF m 279 #[] [(.ref b1), (.ref b1)])) (fun t9 k9 => XS.dup X113.here hx rfl (hb hby d11_278) rfl rfl k9) ?_
  refine own_st (T' := T113) (g' := (mkF m 281 #[] [(.int (56 : Int32)), (.ref b1), (.ref b1)])) (fun t9 k9 => XS.bipush X113.here hx rfl (hb hby d11_279) k9) ?_
  refine own_st (T' := T113) (g' := (mkF m 282 #[] [(.int (-1 : Int32)), (.int (56 : Int32)), (.ref b1), (.ref b1)])) (fun t9 k9 => XS.iconst X113.here hx rfl (hb hby d11_281) k9) ?_
  obtain ⟨clu114, Aru114, qu114, Su114, Nu114, Hu114, Gu114⟩ := (id Wv56)
  obtain ⟨T115, h115, X115, e115, W115, st115⟩ := stI X113 hx hZ e113 Aru114 (j := (56 : Int32)) (inb_of Su114 ⟨by decide, by decide⟩) (g := (mkF m 282 #[] [(.int (-1 : Int32)), (.int (56 : Int32)), (.ref b1), (.ref b1)])) rfl rfl (hb hby d11_282)
  have Va115 := Arv.set Aru114 qu114 Su114 Nu114 Hu114 Gu114 rfl W115 56 rfl (by rw [hU56.1]; decide)
  have K115 := K113.wr W115 (Or.inr sz_b1)
  have N115 := Fr.snoc X115 N113 g_b1
  have Z115 : n0 ≤ h115.size := by rw [W115.size]; exact Z113
  refine own_st (T' := T115) (g' := (mkF m 283 #[] [(.ref b1)])) (fun t9 k9 => st115 t9 k9) ?_
  obtain ⟨vs57, Wv57, hU57⟩ : ∃ vs, Arv Z h115 b1 k1 .int (64 : Int32) vs (.int 0) ∧ own_U vs 64 57 (-1) := ⟨_, Va115, hU56.step (by decide)⟩
  refine own_st (T' := T115) (g' := (mkF m 284 #[] [(.ref b1), (.ref b1)])) (fun t9 k9 => XS.dup X115.here hx rfl (hb hby d11_283) rfl rfl k9) ?_
  refine own_st (T' := T115) (g' := (mkF m 286 #[] [(.int (57 : Int32)), (.ref b1), (.ref b1)])) (fun t9 k9 => XS.bipush X115.here hx rfl (hb hby d11_284) k9) ?_
  refine own_st (T' := T115) (g' := (mkF m 287 #[] [(.int (-1 : Int32)), (.int (57 : Int32)), (.ref b1), (.ref b1)])) (fun t9 k9 => XS.iconst X115.here hx rfl (hb hby d11_286) k9) ?_
  obtain ⟨clu116, Aru116, qu116, Su116, Nu116, Hu116, Gu116⟩ := (id Wv57)
  obtain ⟨T117, h117, X117, e117, W117, st117⟩ := stI X115 hx hZ e115 Aru116 (j := (57 : Int32)) (inb_of Su116 ⟨by decide, by decide⟩) (g := (mkF m 287 #[] [(.int (-1 : Int32)), (.int (57 : Int32)), (.ref b1), (.ref b1)])) rfl rfl (hb hby d11_287)
  have Va117 := Arv.set Aru116 qu116 Su116 Nu116 Hu116 Gu116 rfl W117 57 rfl (by rw [hU57.1]; decide)
  have K117 := K115.wr W117 (Or.inr sz_b1)
  have N117 := Fr.snoc X117 N115 g_b1
  have Z117 : n0 ≤ h117.size := by rw [W117.size]; exact Z115
  refine own_st (T' := T117) (g' := (mkF m 288 #[] [(.ref b1)])) (fun t9 k9 => st117 t9 k9) ?_
  obtain ⟨vs58, Wv58, hU58⟩ : ∃ vs, Arv Z h117 b1 k1 .int (64 : Int32) vs (.int 0) ∧ own_U vs 64 58 (-1) := ⟨_, Va117, hU57.step (by decide)⟩
  refine own_st (T' := T117) (g' := (mkF m 289 #[] [(.ref b1), (.ref b1)])) (fun t9 k9 => XS.dup X117.here hx rfl (hb hby d11_288) rfl rfl k9) ?_
  refine own_st (T' := T117) (g' := (mkF m 291 #[] [(.int (58 : Int32)), (.ref b1), (.ref b1)])) (fun t9 k9 => XS.bipush X117.here hx rfl (hb hby d11_289) k9) ?_
  refine own_st (T' := T117) (g' := (mkF m 292 #[] [(.int (-1 : Int32)), (.int (58 : Int32)), (.ref b1), (.ref b1)])) (fun t9 k9 => XS.iconst X117.here hx rfl (hb hby d11_291) k9) ?_
  obtain ⟨clu118, Aru118, qu118, Su118, Nu118, Hu118, Gu118⟩ := (id Wv58)
  obtain ⟨T119, h119, X119, e119, W119, st119⟩ := stI X117 hx hZ e117 Aru118 (j := (58 : Int32)) (inb_of Su118 ⟨by decide, by decide⟩) (g := (mkF m 292 #[] [(.int (-1 : Int32)), (.int (58 : Int32)), (.ref b1), (.ref b1)])) rfl rfl (hb hby d11_292)
  have Va119 := Arv.set Aru118 qu118 Su118 Nu118 Hu118 Gu118 rfl W119 58 rfl (by rw [hU58.1]; decide)
  have K119 := K117.wr W119 (Or.inr sz_b1)
  have N119 := Fr.snoc X119 N117 g_b1
  have Z119 : n0 ≤ h119.size := by rw [W119.size]; exact Z117
  refine own_st (T' := T119) (g' := (mkF m 293 #[] [(.ref b1)])) (fun t9 k9 => st119 t9 k9) ?_
  obtain ⟨vs59, Wv59, hU59⟩ : ∃ vs, Arv Z h119 b1 k1 .int (64 : Int32) vs (.int 0) ∧ own_U vs 64 59 (-1) := ⟨_, Va119, hU58.step (by decide)⟩
  refine own_st (T' := T119) (g' := (mkF m 294 #[] [(.ref b1), (.ref b1)])) (fun t9 k9 => XS.dup X119.here hx rfl (hb hby d11_293) rfl rfl k9) ?_
  refine own_st (T' := T119) (g' := (mkF m 296 #[] [(.int (59 : Int32)), (.ref b1), (.ref b1)])) (fun t9 k9 => XS.bipush X119.here hx rfl (hb hby d11_294) k9) ?_
  refine own_st (T' := T119) (g' := (mkF m 297 #[] [(.int (-1 : Int32)), (.int (59 : Int32)), (.ref b1), (.ref b1)])) (fun t9 k9 => XS.iconst X119.here hx rfl (hb hby d11_296) k9) ?_
  obtain ⟨clu120, Aru120, qu120, Su120, Nu120, Hu120, Gu120⟩ := (id Wv59)
  obtain ⟨T121, h121, X121, e121, W121, st121⟩ := stI X119 hx hZ e119 Aru120 (j := (59 : Int32)) (inb_of Su120 ⟨by decide, by decide⟩) (g := (mkF m 297 #[] [(.int (-1 : Int32)), (.int (59 : Int32)), (.ref b1), (.ref b1)])) rfl rfl (hb hby d11_297)
  have Va121 := Arv.set Aru120 qu120 Su120 Nu120 Hu120 Gu120 rfl W121 59 rfl (by rw [hU59.1]; decide)
  have K121 := K119.wr W121 (Or.inr sz_b1)
  have N121 := Fr.snoc X121 N119 g_b1
  have Z121 : n0 ≤ h121.size := by rw [W121.size]; exact Z119
  refine own_st (T' := T121) (g' := (mkF m 298 #[] [(.ref b1)])) (fun t9 k9 => st121 t9 k9) ?_
  obtain ⟨vs60, Wv60, hU60⟩ : ∃ vs, Arv Z h121 b1 k1 .int (64 : Int32) vs (.int 0) ∧ own_U vs 64 60 (-1) := ⟨_, Va121, hU59.step (by decide)⟩
  refine own_st (T' := T121) (g' := (mkF m 299 #[] [(.ref b1), (.ref b1)])) (fun t9 k9 => XS.dup X121.here hx rfl (hb hby d11_298) rfl rfl k9) ?_
  refine own_st (T' := T121) (g' := (mkF m 301 #[] [(.int (60 : Int32)), (.ref b1), (.ref b1)])) (fun t9 k9 => XS.bipush X121.here hx rfl (hb hby d11_299) k9) ?_
  refine own_st (T' := T121) (g' := (mkF m 302 #[] [(.int (-1 : Int32)), (.int (60 : Int32)), (.ref b1), (.ref b1)])) (fun t9 k9 => XS.iconst X121.here hx rfl (hb hby d11_301) k9) ?_
  obtain ⟨clu122, Aru122, qu122, Su122, Nu122, Hu122, Gu122⟩ := (id Wv60)
  obtain ⟨T123, h123, X123, e123, W123, st123⟩ := stI X121 hx hZ e121 Aru122 (j := (60 : Int32)) (inb_of Su122 ⟨by decide, by decide⟩) (g := (mkF m 302 #[] [(.int (-1 : Int32)), (.int (60 : Int32)), (.ref b1), (.ref b1)])) rfl rfl (hb hby d11_302)
  have Va123 := Arv.set Aru122 qu122 Su122 Nu122 Hu122 Gu122 rfl W123 60 rfl (by rw [hU60.1]; decide)
  have K123 := K121.wr W123 (Or.inr sz_b1)
  have N123 := Fr.snoc X123 N121 g_b1
  have Z123 : n0 ≤ h123.size := by rw [W123.size]; exact Z121
  refine own_st (T' := T123) (g' := (mkF m 303 #[] [(.ref b1)])) (fun t9 k9 => st123 t9 k9) ?_
  obtain ⟨vs61, Wv61, hU61⟩ : ∃ vs, Arv Z h123 b1 k1 .int (64 : Int32) vs (.int 0) ∧ own_U vs 64 61 (-1) := ⟨_, Va123, hU60.step (by decide)⟩
  refine own_st (T' := T123) (g' := (mkF m 304 #[] [(.ref b1), (.ref b1)])) (fun t9 k9 => XS.dup X123.here hx rfl (hb hby d11_303) rfl rfl k9) ?_
  refine own_st (T' := T123) (g' := (mkF m 306 #[] [(.int (61 : Int32)), (.ref b1), (.ref b1)])) (fun t9 k9 => XS.bipush X123.here hx rfl (hb hby d11_304) k9) ?_
  refine own_st (T' := T123) (g' := (mkF m 307 #[] [(.int (-1 : Int32)), (.int (61 : Int32)), (.ref b1), (.ref b1)])) (fun t9 k9 => XS.iconst X123.here hx rfl (hb hby d11_306) k9) ?_
  obtain ⟨clu124, Aru124, qu124, Su124, Nu124, Hu124, Gu124⟩ := (id Wv61)
  obtain ⟨T125, h125, X125, e125, W125, st125⟩ := stI X123 hx hZ e123 Aru124 (j := (61 : Int32)) (inb_of Su124 ⟨by decide, by decide⟩) (g := (mkF m 307 #[] [(.int (-1 : Int32)), (.int (61 : Int32)), (.ref b1), (.ref b1)])) rfl rfl (hb hby d11_307)
  have Va125 := Arv.set Aru124 qu124 Su124 Nu124 Hu124 Gu124 rfl W125 61 rfl (by rw [hU61.1]; decide)
  have K125 := K123.wr W125 (Or.inr sz_b1)
  have N125 := Fr.snoc X125 N123 g_b1
  have Z125 : n0 ≤ h125.size := by rw [W125.size]; exact Z123
  refine own_st (T' := T125) (g' := (mkF m 308 #[] [(.ref b1)])) (fun t9 k9 => st125 t9 k9) ?_
  obtain ⟨vs62, Wv62, hU62⟩ : ∃ vs, Arv Z h125 b1 k1 .int (64 : Int32) vs (.int 0) ∧ own_U vs 64 62 (-1) := ⟨_, Va125, hU61.step (by decide)⟩
  refine own_st (T' := T125) (g' := (mkF m 309 #[] [(.ref b1), (.ref b1)])) (fun t9 k9 => XS.dup X125.here hx rfl (hb hby d11_308) rfl rfl k9) ?_
  refine own_st (T' := T125) (g' := (mkF m 311 #[] [(.int (62 : Int32)), (.ref b1), (.ref b1)])) (fun t9 k9 => XS.bipush X125.here hx rfl (hb hby d11_309) k9) ?_
  refine own_st (T' := T125) (g' := (mkF m 312 #[] [(.int (-1 : Int32)), (.int (62 : Int32)), (.ref b1), (.ref b1)])) (fun t9 k9 => XS.iconst X125.here hx rfl (hb hby d11_311) k9) ?_
  obtain ⟨clu126, Aru126, qu126, Su126, Nu126, Hu126, Gu126⟩ := (id Wv62)
  obtain ⟨T127, h127, X127, e127, W127, st127⟩ := stI X125 hx hZ e125 Aru126 (j := (62 : Int32)) (inb_of Su126 ⟨by decide, by decide⟩) (g := (mkF m 312 #[] [(.int (-1 : Int32)), (.int (62 : Int32)), (.ref b1), (.ref b1)])) rfl rfl (hb hby d11_312)
  have Va127 := Arv.set Aru126 qu126 Su126 Nu126 Hu126 Gu126 rfl W127 62 rfl (by rw [hU62.1]; decide)
  have K127 := K125.wr W127 (Or.inr sz_b1)
  have N127 := Fr.snoc X127 N125 g_b1
  have Z127 : n0 ≤ h127.size := by rw [W127.size]; exact Z125
  refine own_st (T' := T127) (g' := (mkF m 313 #[] [(.ref b1)])) (fun t9 k9 => st127 t9 k9) ?_
  obtain ⟨vs63, Wv63, hU63⟩ : ∃ vs, Arv Z h127 b1 k1 .int (64 : Int32) vs (.int 0) ∧ own_U vs 64 63 (-1) := ⟨_, Va127, hU62.step (by decide)⟩
  refine own_st (T' := T127) (g' := (mkF m 314 #[] [(.ref b1), (.ref b1)])) (fun t9 k9 => XS.dup X127.here hx rfl (hb hby d11_313) rfl rfl k9) ?_
  refine own_st (T' := T127) (g' := (mkF m 316 #[] [(.int (63 : Int32)), (.ref b1), (.ref b1)])) (fun t9 k9 => XS.bipush X127.here hx rfl (hb hby d11_314) k9) ?_
  refine own_st (T' := T127) (g' := (mkF m 317 #[] [(.int (-1 : Int32)), (.int (63 : Int32)), (.ref b1), (.ref b1)])) (fun t9 k9 => XS.iconst X127.here hx rfl (hb hby d11_316) k9) ?_
  obtain ⟨clu128, Aru128, qu128, Su128, Nu128, Hu128, Gu128⟩ := (id Wv63)
  obtain ⟨T129, h129, X129, e129, W129, st129⟩ := stI X127 hx hZ e127 Aru128 (j := (63 : Int32)) (inb_of Su128 ⟨by decide, by decide⟩) (g := (mkF m 317 #[] [(.int (-1 : Int32)), (.int (63 : Int32)), (.ref b1), (.ref b1)])) rfl rfl (hb hby d11_317)
  have Va129 := Arv.set Aru128 qu128 Su128 Nu128 Hu128 Gu128 rfl W129 63 rfl (by rw [hU63.1]; decide)
  have K129 := K127.wr W129 (Or.inr sz_b1)
  have N129 := Fr.snoc X129 N127 g_b1
  have Z129 : n0 ≤ h129.size := by rw [W129.size]; exact Z127
  refine own_st (T' := T129) (g' := (mkF m 318 #[] [(.ref b1)])) (fun t9 k9 => st129 t9 k9) ?_
  obtain ⟨vs64, Wv64, hU64⟩ : ∃ vs, Arv Z h129 b1 k1 .int (64 : Int32) vs (.int 0) ∧ own_U vs 64 64 (-1) := ⟨_, Va129, hU63.step (by decide)⟩
  have hall := hU64.all
  subst hall
  refine own_ret (v := some (.ref b1)) hF X129 (own_some hret) hlk (fun fs hr => own_retA X129 hx hret rfl rfl (hb hby d11_318) hr) ?_ (by decide) (by decide)
  try rw [e129]
  exact ⟨b1, k1, rfl, N129, K129, sz_b1, g_b1, Wv64⟩
theorem d9_0 : decode prog_89_method_6_code 0 = .ok (.ldc2_w 80, 3) := by decide +kernel
theorem d9_3 : decode prog_89_method_6_code 3 = .ok (.ldc2_w 84, 3) := by decide +kernel
theorem d9_6 : decode prog_89_method_6_code 6 = .ok (.aload_n 0, 1) := by decide +kernel
theorem d9_7 : decode prog_89_method_6_code 7 = .ok (.getfield 25, 3) := by decide +kernel
theorem d9_10 : decode prog_89_method_6_code 10 = .ok (.i2l, 1) := by decide +kernel
theorem d9_11 : decode prog_89_method_6_code 11 = .ok (.lmul, 1) := by decide +kernel
theorem d9_12 : decode prog_89_method_6_code 12 = .ok (.invokestatic 86, 3) := by decide +kernel
theorem d9_15 : decode prog_89_method_6_code 15 = .ok (.lmul, 1) := by decide +kernel
theorem d9_16 : decode prog_89_method_6_code 16 = .ok (.lstore_n 1, 1) := by decide +kernel
theorem d9_17 : decode prog_89_method_6_code 17 = .ok (.lload_n 1, 1) := by decide +kernel
theorem d9_18 : decode prog_89_method_6_code 18 = .ok (.ldc2_w 84, 3) := by decide +kernel
theorem d9_21 : decode prog_89_method_6_code 21 = .ok (.aload_n 0, 1) := by decide +kernel
theorem d9_22 : decode prog_89_method_6_code 22 = .ok (.getfield 25, 3) := by decide +kernel
theorem d9_25 : decode prog_89_method_6_code 25 = .ok (.i2l, 1) := by decide +kernel
theorem d9_26 : decode prog_89_method_6_code 26 = .ok (.lmul, 1) := by decide +kernel
theorem d9_27 : decode prog_89_method_6_code 27 = .ok (.invokestatic 86, 3) := by decide +kernel
theorem d9_30 : decode prog_89_method_6_code 30 = .ok (.ladd, 1) := by decide +kernel
theorem d9_31 : decode prog_89_method_6_code 31 = .ok (.lstore_n 1, 1) := by decide +kernel
theorem d9_32 : decode prog_89_method_6_code 32 = .ok (.iconst 0, 1) := by decide +kernel
theorem d9_33 : decode prog_89_method_6_code 33 = .ok (.istore_n 3, 1) := by decide +kernel
theorem d9_34 : decode prog_89_method_6_code 34 = .ok (.iload_n 3, 1) := by decide +kernel
theorem d9_35 : decode prog_89_method_6_code 35 = .ok (.aload_n 0, 1) := by decide +kernel
theorem d9_36 : decode prog_89_method_6_code 36 = .ok (.getfield 25, 3) := by decide +kernel
theorem d9_39 : decode prog_89_method_6_code 39 = .ok (.if_icmp .ge 45, 3) := by decide +kernel
theorem d9_42 : decode prog_89_method_6_code 42 = .ok (.lload_n 1, 1) := by decide +kernel
theorem d9_43 : decode prog_89_method_6_code 43 = .ok (.ldc2_w 90, 3) := by decide +kernel
theorem d9_46 : decode prog_89_method_6_code 46 = .ok (.aload_n 0, 1) := by decide +kernel
theorem d9_47 : decode prog_89_method_6_code 47 = .ok (.getfield 30, 3) := by decide +kernel
theorem d9_50 : decode prog_89_method_6_code 50 = .ok (.iload_n 3, 1) := by decide +kernel
theorem d9_51 : decode prog_89_method_6_code 51 = .ok (.aaload, 1) := by decide +kernel
theorem d9_52 : decode prog_89_method_6_code 52 = .ok (.arraylength, 1) := by decide +kernel
theorem d9_53 : decode prog_89_method_6_code 53 = .ok (.i2l, 1) := by decide +kernel
theorem d9_54 : decode prog_89_method_6_code 54 = .ok (.lmul, 1) := by decide +kernel
theorem d9_55 : decode prog_89_method_6_code 55 = .ok (.invokestatic 86, 3) := by decide +kernel
theorem d9_58 : decode prog_89_method_6_code 58 = .ok (.ladd, 1) := by decide +kernel
theorem d9_59 : decode prog_89_method_6_code 59 = .ok (.lstore_n 1, 1) := by decide +kernel
theorem d9_60 : decode prog_89_method_6_code 60 = .ok (.lload_n 1, 1) := by decide +kernel
theorem d9_61 : decode prog_89_method_6_code 61 = .ok (.ldc2_w 84, 3) := by decide +kernel
theorem d9_64 : decode prog_89_method_6_code 64 = .ok (.aload_n 0, 1) := by decide +kernel
theorem d9_65 : decode prog_89_method_6_code 65 = .ok (.getfield 35, 3) := by decide +kernel
theorem d9_68 : decode prog_89_method_6_code 68 = .ok (.iload_n 3, 1) := by decide +kernel
theorem d9_69 : decode prog_89_method_6_code 69 = .ok (.aaload, 1) := by decide +kernel
theorem d9_70 : decode prog_89_method_6_code 70 = .ok (.arraylength, 1) := by decide +kernel
theorem d9_71 : decode prog_89_method_6_code 71 = .ok (.i2l, 1) := by decide +kernel
theorem d9_72 : decode prog_89_method_6_code 72 = .ok (.lmul, 1) := by decide +kernel
theorem d9_73 : decode prog_89_method_6_code 73 = .ok (.invokestatic 86, 3) := by decide +kernel
theorem d9_76 : decode prog_89_method_6_code 76 = .ok (.ladd, 1) := by decide +kernel
theorem d9_77 : decode prog_89_method_6_code 77 = .ok (.lstore_n 1, 1) := by decide +kernel
theorem d9_78 : decode prog_89_method_6_code 78 = .ok (.iinc 3 1, 3) := by decide +kernel
theorem d9_81 : decode prog_89_method_6_code 81 = .ok (.goto (-47), 3) := by decide +kernel
theorem d9_84 : decode prog_89_method_6_code 84 = .ok (.lload_n 1, 1) := by decide +kernel
theorem d9_85 : decode prog_89_method_6_code 85 = .ok (.lreturn, 1) := by decide +kernel
theorem pn_9 : plainFor (⟨"com/example/newsweave/newsweave/nas/PlaceRecords", "heap", "()J"⟩ : MethodName) = true := plainFor_of_name (by first | (simp [plainName, overriddenIn]; done) | decide +kernel)
set_option maxRecDepth 65536 in
set_option maxHeartbeats 40000000 in
theorem rm9 (l : Launch) (Z : State) (a0 : Array Value) (hw : ∀ d ∈ tables_1, d.before a0 Z = true) (a1 ro ob : Nat) (kro kob : ClassId) (lv wn : Nat) (h0 : Heap) (n0 : Nat) (Z0 : n0 ≤ h0.size) (Fl : Fld Z h0 a1 "com/example/newsweave/newsweave/nas/PlaceRecords" "levels" "I" (.int (Int32.ofNat lv))) (Fr1 : Fld Z h0 a1 "com/example/newsweave/newsweave/nas/PlaceRecords" "rows" "[[J" (.ref ro)) (Fo : Fld Z h0 a1 "com/example/newsweave/newsweave/nas/PlaceRecords" "onesBefore" "[[I" (.ref ob)) (Vro : Arv Z h0 ro kro (.array .long) (Int32.ofNat lv) ((own_xs ro lv).map Value.ref) .null) (Vob : Arv Z h0 ob kob (.array .int) (Int32.ofNat lv) ((own_xs ob lv).map Value.ref) .null) (Gx : own_Rows Z h0 ro lv .long wn (.long 0) lv) (Gy : own_Rows Z h0 ob lv .int wn (.int 0) lv) (hlv : lv ≤ 32) (hwn : wn ≤ 2) :
    own_Met l Z (⟨"com/example/newsweave/newsweave/nas/PlaceRecords", "heap", "()J"⟩ : MethodName) prog_89_method_6_code 4 (some .long) ({ frames := 1, cells := 0, slots := 0, locals := 17 } : Room) #[(.ref a1)] h0 (fun v h L => v = some (.long (own_acc lv wn lv)) ∧ Fr n0 L ∧ h = h0) := by
  refine own_body pn_9 ?_
  intro p e s m below meth c T0 hZ hx hby hml hown hnm hret hlk X0 e0 F hF
  have N0 := Fr.nil n0
  have K0 := Keep.refl h0 []
  refine own_cast (g' := (mkF m 0 #[.val (.ref a1), .unset, .unset, .unset] [])) (by first | (simp [entryFrame, mkF, argsToLocals, Value.category]; done) | rfl) ?_
  refine own_st (T' := T0) (g' := (mkF m 3 #[.val (.ref a1), .unset, .unset, .unset] [(.long (2 : Int64))])) (fun t9 k9 => X0.ldc2Long hx hown (mvT hZ (hw _ (List.mem_of_getElem? (i := 63) rfl))) (g := (mkF m 0 #[.val (.ref a1), .unset, .unset, .unset] [])) rfl (hb hby d9_0) t9 k9) ?_
  refine own_st (T' := T0) (g' := (mkF m 6 #[.val (.ref a1), .unset, .unset, .unset] [(.long (4 : Int64)), (.long (2 : Int64))])) (fun t9 k9 => X0.ldc2Long hx hown (mvT hZ (hw _ (List.mem_of_getElem? (i := 64) rfl))) (g := (mkF m 3 #[.val (.ref a1), .unset, .unset, .unset] [(.long (2 : Int64))])) rfl (hb hby d9_3) t9 k9) ?_
  refine own_st (T' := T0) (g' := (mkF m 7 #[.val (.ref a1), .unset, .unset, .unset] [(.ref a1), (.long (4 : Int64)), (.long (2 : Int64))])) (fun t9 k9 => XS.aloadN X0.here hx rfl (hb hby d9_6) rfl rfl k9) ?_
  obtain ⟨T1, X1, e1, st1⟩ := getF X0 hx hZ hown (host := "") (Or.inl (hw _ (List.mem_of_getElem? (i := 21) rfl))) Via.refl e0 Fl (g := (mkF m 7 #[.val (.ref a1), .unset, .unset, .unset] [(.ref a1), (.long (4 : Int64)), (.long (2 : Int64))])) rfl rfl (hb hby d9_7)
  refine own_st (T' := T1) (g' := (mkF m 10 #[.val (.ref a1), .unset, .unset, .unset] [(.int (Int32.ofNat lv)), (.long (4 : Int64)), (.long (2 : Int64))])) (fun t9 k9 => st1 t9 k9) ?_
  refine own_st (T' := T1) (g' := (mkF m 11 #[.val (.ref a1), .unset, .unset, .unset] [(.long ((Int32.ofNat lv).toInt64)), (.long (4 : Int64)), (.long (2 : Int64))])) (fun t9 k9 => XS.i2l X1.here hx rfl (hb hby d9_10) rfl k9) ?_
  refine own_st (T' := T1) (g' := (mkF m 12 #[.val (.ref a1), .unset, .unset, .unset] [(.long ((4 : Int64) * ((Int32.ofNat lv).toInt64))), (.long (2 : Int64))])) (fun t9 k9 => XS.lmul X1.here hx rfl (hb hby d9_11) rfl k9) ?_
  obtain ⟨_, _, ⟨T2, L2, k2, n2⟩, -, X2, ⟨Lc2, hQ2, l2, y2, z2⟩, st2⟩ := Jvm.LawKit.callS X1 hx (y := (⟨"com/example/newsweave/newsweave/core/HeapSizes", "ofArray", "(J)J"⟩ : MethodName)) hown (mvT hZ (hw _ (List.mem_of_getElem? (i := 65) rfl))) (mvT hZ (hw _ (List.mem_of_getElem? (i := 66) rfl))) (mvT hZ (hw _ (List.mem_of_getElem? (i := 67) rfl))) (mvT hZ (hw _ (List.mem_of_getElem? (i := 68) rfl))) (by decide) (own_back (W := 2) (rm10 l Z a0 hw ((4 : Int64) * ((Int32.ofNat lv).toInt64)) h0 n0 Z0 (own_padn hlv).1) hZ (hw _ (List.mem_of_getElem? (i := 68) rfl)) (hw _ (List.mem_of_getElem? (i := 67) rfl)) (by decide) (by decide)) (g := (mkF m 12 #[.val (.ref a1), .unset, .unset, .unset] [(.long ((4 : Int64) * ((Int32.ofNat lv).toInt64))), (.long (2 : Int64))])) rfl (by rw [hml]; rfl) (argsL := [(.long ((4 : Int64) * ((Int32.ofNat lv).toInt64)))]) (rest := [(.long (2 : Int64))]) (lenOf pd_6 rfl) rfl (by show 2 * 0 + _ ≤ _; exact Nat.le_of_eq rfl) (hb hby d9_12) (fun _ _ => ⟨rfl, e1, (Nat.le_of_ble_eq_true rfl), (Nat.le_of_ble_eq_true rfl)⟩)
  dsimp only [Pt.U, Pt.locs, Pt.cells, Pt.slots] at X2 l2 y2 z2 st2 hQ2
  subst l2 y2 z2
  obtain ⟨rfl, Nq2, he2⟩ := hQ2
  have N2 := Fr.app N0 Nq2
  have e2 : T2.heap = h0 := he2
  refine own_st (T' := T2) (g' := (mkF m 15 #[.val (.ref a1), .unset, .unset, .unset] [(.long (own_pad ((4 : Int64) * ((Int32.ofNat lv).toInt64)))), (.long (2 : Int64))])) (fun t9 k9 => st2 t9 k9) ?_
  refine own_st (T' := T2) (g' := (mkF m 16 #[.val (.ref a1), .unset, .unset, .unset] [(.long ((2 : Int64) * (own_pad ((4 : Int64) * ((Int32.ofNat lv).toInt64)))))])) (fun t9 k9 => XS.lmul X2.here hx rfl (hb hby d9_15) rfl k9) ?_
  refine own_st (T' := T2) (g' := (mkF m 17 #[.val (.ref a1), .val (.long ((2 : Int64) * (own_pad ((4 : Int64) * ((Int32.ofNat lv).toInt64))))), .second, .unset] [])) (fun t9 k9 => XS.lstoreN X2.here hx rfl (hb hby d9_16) rfl (l' := #[.val (.ref a1), .val (.long ((2 : Int64) * (own_pad ((4 : Int64) * ((Int32.ofNat lv).toInt64))))), .second, .unset]) rfl k9) ?_
  refine own_st (T' := T2) (g' := (mkF m 18 #[.val (.ref a1), .val (.long ((2 : Int64) * (own_pad ((4 : Int64) * ((Int32.ofNat lv).toInt64))))), .second, .unset] [(.long ((2 : Int64) * (own_pad ((4 : Int64) * ((Int32.ofNat lv).toInt64)))))])) (fun t9 k9 => XS.lloadN X2.here hx rfl (hb hby d9_17) rfl k9) ?_
  refine own_st (T' := T2) (g' := (mkF m 21 #[.val (.ref a1), .val (.long ((2 : Int64) * (own_pad ((4 : Int64) * ((Int32.ofNat lv).toInt64))))), .second, .unset] [(.long (4 : Int64)), (.long ((2 : Int64) * (own_pad ((4 : Int64) * ((Int32.ofNat lv).toInt64)))))])) (fun t9 k9 => X2.ldc2Long hx hown (mvT hZ (hw _ (List.mem_of_getElem? (i := 64) rfl))) (g := (mkF m 18 #[.val (.ref a1), .val (.long ((2 : Int64) * (own_pad ((4 : Int64) * ((Int32.ofNat lv).toInt64))))), .second, .unset] [(.long ((2 : Int64) * (own_pad ((4 : Int64) * ((Int32.ofNat lv).toInt64)))))])) rfl (hb hby d9_18) t9 k9) ?_
  refine own_st (T' := T2) (g' := (mkF m 22 #[.val (.ref a1), .val (.long ((2 : Int64) * (own_pad ((4 : Int64) * ((Int32.ofNat lv).toInt64))))), .second, .unset] [(.ref a1), (.long (4 : Int64)), (.long ((2 : Int64) * (own_pad ((4 : Int64) * ((Int32.ofNat lv).toInt64)))))])) (fun t9 k9 => XS.aloadN X2.here hx rfl (hb hby d9_21) rfl rfl k9) ?_
  obtain ⟨T3, X3, e3, st3⟩ := getF X2 hx hZ hown (host := "") (Or.inl (hw _ (List.mem_of_getElem? (i := 21) rfl))) Via.refl e2 Fl (g := (mkF m 22 #[.val (.ref a1), .val (.long ((2 : Int64) * (own_pad ((4 : Int64) * ((Int32.ofNat lv).toInt64))))), .second, .unset] [(.ref a1), (.long (4 : Int64)), (.long ((2 : Int64) * (own_pad ((4 : Int64) * ((Int32.ofNat lv).toInt64)))))])) rfl rfl (hb hby d9_22)
  refine own_st (T' := T3) (g' := (mkF m 25 #[.val (.ref a1), .val (.long ((2 : Int64) * (own_pad ((4 : Int64) * ((Int32.ofNat lv).toInt64))))), .second, .unset] [(.int (Int32.ofNat lv)), (.long (4 : Int64)), (.long ((2 : Int64) * (own_pad ((4 : Int64) * ((Int32.ofNat lv).toInt64)))))])) (fun t9 k9 => st3 t9 k9) ?_
  refine own_st (T' := T3) (g' := (mkF m 26 #[.val (.ref a1), .val (.long ((2 : Int64) * (own_pad ((4 : Int64) * ((Int32.ofNat lv).toInt64))))), .second, .unset] [(.long ((Int32.ofNat lv).toInt64)), (.long (4 : Int64)), (.long ((2 : Int64) * (own_pad ((4 : Int64) * ((Int32.ofNat lv).toInt64)))))])) (fun t9 k9 => XS.i2l X3.here hx rfl (hb hby d9_25) rfl k9) ?_
  refine own_st (T' := T3) (g' := (mkF m 27 #[.val (.ref a1), .val (.long ((2 : Int64) * (own_pad ((4 : Int64) * ((Int32.ofNat lv).toInt64))))), .second, .unset] [(.long ((4 : Int64) * ((Int32.ofNat lv).toInt64))), (.long ((2 : Int64) * (own_pad ((4 : Int64) * ((Int32.ofNat lv).toInt64)))))])) (fun t9 k9 => XS.lmul X3.here hx rfl (hb hby d9_26) rfl k9) ?_
  obtain ⟨_, _, ⟨T4, L4, k4, n4⟩, -, X4, ⟨Lc4, hQ4, l4, y4, z4⟩, st4⟩ := Jvm.LawKit.callS X3 hx (y := (⟨"com/example/newsweave/newsweave/core/HeapSizes", "ofArray", "(J)J"⟩ : MethodName)) hown (mvT hZ (hw _ (List.mem_of_getElem? (i := 65) rfl))) (mvT hZ (hw _ (List.mem_of_getElem? (i := 66) rfl))) (mvT hZ (hw _ (List.mem_of_getElem? (i := 67) rfl))) (mvT hZ (hw _ (List.mem_of_getElem? (i := 68) rfl))) (by decide) (own_back (W := 2) (rm10 l Z a0 hw ((4 : Int64) * ((Int32.ofNat lv).toInt64)) h0 n0 Z0 (own_padn hlv).1) hZ (hw _ (List.mem_of_getElem? (i := 68) rfl)) (hw _ (List.mem_of_getElem? (i := 67) rfl)) (by decide) (by decide)) (g := (mkF m 27 #[.val (.ref a1), .val (.long ((2 : Int64) * (own_pad ((4 : Int64) * ((Int32.ofNat lv).toInt64))))), .second, .unset] [(.long ((4 : Int64) * ((Int32.ofNat lv).toInt64))), (.long ((2 : Int64) * (own_pad ((4 : Int64) * ((Int32.ofNat lv).toInt64)))))])) rfl (by rw [hml]; rfl) (argsL := [(.long ((4 : Int64) * ((Int32.ofNat lv).toInt64)))]) (rest := [(.long ((2 : Int64) * (own_pad ((4 : Int64) * ((Int32.ofNat lv).toInt64)))))]) (lenOf pd_6 rfl) rfl (by show 2 * 0 + _ ≤ _; exact Nat.le_of_eq rfl) (hb hby d9_27) (fun _ _ => ⟨rfl, e3, (Nat.le_of_ble_eq_true rfl), (Nat.le_of_ble_eq_true rfl)⟩)
  dsimp only [Pt.U, Pt.locs, Pt.cells, Pt.slots] at X4 l4 y4 z4 st4 hQ4
  subst l4 y4 z4
  obtain ⟨rfl, Nq4, he4⟩ := hQ4
  have N4 := Fr.app N2 Nq4
  have e4 : T4.heap = h0 := he4
  refine own_st (T' := T4) (g' := (mkF m 30 #[.val (.ref a1), .val (.long ((2 : Int64) * (own_pad ((4 : Int64) * ((Int32.ofNat lv).toInt64))))), .second, .unset] [(.long (own_pad ((4 : Int64) * ((Int32.ofNat lv).toInt64)))), (.long ((2 : Int64) * (own_pad ((4 : Int64) * ((Int32.ofNat lv).toInt64)))))])) (fun t9 k9 => st4 t9 k9) ?_
  refine own_st (T' := T4) (g' := (mkF m 31 #[.val (.ref a1), .val (.long ((2 : Int64) * (own_pad ((4 : Int64) * ((Int32.ofNat lv).toInt64))))), .second, .unset] [(.long (((2 : Int64) * (own_pad ((4 : Int64) * ((Int32.ofNat lv).toInt64)))) + (own_pad ((4 : Int64) * ((Int32.ofNat lv).toInt64)))))])) (fun t9 k9 => XS.ladd X4.here hx rfl (hb hby d9_30) rfl k9) ?_
  refine own_st (T' := T4) (g' := (mkF m 32 #[.val (.ref a1), .val (.long (((2 : Int64) * (own_pad ((4 : Int64) * ((Int32.ofNat lv).toInt64)))) + (own_pad ((4 : Int64) * ((Int32.ofNat lv).toInt64))))), .second, .unset] [])) (fun t9 k9 => XS.lstoreN X4.here hx rfl (hb hby d9_31) rfl (l' := #[.val (.ref a1), .val (.long (((2 : Int64) * (own_pad ((4 : Int64) * ((Int32.ofNat lv).toInt64)))) + (own_pad ((4 : Int64) * ((Int32.ofNat lv).toInt64))))), .second, .unset]) rfl k9) ?_
  refine own_st (T' := T4) (g' := (mkF m 33 #[.val (.ref a1), .val (.long (((2 : Int64) * (own_pad ((4 : Int64) * ((Int32.ofNat lv).toInt64)))) + (own_pad ((4 : Int64) * ((Int32.ofNat lv).toInt64))))), .second, .unset] [(.int (0 : Int32))])) (fun t9 k9 => XS.iconst X4.here hx rfl (hb hby d9_32) k9) ?_
  refine own_st (T' := T4) (g' := (mkF m 34 #[.val (.ref a1), .val (.long (((2 : Int64) * (own_pad ((4 : Int64) * ((Int32.ofNat lv).toInt64)))) + (own_pad ((4 : Int64) * ((Int32.ofNat lv).toInt64))))), .second, .val (.int (0 : Int32))] [])) (fun t9 k9 => XS.istoreN X4.here hx rfl (hb hby d9_33) rfl (l' := #[.val (.ref a1), .val (.long (((2 : Int64) * (own_pad ((4 : Int64) * ((Int32.ofNat lv).toInt64)))) + (own_pad ((4 : Int64) * ((Int32.ofNat lv).toInt64))))), .second, .val (.int (0 : Int32))]) rfl k9) ?_
  have lp : ∀ (k : Nat) (T5 : State) (L5 : List Loc) (i : Nat), Stand p l e ({ frames := 1, cells := 0, slots := 0, locals := 17 } : Room) s m #[(.ref a1)] below meth c T5 L5 (0) (0) → T5.heap = h0 → Fr n0 L5 → (i + k = lv) → own_Go p e below F T5 (mkF m 34 #[.val (.ref a1), .val (.long (own_acc lv wn i)), .second, .val (.int (Int32.ofNat i))] []) := by
    intro k
    induction k with
    | zero =>
      intro T5 L5 i X5 e5 N5 hi
      obtain rfl : lv = i := by omega
      show own_Go p e below F T5 (mkF m 34 #[.val (.ref a1), .val (.long (own_acc lv wn lv)), .second, .val (.int (Int32.ofNat lv))] [])
      refine own_st (T' := T5) (g' := (mkF m 35 #[.val (.ref a1), .val (.long (own_acc lv wn lv)), .second, .val (.int (Int32.ofNat lv))] [(.int (Int32.ofNat lv))])) (fun t9 k9 => XS.iloadN X5.here hx rfl (hb hby d9_34) rfl k9) ?_
      refine own_st (T' := T5) (g' := (mkF m 36 #[.val (.ref a1), .val (.long (own_acc lv wn lv)), .second, .val (.int (Int32.ofNat lv))] [(.ref a1), (.int (Int32.ofNat lv))])) (fun t9 k9 => XS.aloadN X5.here hx rfl (hb hby d9_35) rfl rfl k9) ?_
      obtain ⟨T6, X6, e6, st6⟩ := getF X5 hx hZ hown (host := "") (Or.inl (hw _ (List.mem_of_getElem? (i := 21) rfl))) Via.refl e5 Fl (g := (mkF m 36 #[.val (.ref a1), .val (.long (own_acc lv wn lv)), .second, .val (.int (Int32.ofNat lv))] [(.ref a1), (.int (Int32.ofNat lv))])) rfl rfl (hb hby d9_36)
      refine own_st (T' := T6) (g' := (mkF m 39 #[.val (.ref a1), .val (.long (own_acc lv wn lv)), .second, .val (.int (Int32.ofNat lv))] [(.int (Int32.ofNat lv)), (.int (Int32.ofNat lv))])) (fun t9 k9 => st6 t9 k9) ?_
      refine own_st (T' := T6) (g' := (mkF m 84 #[.val (.ref a1), .val (.long (own_acc lv wn lv)), .second, .val (.int (Int32.ofNat lv))] [])) (fun t9 k9 => XS.icmpYes X6.here hx rfl (pc0 := 39) (pc' := 84) rfl (hb hby d9_39) rfl (flt (Int32.lt_irrefl)).2.1 (by decide) (by decide) k9) ?_
      refine own_st (T' := T6) (g' := (mkF m 85 #[.val (.ref a1), .val (.long (own_acc lv wn lv)), .second, .val (.int (Int32.ofNat lv))] [(.long (own_acc lv wn lv))])) (fun t9 k9 => XS.lloadN X6.here hx rfl (hb hby d9_84) rfl k9) ?_
      refine own_ret (v := some (.long (own_acc lv wn lv))) hF X6 (own_some hret) hlk (fun fs hr => X6.lreturnOut hx hret (hb hby d9_85) hr) ?_ (by decide) (by decide)
      try rw [e6]
      exact ⟨rfl, N5, rfl⟩
    | succ k ih =>
      intro T5 L5 i X5 e5 N5 hi
      obtain ⟨q1, q2⟩ := own_nat (i := i) (by omega)
      obtain ⟨kx, vx, lx, -, Vx⟩ := Gx i (by omega)
      obtain ⟨ky, vy, ly, -, Vy⟩ := Gy i (by omega)
      obtain ⟨x1, ex⟩ : ∃ z, z = ro + 1 + i := ⟨_, rfl⟩
      obtain ⟨y1, ey⟩ : ∃ z, z = ob + 1 + i := ⟨_, rfl⟩
      rw [← ex] at Vx
      rw [← ey] at Vy
      refine own_st (T' := T5) (g' := (mkF m 35 #[.val (.ref a1), .val (.long (own_acc lv wn i)), .second, .val (.int (Int32.ofNat i))] [(.int (Int32.ofNat i))])) (fun t9 k9 => XS.iloadN X5.here hx rfl (hb hby d9_34) rfl k9) ?_
      refine own_st (T' := T5) (g' := (mkF m 36 #[.val (.ref a1), .val (.long (own_acc lv wn i)), .second, .val (.int (Int32.ofNat i))] [(.ref a1), (.int (Int32.ofNat i))])) (fun t9 k9 => XS.aloadN X5.here hx rfl (hb hby d9_35) rfl rfl k9) ?_
      obtain ⟨T7, X7, e7, st7⟩ := getF X5 hx hZ hown (host := "") (Or.inl (hw _ (List.mem_of_getElem? (i := 21) rfl))) Via.refl e5 Fl (g := (mkF m 36 #[.val (.ref a1), .val (.long (own_acc lv wn i)), .second, .val (.int (Int32.ofNat i))] [(.ref a1), (.int (Int32.ofNat i))])) rfl rfl (hb hby d9_36)
      refine own_st (T' := T7) (g' := (mkF m 39 #[.val (.ref a1), .val (.long (own_acc lv wn i)), .second, .val (.int (Int32.ofNat i))] [(.int (Int32.ofNat lv)), (.int (Int32.ofNat i))])) (fun t9 k9 => st7 t9 k9) ?_
      refine own_st (T' := T7) (g' := (mkF m 42 #[.val (.ref a1), .val (.long (own_acc lv wn i)), .second, .val (.int (Int32.ofNat i))] [])) (fun t9 k9 => XS.icmpNo X7.here hx rfl (hb hby d9_39) rfl (tlt (own_lt (by omega) (by omega))).2.1 k9) ?_
      refine own_st (T' := T7) (g' := (mkF m 43 #[.val (.ref a1), .val (.long (own_acc lv wn i)), .second, .val (.int (Int32.ofNat i))] [(.long (own_acc lv wn i))])) (fun t9 k9 => XS.lloadN X7.here hx rfl (hb hby d9_42) rfl k9) ?_
      refine own_st (T' := T7) (g' := (mkF m 46 #[.val (.ref a1), .val (.long (own_acc lv wn i)), .second, .val (.int (Int32.ofNat i))] [(.long (8 : Int64)), (.long (own_acc lv wn i))])) (fun t9 k9 => X7.ldc2Long hx hown (mvT hZ (hw _ (List.mem_of_getElem? (i := 73) rfl))) (g := (mkF m 43 #[.val (.ref a1), .val (.long (own_acc lv wn i)), .second, .val (.int (Int32.ofNat i))] [(.long (own_acc lv wn i))])) rfl (hb hby d9_43) t9 k9) ?_
      refine own_st (T' := T7) (g' := (mkF m 47 #[.val (.ref a1), .val (.long (own_acc lv wn i)), .second, .val (.int (Int32.ofNat i))] [(.ref a1), (.long (8 : Int64)), (.long (own_acc lv wn i))])) (fun t9 k9 => XS.aloadN X7.here hx rfl (hb hby d9_46) rfl rfl k9) ?_
      obtain ⟨T8, X8, e8, st8⟩ := getF X7 hx hZ hown (host := "") (Or.inl (hw _ (List.mem_of_getElem? (i := 26) rfl))) Via.refl e7 Fr1 (g := (mkF m 47 #[.val (.ref a1), .val (.long (own_acc lv wn i)), .second, .val (.int (Int32.ofNat i))] [(.ref a1), (.long (8 : Int64)), (.long (own_acc lv wn i))])) rfl rfl (hb hby d9_47)
      refine own_st (T' := T8) (g' := (mkF m 50 #[.val (.ref a1), .val (.long (own_acc lv wn i)), .second, .val (.int (Int32.ofNat i))] [(.ref ro), (.long (8 : Int64)), (.long (own_acc lv wn i))])) (fun t9 k9 => st8 t9 k9) ?_
      refine own_st (T' := T8) (g' := (mkF m 51 #[.val (.ref a1), .val (.long (own_acc lv wn i)), .second, .val (.int (Int32.ofNat i))] [(.int (Int32.ofNat i)), (.ref ro), (.long (8 : Int64)), (.long (own_acc lv wn i))])) (fun t9 k9 => XS.iloadN X8.here hx rfl (hb hby d9_50) rfl k9) ?_
      obtain ⟨clu9, Aru9, qu9, Su9, Nu9, Hu9, Gu9⟩ := (id Vro)
      have hinu9 := inb_of Su9 (j := (Int32.ofNat i)) ⟨q2, own_lt (by omega) (by omega)⟩
      refine own_st (T' := T8) (g' := (mkF m 52 #[.val (.ref a1), .val (.long (own_acc lv wn i)), .second, .val (.int (Int32.ofNat i))] [(.ref x1), (.long (8 : Int64)), (.long (own_acc lv wn i))])) (fun t9 k9 => X8.aaload hx (j := (Int32.ofNat i)) (v := (.ref x1)) (by rw [e8]; exact Aru9.1) (State.isArrayOf_alike hZ.alike Aru9.2.1) rfl Aru9.2.2 hinu9 (Hu9.at hinu9 (by rw [q1, ex]; exact own_xsD (by omega))) (g := (mkF m 51 #[.val (.ref a1), .val (.long (own_acc lv wn i)), .second, .val (.int (Int32.ofNat i))] [(.int (Int32.ofNat i)), (.ref ro), (.long (8 : Int64)), (.long (own_acc lv wn i))])) rfl rfl (hb hby d9_51) t9 k9) ?_
      obtain ⟨clu10, Aru10, qu10, Su10, Nu10, Hu10, Gu10⟩ := (id Vx)
      refine own_st (T' := T8) (g' := (mkF m 53 #[.val (.ref a1), .val (.long (own_acc lv wn i)), .second, .val (.int (Int32.ofNat i))] [(.int (Int32.ofNat wn)), (.long (8 : Int64)), (.long (own_acc lv wn i))])) (fun t9 k9 => X8.arraylength hx (by rw [e8]; exact Aru10.1) (State.isArrayOf_alike hZ.alike Aru10.2.1) (g := (mkF m 52 #[.val (.ref a1), .val (.long (own_acc lv wn i)), .second, .val (.int (Int32.ofNat i))] [(.ref x1), (.long (8 : Int64)), (.long (own_acc lv wn i))])) rfl rfl (hb hby d9_52) t9 (by rw [len_of Su10 Nu10]; exact k9)) ?_
      refine own_st (T' := T8) (g' := (mkF m 54 #[.val (.ref a1), .val (.long (own_acc lv wn i)), .second, .val (.int (Int32.ofNat i))] [(.long ((Int32.ofNat wn).toInt64)), (.long (8 : Int64)), (.long (own_acc lv wn i))])) (fun t9 k9 => XS.i2l X8.here hx rfl (hb hby d9_53) rfl k9) ?_
      refine own_st (T' := T8) (g' := (mkF m 55 #[.val (.ref a1), .val (.long (own_acc lv wn i)), .second, .val (.int (Int32.ofNat i))] [(.long ((8 : Int64) * ((Int32.ofNat wn).toInt64))), (.long (own_acc lv wn i))])) (fun t9 k9 => XS.lmul X8.here hx rfl (hb hby d9_54) rfl k9) ?_
      obtain ⟨_, _, ⟨T11, L11, k11, n11⟩, -, X11, ⟨Lc11, hQ11, l11, y11, z11⟩, st11⟩ := Jvm.LawKit.callS X8 hx (y := (⟨"com/example/newsweave/newsweave/core/HeapSizes", "ofArray", "(J)J"⟩ : MethodName)) hown (mvT hZ (hw _ (List.mem_of_getElem? (i := 65) rfl))) (mvT hZ (hw _ (List.mem_of_getElem? (i := 66) rfl))) (mvT hZ (hw _ (List.mem_of_getElem? (i := 67) rfl))) (mvT hZ (hw _ (List.mem_of_getElem? (i := 68) rfl))) (by decide) (own_back (W := 2) (rm10 l Z a0 hw ((8 : Int64) * ((Int32.ofNat wn).toInt64)) h0 n0 Z0 (own_padn (by omega)).2) hZ (hw _ (List.mem_of_getElem? (i := 68) rfl)) (hw _ (List.mem_of_getElem? (i := 67) rfl)) (by decide) (by decide)) (g := (mkF m 55 #[.val (.ref a1), .val (.long (own_acc lv wn i)), .second, .val (.int (Int32.ofNat i))] [(.long ((8 : Int64) * ((Int32.ofNat wn).toInt64))), (.long (own_acc lv wn i))])) rfl (by rw [hml]; rfl) (argsL := [(.long ((8 : Int64) * ((Int32.ofNat wn).toInt64)))]) (rest := [(.long (own_acc lv wn i))]) (lenOf pd_6 rfl) rfl (by show 2 * 0 + _ ≤ _; exact Nat.le_of_eq rfl) (hb hby d9_55) (fun _ _ => ⟨rfl, e8, (Nat.le_of_ble_eq_true rfl), (Nat.le_of_ble_eq_true rfl)⟩)
      dsimp only [Pt.U, Pt.locs, Pt.cells, Pt.slots] at X11 l11 y11 z11 st11 hQ11
      subst l11 y11 z11
      obtain ⟨rfl, Nq11, he11⟩ := hQ11
      have N11 := Fr.app N5 Nq11
      have e11 : T11.heap = h0 := he11
      refine own_st (T' := T11) (g' := (mkF m 58 #[.val (.ref a1), .val (.long (own_acc lv wn i)), .second, .val (.int (Int32.ofNat i))] [(.long (own_pad ((8 : Int64) * ((Int32.ofNat wn).toInt64)))), (.long (own_acc lv wn i))])) (fun t9 k9 => st11 t9 k9) ?_
      refine own_st (T' := T11) (g' := (mkF m 59 #[.val (.ref a1), .val (.long (own_acc lv wn i)), .second, .val (.int (Int32.ofNat i))] [(.long ((own_acc lv wn i) + (own_pad ((8 : Int64) * ((Int32.ofNat wn).toInt64)))))])) (fun t9 k9 => XS.ladd X11.here hx rfl (hb hby d9_58) rfl k9) ?_
      refine own_st (T' := T11) (g' := (mkF m 60 #[.val (.ref a1), .val (.long ((own_acc lv wn i) + (own_pad ((8 : Int64) * ((Int32.ofNat wn).toInt64))))), .second, .val (.int (Int32.ofNat i))] [])) (fun t9 k9 => XS.lstoreN X11.here hx rfl (hb hby d9_59) rfl (l' := #[.val (.ref a1), .val (.long ((own_acc lv wn i) + (own_pad ((8 : Int64) * ((Int32.ofNat wn).toInt64))))), .second, .val (.int (Int32.ofNat i))]) rfl k9) ?_
      refine own_st (T' := T11) (g' := (mkF m 61 #[.val (.ref a1), .val (.long ((own_acc lv wn i) + (own_pad ((8 : Int64) * ((Int32.ofNat wn).toInt64))))), .second, .val (.int (Int32.ofNat i))] [(.long ((own_acc lv wn i) + (own_pad ((8 : Int64) * ((Int32.ofNat wn).toInt64)))))])) (fun t9 k9 => XS.lloadN X11.here hx rfl (hb hby d9_60) rfl k9) ?_
      refine own_st (T' := T11) (g' := (mkF m 64 #[.val (.ref a1), .val (.long ((own_acc lv wn i) + (own_pad ((8 : Int64) * ((Int32.ofNat wn).toInt64))))), .second, .val (.int (Int32.ofNat i))] [(.long (4 : Int64)), (.long ((own_acc lv wn i) + (own_pad ((8 : Int64) * ((Int32.ofNat wn).toInt64)))))])) (fun t9 k9 => X11.ldc2Long hx hown (mvT hZ (hw _ (List.mem_of_getElem? (i := 64) rfl))) (g := (mkF m 61 #[.val (.ref a1), .val (.long ((own_acc lv wn i) + (own_pad ((8 : Int64) * ((Int32.ofNat wn).toInt64))))), .second, .val (.int (Int32.ofNat i))] [(.long ((own_acc lv wn i) + (own_pad ((8 : Int64) * ((Int32.ofNat wn).toInt64)))))])) rfl (hb hby d9_61) t9 k9) ?_
      refine own_st (T' := T11) (g' := (mkF m 65 #[.val (.ref a1), .val (.long ((own_acc lv wn i) + (own_pad ((8 : Int64) * ((Int32.ofNat wn).toInt64))))), .second, .val (.int (Int32.ofNat i))] [(.ref a1), (.long (4 : Int64)), (.long ((own_acc lv wn i) + (own_pad ((8 : Int64) * ((Int32.ofNat wn).toInt64)))))])) (fun t9 k9 => XS.aloadN X11.here hx rfl (hb hby d9_64) rfl rfl k9) ?_
      obtain ⟨T12, X12, e12, st12⟩ := getF X11 hx hZ hown (host := "") (Or.inl (hw _ (List.mem_of_getElem? (i := 30) rfl))) Via.refl e11 Fo (g := (mkF m 65 #[.val (.ref a1), .val (.long ((own_acc lv wn i) + (own_pad ((8 : Int64) * ((Int32.ofNat wn).toInt64))))), .second, .val (.int (Int32.ofNat i))] [(.ref a1), (.long (4 : Int64)), (.long ((own_acc lv wn i) + (own_pad ((8 : Int64) * ((Int32.ofNat wn).toInt64)))))])) rfl rfl (hb hby d9_65)
      refine own_st (T' := T12) (g' := (mkF m 68 #[.val (.ref a1), .val (.long ((own_acc lv wn i) + (own_pad ((8 : Int64) * ((Int32.ofNat wn).toInt64))))), .second, .val (.int (Int32.ofNat i))] [(.ref ob), (.long (4 : Int64)), (.long ((own_acc lv wn i) + (own_pad ((8 : Int64) * ((Int32.ofNat wn).toInt64)))))])) (fun t9 k9 => st12 t9 k9) ?_
      refine own_st (T' := T12) (g' := (mkF m 69 #[.val (.ref a1), .val (.long ((own_acc lv wn i) + (own_pad ((8 : Int64) * ((Int32.ofNat wn).toInt64))))), .second, .val (.int (Int32.ofNat i))] [(.int (Int32.ofNat i)), (.ref ob), (.long (4 : Int64)), (.long ((own_acc lv wn i) + (own_pad ((8 : Int64) * ((Int32.ofNat wn).toInt64)))))])) (fun t9 k9 => XS.iloadN X12.here hx rfl (hb hby d9_68) rfl k9) ?_
      obtain ⟨clu13, Aru13, qu13, Su13, Nu13, Hu13, Gu13⟩ := (id Vob)
      have hinu13 := inb_of Su13 (j := (Int32.ofNat i)) ⟨q2, own_lt (by omega) (by omega)⟩
      refine own_st (T' := T12) (g' := (mkF m 70 #[.val (.ref a1), .val (.long ((own_acc lv wn i) + (own_pad ((8 : Int64) * ((Int32.ofNat wn).toInt64))))), .second, .val (.int (Int32.ofNat i))] [(.ref y1), (.long (4 : Int64)), (.long ((own_acc lv wn i) + (own_pad ((8 : Int64) * ((Int32.ofNat wn).toInt64)))))])) (fun t9 k9 => X12.aaload hx (j := (Int32.ofNat i)) (v := (.ref y1)) (by rw [e12]; exact Aru13.1) (State.isArrayOf_alike hZ.alike Aru13.2.1) rfl Aru13.2.2 hinu13 (Hu13.at hinu13 (by rw [q1, ey]; exact own_xsD (by omega))) (g := (mkF m 69 #[.val (.ref a1), .val (.long ((own_acc lv wn i) + (own_pad ((8 : Int64) * ((Int32.ofNat wn).toInt64))))), .second, .val (.int (Int32.ofNat i))] [(.int (Int32.ofNat i)), (.ref ob), (.long (4 : Int64)), (.long ((own_acc lv wn i) + (own_pad ((8 : Int64) * ((Int32.ofNat wn).toInt64)))))])) rfl rfl (hb hby d9_69) t9 k9) ?_
      obtain ⟨clu14, Aru14, qu14, Su14, Nu14, Hu14, Gu14⟩ := (id Vy)
      refine own_st (T' := T12) (g' := (mkF m 71 #[.val (.ref a1), .val (.long ((own_acc lv wn i) + (own_pad ((8 : Int64) * ((Int32.ofNat wn).toInt64))))), .second, .val (.int (Int32.ofNat i))] [(.int (Int32.ofNat wn)), (.long (4 : Int64)), (.long ((own_acc lv wn i) + (own_pad ((8 : Int64) * ((Int32.ofNat wn).toInt64)))))])) (fun t9 k9 => X12.arraylength hx (by rw [e12]; exact Aru14.1) (State.isArrayOf_alike hZ.alike Aru14.2.1) (g := (mkF m 70 #[.val (.ref a1), .val (.long ((own_acc lv wn i) + (own_pad ((8 : Int64) * ((Int32.ofNat wn).toInt64))))), .second, .val (.int (Int32.ofNat i))] [(.ref y1), (.long (4 : Int64)), (.long ((own_acc lv wn i) + (own_pad ((8 : Int64) * ((Int32.ofNat wn).toInt64)))))])) rfl rfl (hb hby d9_70) t9 (by rw [len_of Su14 Nu14]; exact k9)) ?_
      refine own_st (T' := T12) (g' := (mkF m 72 #[.val (.ref a1), .val (.long ((own_acc lv wn i) + (own_pad ((8 : Int64) * ((Int32.ofNat wn).toInt64))))), .second, .val (.int (Int32.ofNat i))] [(.long ((Int32.ofNat wn).toInt64)), (.long (4 : Int64)), (.long ((own_acc lv wn i) + (own_pad ((8 : Int64) * ((Int32.ofNat wn).toInt64)))))])) (fun t9 k9 => XS.i2l X12.here hx rfl (hb hby d9_71) rfl k9) ?_
      refine own_st (T' := T12) (g' := (mkF m 73 #[.val (.ref a1), .val (.long ((own_acc lv wn i) + (own_pad ((8 : Int64) * ((Int32.ofNat wn).toInt64))))), .second, .val (.int (Int32.ofNat i))] [(.long ((4 : Int64) * ((Int32.ofNat wn).toInt64))), (.long ((own_acc lv wn i) + (own_pad ((8 : Int64) * ((Int32.ofNat wn).toInt64)))))])) (fun t9 k9 => XS.lmul X12.here hx rfl (hb hby d9_72) rfl k9) ?_
      obtain ⟨_, _, ⟨T15, L15, k15, n15⟩, -, X15, ⟨Lc15, hQ15, l15, y15, z15⟩, st15⟩ := Jvm.LawKit.callS X12 hx (y := (⟨"com/example/newsweave/newsweave/core/HeapSizes", "ofArray", "(J)J"⟩ : MethodName)) hown (mvT hZ (hw _ (List.mem_of_getElem? (i := 65) rfl))) (mvT hZ (hw _ (List.mem_of_getElem? (i := 66) rfl))) (mvT hZ (hw _ (List.mem_of_getElem? (i := 67) rfl))) (mvT hZ (hw _ (List.mem_of_getElem? (i := 68) rfl))) (by decide) (own_back (W := 2) (rm10 l Z a0 hw ((4 : Int64) * ((Int32.ofNat wn).toInt64)) h0 n0 Z0 (own_padn (by omega)).1) hZ (hw _ (List.mem_of_getElem? (i := 68) rfl)) (hw _ (List.mem_of_getElem? (i := 67) rfl)) (by decide) (by decide)) (g := (mkF m 73 #[.val (.ref a1), .val (.long ((own_acc lv wn i) + (own_pad ((8 : Int64) * ((Int32.ofNat wn).toInt64))))), .second, .val (.int (Int32.ofNat i))] [(.long ((4 : Int64) * ((Int32.ofNat wn).toInt64))), (.long ((own_acc lv wn i) + (own_pad ((8 : Int64) * ((Int32.ofNat wn).toInt64)))))])) rfl (by rw [hml]; rfl) (argsL := [(.long ((4 : Int64) * ((Int32.ofNat wn).toInt64)))]) (rest := [(.long ((own_acc lv wn i) + (own_pad ((8 : Int64) * ((Int32.ofNat wn).toInt64)))))]) (lenOf pd_6 rfl) rfl (by show 2 * 0 + _ ≤ _; exact Nat.le_of_eq rfl) (hb hby d9_73) (fun _ _ => ⟨rfl, e12, (Nat.le_of_ble_eq_true rfl), (Nat.le_of_ble_eq_true rfl)⟩)
      dsimp only [Pt.U, Pt.locs, Pt.cells, Pt.slots] at X15 l15 y15 z15 st15 hQ15
      subst l15 y15 z15
      obtain ⟨rfl, Nq15, he15⟩ := hQ15
      have N15 := Fr.app N11 Nq15
      have e15 : T15.heap = h0 := he15
      refine own_st (T' := T15) (g' := (mkF m 76 #[.val (.ref a1), .val (.long ((own_acc lv wn i) + (own_pad ((8 : Int64) * ((Int32.ofNat wn).toInt64))))), .second, .val (.int (Int32.ofNat i))] [(.long (own_pad ((4 : Int64) * ((Int32.ofNat wn).toInt64)))), (.long ((own_acc lv wn i) + (own_pad ((8 : Int64) * ((Int32.ofNat wn).toInt64)))))])) (fun t9 k9 => st15 t9 k9) ?_
      refine own_st (T' := T15) (g' := (mkF m 77 #[.val (.ref a1), .val (.long ((own_acc lv wn i) + (own_pad ((8 : Int64) * ((Int32.ofNat wn).toInt64))))), .second, .val (.int (Int32.ofNat i))] [(.long (((own_acc lv wn i) + (own_pad ((8 : Int64) * ((Int32.ofNat wn).toInt64)))) + (own_pad ((4 : Int64) * ((Int32.ofNat wn).toInt64)))))])) (fun t9 k9 => XS.ladd X15.here hx rfl (hb hby d9_76) rfl k9) ?_
      refine own_st (T' := T15) (g' := (mkF m 78 #[.val (.ref a1), .val (.long (((own_acc lv wn i) + (own_pad ((8 : Int64) * ((Int32.ofNat wn).toInt64)))) + (own_pad ((4 : Int64) * ((Int32.ofNat wn).toInt64))))), .second, .val (.int (Int32.ofNat i))] [])) (fun t9 k9 => XS.lstoreN X15.here hx rfl (hb hby d9_77) rfl (l' := #[.val (.ref a1), .val (.long (((own_acc lv wn i) + (own_pad ((8 : Int64) * ((Int32.ofNat wn).toInt64)))) + (own_pad ((4 : Int64) * ((Int32.ofNat wn).toInt64))))), .second, .val (.int (Int32.ofNat i))]) rfl k9) ?_
      refine own_st (T' := T15) (g' := (mkF m 81 #[.val (.ref a1), .val (.long (((own_acc lv wn i) + (own_pad ((8 : Int64) * ((Int32.ofNat wn).toInt64)))) + (own_pad ((4 : Int64) * ((Int32.ofNat wn).toInt64))))), .second, .val (.int ((Int32.ofNat i) + (1 : Int32)))] [])) (fun t9 k9 => XS.iinc X15.here hx rfl (hb hby d9_78) rfl (l' := #[.val (.ref a1), .val (.long (((own_acc lv wn i) + (own_pad ((8 : Int64) * ((Int32.ofNat wn).toInt64)))) + (own_pad ((4 : Int64) * ((Int32.ofNat wn).toInt64))))), .second, .val (.int ((Int32.ofNat i) + (1 : Int32)))]) rfl k9) ?_
      rw [own_one i]
      refine own_st (T' := T15) (g' := (mkF m 34 #[.val (.ref a1), .val (.long (((own_acc lv wn i) + (own_pad ((8 : Int64) * ((Int32.ofNat wn).toInt64)))) + (own_pad ((4 : Int64) * ((Int32.ofNat wn).toInt64))))), .second, .val (.int (Int32.ofNat (i + 1)))] [])) (fun t9 k9 => XS.goto X15.here hx rfl (pc0 := 81) (pc' := 34) rfl (hb hby d9_81) (by decide) (by decide) k9) ?_
      exact ih _ _ (i + 1) X15 e15 N15 (by omega)
  exact lp lv _ _ 0 X4 e4 N4 (Nat.zero_add lv)
theorem d5_0 : decode prog_89_method_2_code 0 = .ok (.aload_n 0, 1) := by decide +kernel
theorem d5_1 : decode prog_89_method_2_code 1 = .ok (.getfield 25, 3) := by decide +kernel
theorem d5_4 : decode prog_89_method_2_code 4 = .ok (.iconst 1, 1) := by decide +kernel
theorem d5_5 : decode prog_89_method_2_code 5 = .ok (.isub, 1) := by decide +kernel
theorem d5_6 : decode prog_89_method_2_code 6 = .ok (.iload_n 1, 1) := by decide +kernel
theorem d5_7 : decode prog_89_method_2_code 7 = .ok (.isub, 1) := by decide +kernel
theorem d5_8 : decode prog_89_method_2_code 8 = .ok (.istore_n 3, 1) := by decide +kernel
theorem d5_9 : decode prog_89_method_2_code 9 = .ok (.aload_n 0, 1) := by decide +kernel
theorem d5_10 : decode prog_89_method_2_code 10 = .ok (.getfield 30, 3) := by decide +kernel
theorem d5_13 : decode prog_89_method_2_code 13 = .ok (.iload_n 1, 1) := by decide +kernel
theorem d5_14 : decode prog_89_method_2_code 14 = .ok (.aaload, 1) := by decide +kernel
theorem d5_15 : decode prog_89_method_2_code 15 = .ok (.astore 4, 2) := by decide +kernel
theorem d5_17 : decode prog_89_method_2_code 17 = .ok (.iconst 0, 1) := by decide +kernel
theorem d5_18 : decode prog_89_method_2_code 18 = .ok (.istore 5, 2) := by decide +kernel
theorem d5_20 : decode prog_89_method_2_code 20 = .ok (.iload 5, 2) := by decide +kernel
theorem d5_22 : decode prog_89_method_2_code 22 = .ok (.aload_n 2, 1) := by decide +kernel
theorem d5_23 : decode prog_89_method_2_code 23 = .ok (.arraylength, 1) := by decide +kernel
theorem d5_24 : decode prog_89_method_2_code 24 = .ok (.if_icmp .ge 35, 3) := by decide +kernel
theorem d5_27 : decode prog_89_method_2_code 27 = .ok (.aload_n 2, 1) := by decide +kernel
theorem d5_28 : decode prog_89_method_2_code 28 = .ok (.iload 5, 2) := by decide +kernel
theorem d5_30 : decode prog_89_method_2_code 30 = .ok (.iaload, 1) := by decide +kernel
theorem d5_31 : decode prog_89_method_2_code 31 = .ok (.iload_n 3, 1) := by decide +kernel
theorem d5_32 : decode prog_89_method_2_code 32 = .ok (.iushr, 1) := by decide +kernel
theorem d5_33 : decode prog_89_method_2_code 33 = .ok (.iconst 1, 1) := by decide +kernel
theorem d5_34 : decode prog_89_method_2_code 34 = .ok (.iand, 1) := by decide +kernel
theorem d5_35 : decode prog_89_method_2_code 35 = .ok (.ifCond .eq 18, 3) := by decide +kernel
theorem d5_38 : decode prog_89_method_2_code 38 = .ok (.aload 4, 2) := by decide +kernel
theorem d5_40 : decode prog_89_method_2_code 40 = .ok (.iload 5, 2) := by decide +kernel
theorem d5_42 : decode prog_89_method_2_code 42 = .ok (.bipush 6, 2) := by decide +kernel
theorem d5_44 : decode prog_89_method_2_code 44 = .ok (.iushr, 1) := by decide +kernel
theorem d5_45 : decode prog_89_method_2_code 45 = .ok (.dup2, 1) := by decide +kernel
theorem d5_46 : decode prog_89_method_2_code 46 = .ok (.laload, 1) := by decide +kernel
theorem d5_47 : decode prog_89_method_2_code 47 = .ok (.lconst 1, 1) := by decide +kernel
theorem d5_48 : decode prog_89_method_2_code 48 = .ok (.iload 5, 2) := by decide +kernel
theorem d5_50 : decode prog_89_method_2_code 50 = .ok (.lshl, 1) := by decide +kernel
theorem d5_51 : decode prog_89_method_2_code 51 = .ok (.lor, 1) := by decide +kernel
theorem d5_52 : decode prog_89_method_2_code 52 = .ok (.lastore, 1) := by decide +kernel
theorem d5_53 : decode prog_89_method_2_code 53 = .ok (.iinc 5 1, 3) := by decide +kernel
theorem d5_56 : decode prog_89_method_2_code 56 = .ok (.goto (-36), 3) := by decide +kernel
theorem d5_59 : decode prog_89_method_2_code 59 = .ok (.iconst 0, 1) := by decide +kernel
theorem d5_60 : decode prog_89_method_2_code 60 = .ok (.istore 5, 2) := by decide +kernel
theorem d5_62 : decode prog_89_method_2_code 62 = .ok (.iconst 0, 1) := by decide +kernel
theorem d5_63 : decode prog_89_method_2_code 63 = .ok (.istore 6, 2) := by decide +kernel
theorem d5_65 : decode prog_89_method_2_code 65 = .ok (.iload 6, 2) := by decide +kernel
theorem d5_67 : decode prog_89_method_2_code 67 = .ok (.aload 4, 2) := by decide +kernel
theorem d5_69 : decode prog_89_method_2_code 69 = .ok (.arraylength, 1) := by decide +kernel
theorem d5_70 : decode prog_89_method_2_code 70 = .ok (.if_icmp .ge 33, 3) := by decide +kernel
theorem d5_73 : decode prog_89_method_2_code 73 = .ok (.aload_n 0, 1) := by decide +kernel
theorem d5_74 : decode prog_89_method_2_code 74 = .ok (.getfield 35, 3) := by decide +kernel
theorem d5_77 : decode prog_89_method_2_code 77 = .ok (.iload_n 1, 1) := by decide +kernel
theorem d5_78 : decode prog_89_method_2_code 78 = .ok (.aaload, 1) := by decide +kernel
theorem d5_79 : decode prog_89_method_2_code 79 = .ok (.iload 6, 2) := by decide +kernel
theorem d5_81 : decode prog_89_method_2_code 81 = .ok (.iload 5, 2) := by decide +kernel
theorem d5_83 : decode prog_89_method_2_code 83 = .ok (.iastore, 1) := by decide +kernel
theorem d5_84 : decode prog_89_method_2_code 84 = .ok (.iload 5, 2) := by decide +kernel
theorem d5_86 : decode prog_89_method_2_code 86 = .ok (.aload 4, 2) := by decide +kernel
theorem d5_88 : decode prog_89_method_2_code 88 = .ok (.iload 6, 2) := by decide +kernel
theorem d5_90 : decode prog_89_method_2_code 90 = .ok (.laload, 1) := by decide +kernel
theorem d5_91 : decode prog_89_method_2_code 91 = .ok (.invokestatic 46, 3) := by decide +kernel
theorem d5_94 : decode prog_89_method_2_code 94 = .ok (.iadd, 1) := by decide +kernel
theorem d5_95 : decode prog_89_method_2_code 95 = .ok (.istore 5, 2) := by decide +kernel
theorem d5_97 : decode prog_89_method_2_code 97 = .ok (.iinc 6 1, 3) := by decide +kernel
theorem d5_100 : decode prog_89_method_2_code 100 = .ok (.goto (-35), 3) := by decide +kernel
theorem d5_103 : decode prog_89_method_2_code 103 = .ok (.aload_n 0, 1) := by decide +kernel
theorem d5_104 : decode prog_89_method_2_code 104 = .ok (.getfield 38, 3) := by decide +kernel
theorem d5_107 : decode prog_89_method_2_code 107 = .ok (.iload_n 1, 1) := by decide +kernel
theorem d5_108 : decode prog_89_method_2_code 108 = .ok (.aload_n 2, 1) := by decide +kernel
theorem d5_109 : decode prog_89_method_2_code 109 = .ok (.arraylength, 1) := by decide +kernel
theorem d5_110 : decode prog_89_method_2_code 110 = .ok (.iload 5, 2) := by decide +kernel
theorem d5_112 : decode prog_89_method_2_code 112 = .ok (.isub, 1) := by decide +kernel
theorem d5_113 : decode prog_89_method_2_code 113 = .ok (.iastore, 1) := by decide +kernel
theorem d5_114 : decode prog_89_method_2_code 114 = .ok (.aload_n 2, 1) := by decide +kernel
theorem d5_115 : decode prog_89_method_2_code 115 = .ok (.arraylength, 1) := by decide +kernel
theorem d5_116 : decode prog_89_method_2_code 116 = .ok (.newarray .int, 2) := by decide +kernel
theorem d5_118 : decode prog_89_method_2_code 118 = .ok (.astore 6, 2) := by decide +kernel
theorem d5_120 : decode prog_89_method_2_code 120 = .ok (.iconst 0, 1) := by decide +kernel
theorem d5_121 : decode prog_89_method_2_code 121 = .ok (.istore 7, 2) := by decide +kernel
theorem d5_123 : decode prog_89_method_2_code 123 = .ok (.aload_n 0, 1) := by decide +kernel
theorem d5_124 : decode prog_89_method_2_code 124 = .ok (.getfield 38, 3) := by decide +kernel
theorem d5_127 : decode prog_89_method_2_code 127 = .ok (.iload_n 1, 1) := by decide +kernel
theorem d5_128 : decode prog_89_method_2_code 128 = .ok (.iaload, 1) := by decide +kernel
theorem d5_129 : decode prog_89_method_2_code 129 = .ok (.istore 8, 2) := by decide +kernel
theorem d5_131 : decode prog_89_method_2_code 131 = .ok (.aload_n 2, 1) := by decide +kernel
theorem d5_132 : decode prog_89_method_2_code 132 = .ok (.astore 9, 2) := by decide +kernel
theorem d5_134 : decode prog_89_method_2_code 134 = .ok (.aload 9, 2) := by decide +kernel
theorem d5_136 : decode prog_89_method_2_code 136 = .ok (.arraylength, 1) := by decide +kernel
theorem d5_137 : decode prog_89_method_2_code 137 = .ok (.istore 10, 2) := by decide +kernel
theorem d5_139 : decode prog_89_method_2_code 139 = .ok (.iconst 0, 1) := by decide +kernel
theorem d5_140 : decode prog_89_method_2_code 140 = .ok (.istore 11, 2) := by decide +kernel
theorem d5_142 : decode prog_89_method_2_code 142 = .ok (.iload 11, 2) := by decide +kernel
theorem d5_144 : decode prog_89_method_2_code 144 = .ok (.iload 10, 2) := by decide +kernel
theorem d5_146 : decode prog_89_method_2_code 146 = .ok (.if_icmp .ge 48, 3) := by decide +kernel
theorem d5_149 : decode prog_89_method_2_code 149 = .ok (.aload 9, 2) := by decide +kernel
theorem d5_151 : decode prog_89_method_2_code 151 = .ok (.iload 11, 2) := by decide +kernel
theorem d5_153 : decode prog_89_method_2_code 153 = .ok (.iaload, 1) := by decide +kernel
theorem d5_154 : decode prog_89_method_2_code 154 = .ok (.istore 12, 2) := by decide +kernel
theorem d5_156 : decode prog_89_method_2_code 156 = .ok (.iload 12, 2) := by decide +kernel
theorem d5_158 : decode prog_89_method_2_code 158 = .ok (.iload_n 3, 1) := by decide +kernel
theorem d5_159 : decode prog_89_method_2_code 159 = .ok (.iushr, 1) := by decide +kernel
theorem d5_160 : decode prog_89_method_2_code 160 = .ok (.iconst 1, 1) := by decide +kernel
theorem d5_161 : decode prog_89_method_2_code 161 = .ok (.iand, 1) := by decide +kernel
theorem d5_162 : decode prog_89_method_2_code 162 = .ok (.ifCond .ne 16, 3) := by decide +kernel
theorem d5_165 : decode prog_89_method_2_code 165 = .ok (.aload 6, 2) := by decide +kernel
theorem d5_167 : decode prog_89_method_2_code 167 = .ok (.iload 7, 2) := by decide +kernel
theorem d5_169 : decode prog_89_method_2_code 169 = .ok (.iinc 7 1, 3) := by decide +kernel
theorem d5_172 : decode prog_89_method_2_code 172 = .ok (.iload 12, 2) := by decide +kernel
theorem d5_174 : decode prog_89_method_2_code 174 = .ok (.iastore, 1) := by decide +kernel
theorem d5_175 : decode prog_89_method_2_code 175 = .ok (.goto 13, 3) := by decide +kernel
theorem d5_178 : decode prog_89_method_2_code 178 = .ok (.aload 6, 2) := by decide +kernel
theorem d5_180 : decode prog_89_method_2_code 180 = .ok (.iload 8, 2) := by decide +kernel
theorem d5_182 : decode prog_89_method_2_code 182 = .ok (.iinc 8 1, 3) := by decide +kernel
theorem d5_185 : decode prog_89_method_2_code 185 = .ok (.iload 12, 2) := by decide +kernel
theorem d5_187 : decode prog_89_method_2_code 187 = .ok (.iastore, 1) := by decide +kernel
theorem d5_188 : decode prog_89_method_2_code 188 = .ok (.iinc 11 1, 3) := by decide +kernel
theorem d5_191 : decode prog_89_method_2_code 191 = .ok (.goto (-49), 3) := by decide +kernel
theorem d5_194 : decode prog_89_method_2_code 194 = .ok (.aload 6, 2) := by decide +kernel
theorem d5_196 : decode prog_89_method_2_code 196 = .ok (.areturn, 1) := by decide +kernel
theorem pn_5 : plainFor (⟨"com/example/newsweave/newsweave/nas/PlaceRecords", "fill", "(I[I)[I"⟩ : MethodName) = true := plainFor_of_name (by first | (simp [plainName, overriddenIn]; done) | decide +kernel)
set_option maxRecDepth 65536 in
set_option maxHeartbeats 40000000 in
theorem rm5 (l : Launch) (Z : State) (a0 : Array Value) (hw : ∀ d ∈ tables_1, d.before a0 Z = true) (a1 a2 ro ob ze x1 y1 : Nat) (kro kob kze k2 kx ky : ClassId) (lv jv ln wn : Nat) (w1 : Int32) (xs ys vy vz : List Value) (h0 : Heap) (n0 : Nat) (Z0 : n0 ≤ h0.size) (Fl : Fld Z h0 a1 "com/example/newsweave/newsweave/nas/PlaceRecords" "levels" "I" (.int (Int32.ofNat lv))) (Fr1 : Fld Z h0 a1 "com/example/newsweave/newsweave/nas/PlaceRecords" "rows" "[[J" (.ref ro)) (Fo : Fld Z h0 a1 "com/example/newsweave/newsweave/nas/PlaceRecords" "onesBefore" "[[I" (.ref ob)) (Fz : Fld Z h0 a1 "com/example/newsweave/newsweave/nas/PlaceRecords" "zeros" "[I" (.ref ze)) (Vro : Arv Z h0 ro kro (.array .long) (Int32.ofNat lv) xs .null) (Vob : Arv Z h0 ob kob (.array .int) (Int32.ofNat lv) ys .null) (hxj : xs.getD jv .null = .ref x1) (hyj : ys.getD jv .null = .ref y1) (Vx : Arv Z h0 x1 kx .long (Int32.ofNat wn) (List.replicate wn (Value.long 0)) (.long 0)) (Vy : Arv Z h0 y1 ky .int (Int32.ofNat wn) vy (.int 0)) (hvy : vy.length = wn) (Vz : Arv Z h0 ze kze .int (Int32.ofNat lv) vz (.int 0)) (hvz : vz.length = lv) (V2 : Arv Z h0 a2 k2 .int (Int32.ofNat ln) (List.replicate ln (.int w1)) (.int 0)) (hj : jv < lv) (hlv : lv ≤ 32) (hN : own_N ln wn) (g_x1 : n0 ≤ x1) (g_y1 : n0 ≤ y1) (g_ze : n0 ≤ ze) (ne_a1_x1 : a1 ≠ x1) (ne_a1_y1 : a1 ≠ y1) (ne_a1_ze : a1 ≠ ze) (ne_ro_x1 : ro ≠ x1) (ne_ro_y1 : ro ≠ y1) (ne_ro_ze : ro ≠ ze) (ne_ob_x1 : ob ≠ x1) (ne_ob_y1 : ob ≠ y1) (ne_ob_ze : ob ≠ ze) (ne_a2_x1 : a2 ≠ x1) (ne_a2_y1 : a2 ≠ y1) (ne_a2_ze : a2 ≠ ze) (ne_x1_y1 : x1 ≠ y1) (ne_x1_ze : x1 ≠ ze) (ne_y1_ze : y1 ≠ ze) :
    own_Met l Z (⟨"com/example/newsweave/newsweave/nas/PlaceRecords", "fill", "(I[I)[I"⟩ : MethodName) prog_89_method_2_code 13 (some (.array .int)) ({ frames := 1, cells := 1, slots := 64, locals := 40 } : Room) #[(.ref a1), (.int (Int32.ofNat jv)), (.ref a2)] h0 (fun v h L => ∃ (b : Nat) (kb : ClassId) (vx' vy' vz' : List Value), v = some (.ref b) ∧ Fr n0 L ∧ Keep h0 h [x1, y1, ze] ∧ h0.size ≤ b ∧ Arv Z h b kb .int (Int32.ofNat ln) (List.replicate ln (.int w1)) (.int 0) ∧ vx'.length = wn ∧ Arv Z h x1 kx .long (Int32.ofNat wn) vx' (.long 0) ∧ vy'.length = wn ∧ Arv Z h y1 ky .int (Int32.ofNat wn) vy' (.int 0) ∧ vz'.length = lv ∧ Arv Z h ze kze .int (Int32.ofNat lv) vz' (.int 0)) := by
  refine own_body pn_5 ?_
  intro p e s m below meth c T0 hZ hx hby hml hown hnm hret hlk X0 e0 F hF
  have N0 := Fr.nil n0
  have K0 := Keep.refl h0 [x1, y1, ze]
  refine own_cast (g' := (mkF m 0 #[.val (.ref a1), .val (.int (Int32.ofNat jv)), .val (.ref a2), .unset, .unset, .unset, .unset, .unset, .unset, .unset, .unset, .unset, .unset] [])) (by first | (simp [entryFrame, mkF, argsToLocals, Value.category]; done) | rfl) ?_
  obtain ⟨hn64, hw2, hw1⟩ := hN.le
  obtain ⟨q1, q2⟩ := own_nat (i := jv) (by omega)
  refine own_st (T' := T0) (g' := (mkF m 1 #[.val (.ref a1), .val (.int (Int32.ofNat jv)), .val (.ref a2), .unset, .unset, .unset, .unset, .unset, .unset, .unset, .unset, .unset, .unset] [(.ref a1)])) (fun t9 k9 => XS.aloadN X0.here hx rfl (hb hby d5_0) rfl rfl k9) ?_
  obtain ⟨T1, X1, e1, st1⟩ := getF X0 hx hZ hown (host := "") (Or.inl (hw _ (List.mem_of_getElem? (i := 21) rfl))) Via.refl e0 Fl (g := (mkF m 1 #[.val (.ref a1), .val (.int (Int32.ofNat jv)), .val (.ref a2), .unset, .unset, .unset, .unset, .unset, .unset, .unset, .unset, .unset, .unset] [(.ref a1)])) rfl rfl (hb hby d5_1)
  refine own_st (T' := T1) (g' := (mkF m 4 #[.val (.ref a1), .val (.int (Int32.ofNat jv)), .val (.ref a2), .unset, .unset, .unset, .unset, .unset, .unset, .unset, .unset, .unset, .unset] [(.int (Int32.ofNat lv))])) (fun t9 k9 => st1 t9 k9) ?_
  refine own_st (T' := T1) (g' := (mkF m 5 #[.val (.ref a1), .val (.int (Int32.ofNat jv)), .val (.ref a2), .unset, .unset, .unset, .unset, .unset, .unset, .unset, .unset, .unset, .unset] [(.int (1 : Int32)), (.int (Int32.ofNat lv))])) (fun t9 k9 => XS.iconst X1.here hx rfl (hb hby d5_4) k9) ?_
  refine own_st (T' := T1) (g' := (mkF m 6 #[.val (.ref a1), .val (.int (Int32.ofNat jv)), .val (.ref a2), .unset, .unset, .unset, .unset, .unset, .unset, .unset, .unset, .unset, .unset] [(.int ((Int32.ofNat lv) - (1 : Int32)))])) (fun t9 k9 => XS.isub X1.here hx rfl (hb hby d5_5) rfl k9) ?_
  refine own_st (T' := T1) (g' := (mkF m 7 #[.val (.ref a1), .val (.int (Int32.ofNat jv)), .val (.ref a2), .unset, .unset, .unset, .unset, .unset, .unset, .unset, .unset, .unset, .unset] [(.int (Int32.ofNat jv)), (.int ((Int32.ofNat lv) - (1 : Int32)))])) (fun t9 k9 => XS.iloadN X1.here hx rfl (hb hby d5_6) rfl k9) ?_
  refine own_st (T' := T1) (g' := (mkF m 8 #[.val (.ref a1), .val (.int (Int32.ofNat jv)), .val (.ref a2), .unset, .unset, .unset, .unset, .unset, .unset, .unset, .unset, .unset, .unset] [(.int (((Int32.ofNat lv) - (1 : Int32)) - (Int32.ofNat jv)))])) (fun t9 k9 => XS.isub X1.here hx rfl (hb hby d5_7) rfl k9) ?_
  refine own_st (T' := T1) (g' := (mkF m 9 #[.val (.ref a1), .val (.int (Int32.ofNat jv)), .val (.ref a2), .val (.int (((Int32.ofNat lv) - (1 : Int32)) - (Int32.ofNat jv))), .unset, .unset, .unset, .unset, .unset, .unset, .unset, .unset, .unset] [])) (fun t9 k9 => XS.istoreN X1.here hx rfl (hb hby d5_8) rfl (l' := #[.val (.ref a1), .val (.int (Int32.ofNat jv)), .val (.ref a2), .val (.int (((Int32.ofNat lv) - (1 : Int32)) - (Int32.ofNat jv))), .unset, .unset, .unset, .unset, .unset, .unset, .unset, .unset, .unset]) rfl k9) ?_
  obtain ⟨bt, hbt⟩ : ∃ z : Int32, z = (((Int32.ofNat lv) - (1 : Int32)) - (Int32.ofNat jv)) := ⟨_, rfl⟩
  rw [← hbt]
  refine own_st (T' := T1) (g' := (mkF m 10 #[.val (.ref a1), .val (.int (Int32.ofNat jv)), .val (.ref a2), .val (.int bt), .unset, .unset, .unset, .unset, .unset, .unset, .unset, .unset, .unset] [(.ref a1)])) (fun t9 k9 => XS.aloadN X1.here hx rfl (hb hby d5_9) rfl rfl k9) ?_
  obtain ⟨T2, X2, e2, st2⟩ := getF X1 hx hZ hown (host := "") (Or.inl (hw _ (List.mem_of_getElem? (i := 26) rfl))) Via.refl e1 Fr1 (g := (mkF m 10 #[.val (.ref a1), .val (.int (Int32.ofNat jv)), .val (.ref a2), .val (.int bt), .unset, .unset, .unset, .unset, .unset, .unset, .unset, .unset, .unset] [(.ref a1)])) rfl rfl (hb hby d5_10)
  refine own_st (T' := T2) (g' := (mkF m 13 #[.val (.ref a1), .val (.int (Int32.ofNat jv)), .val (.ref a2), .val (.int bt), .unset, .unset, .unset, .unset, .unset, .unset, .unset, .unset, .unset] [(.ref ro)])) (fun t9 k9 => st2 t9 k9) ?_
  refine own_st (T' := T2) (g' := (mkF m 14 #[.val (.ref a1), .val (.int (Int32.ofNat jv)), .val (.ref a2), .val (.int bt), .unset, .unset, .unset, .unset, .unset, .unset, .unset, .unset, .unset] [(.int (Int32.ofNat jv)), (.ref ro)])) (fun t9 k9 => XS.iloadN X2.here hx rfl (hb hby d5_13) rfl k9) ?_
  obtain ⟨clu3, Aru3, qu3, Su3, Nu3, Hu3, Gu3⟩ := (id Vro)
  have hinu3 := inb_of Su3 (j := (Int32.ofNat jv)) ⟨q2, own_lt hj (by omega)⟩
  refine own_st (T' := T2) (g' := (mkF m 15 #[.val (.ref a1), .val (.int (Int32.ofNat jv)), .val (.ref a2), .val (.int bt), .unset, .unset, .unset, .unset, .unset, .unset, .unset, .unset, .unset] [(.ref x1)])) (fun t9 k9 => X2.aaload hx (j := (Int32.ofNat jv)) (v := (.ref x1)) (by rw [e2]; exact Aru3.1) (State.isArrayOf_alike hZ.alike Aru3.2.1) rfl Aru3.2.2 hinu3 (Hu3.at hinu3 (by rw [q1]; exact hxj)) (g := (mkF m 14 #[.val (.ref a1), .val (.int (Int32.ofNat jv)), .val (.ref a2), .val (.int bt), .unset, .unset, .unset, .unset, .unset, .unset, .unset, .unset, .unset] [(.int (Int32.ofNat jv)), (.ref ro)])) rfl rfl (hb hby d5_14) t9 k9) ?_
  refine own_st (T' := T2) (g' := (mkF m 17 #[.val (.ref a1), .val (.int (Int32.ofNat jv)), .val (.ref a2), .val (.int bt), .val (.ref x1), .unset, .unset, .unset, .unset, .unset, .unset, .unset, .unset] [])) (fun t9 k9 => XS.astore X2.here hx rfl (hb hby d5_15) rfl rfl (l' := #[.val (.ref a1), .val (.int (Int32.ofNat jv)), .val (.ref a2), .val (.int bt), .val (.ref x1), .unset, .unset, .unset, .unset, .unset, .unset, .unset, .unset]) rfl k9) ?_
  refine own_st (T' := T2) (g' := (mkF m 18 #[.val (.ref a1), .val (.int (Int32.ofNat jv)), .val (.ref a2), .val (.int bt), .val (.ref x1), .unset, .unset, .unset, .unset, .unset, .unset, .unset, .unset] [(.int (0 : Int32))])) (fun t9 k9 => XS.iconst X2.here hx rfl (hb hby d5_17) k9) ?_
  refine own_st (T' := T2) (g' := (mkF m 20 #[.val (.ref a1), .val (.int (Int32.ofNat jv)), .val (.ref a2), .val (.int bt), .val (.ref x1), .val (.int (0 : Int32)), .unset, .unset, .unset, .unset, .unset, .unset, .unset] [])) (fun t9 k9 => XS.istore X2.here hx rfl (hb hby d5_18) rfl (l' := #[.val (.ref a1), .val (.int (Int32.ofNat jv)), .val (.ref a2), .val (.int bt), .val (.ref x1), .val (.int (0 : Int32)), .unset, .unset, .unset, .unset, .unset, .unset, .unset]) rfl k9) ?_
  have hset : (List.replicate wn (Value.long 0)) = (List.replicate wn (Value.long 0)).set 0 (.long 0) := by
    rcases hN with ⟨rfl, -⟩ | ⟨rfl, -⟩ <;> rfl
  have Vx2 := Vx
  rw [hset] at Vx2
  have j59 : ∀ (T4 : State) (L4 : List Loc) (h4 : Heap) (wv : Int64) (cn : Nat), Stand p l e ({ frames := 1, cells := 1, slots := 64, locals := 40 } : Room) s m #[(.ref a1), (.int (Int32.ofNat jv)), (.ref a2)] below meth c T4 L4 (0) (0) → T4.heap = h4 → Fr n0 L4 → (n0 ≤ h4.size) → (Keep h0 h4 [x1, y1, ze]) → (Fld Z h4 a1 "com/example/newsweave/newsweave/nas/PlaceRecords" "levels" "I" (.int (Int32.ofNat lv))) → (Fld Z h4 a1 "com/example/newsweave/newsweave/nas/PlaceRecords" "rows" "[[J" (.ref ro)) → (Fld Z h4 a1 "com/example/newsweave/newsweave/nas/PlaceRecords" "onesBefore" "[[I" (.ref ob)) → (Fld Z h4 a1 "com/example/newsweave/newsweave/nas/PlaceRecords" "zeros" "[I" (.ref ze)) → (Arv Z h4 ro kro (.array .long) (Int32.ofNat lv) xs .null) → (Arv Z h4 ob kob (.array .int) (Int32.ofNat lv) ys .null) → (Arv Z h4 a2 k2 .int (Int32.ofNat ln) (List.replicate ln (.int w1)) (.int 0)) → (Arv Z h4 x1 kx .long (Int32.ofNat wn) ((List.replicate wn (Value.long 0)).set 0 (.long wv)) (.long 0)) → (Arv Z h4 y1 ky .int (Int32.ofNat wn) vy (.int 0)) → (Arv Z h4 ze kze .int (Int32.ofNat lv) vz (.int 0)) → (own_bc wv = (Int32.ofNat cn)) → ((((own_u w1 bt) &&& (1 : Int32)) = 0 ∧ cn = 0) ∨ (¬ ((own_u w1 bt) &&& (1 : Int32)) = 0 ∧ cn = ln)) → own_Go p e below F T4 (mkF m 59 #[.val (.ref a1), .val (.int (Int32.ofNat jv)), .val (.ref a2), .val (.int bt), .val (.ref x1), .val (.int (Int32.ofNat ln)), .unset, .unset, .unset, .unset, .unset, .unset, .unset] []) := by
    intro T4 L4 h4 wv cn X4 e4 N4 Z4 K4 Fla Fr1a Foa Fza Vroa Voba V2a Vxa Vya Vza hbc hcn
    refine own_st (T' := T4) (g' := (mkF m 60 #[.val (.ref a1), .val (.int (Int32.ofNat jv)), .val (.ref a2), .val (.int bt), .val (.ref x1), .val (.int (Int32.ofNat ln)), .unset, .unset, .unset, .unset, .unset, .unset, .unset] [(.int (0 : Int32))])) (fun t9 k9 => XS.iconst X4.here hx rfl (hb hby d5_59) k9) ?_
    refine own_st (T' := T4) (g' := (mkF m 62 #[.val (.ref a1), .val (.int (Int32.ofNat jv)), .val (.ref a2), .val (.int bt), .val (.ref x1), .val (.int (0 : Int32)), .unset, .unset, .unset, .unset, .unset, .unset, .unset] [])) (fun t9 k9 => XS.istore X4.here hx rfl (hb hby d5_60) rfl (l' := #[.val (.ref a1), .val (.int (Int32.ofNat jv)), .val (.ref a2), .val (.int bt), .val (.ref x1), .val (.int (0 : Int32)), .unset, .unset, .unset, .unset, .unset, .unset, .unset]) rfl k9) ?_
    refine own_st (T' := T4) (g' := (mkF m 63 #[.val (.ref a1), .val (.int (Int32.ofNat jv)), .val (.ref a2), .val (.int bt), .val (.ref x1), .val (.int (0 : Int32)), .unset, .unset, .unset, .unset, .unset, .unset, .unset] [(.int (0 : Int32))])) (fun t9 k9 => XS.iconst X4.here hx rfl (hb hby d5_62) k9) ?_
    refine own_st (T' := T4) (g' := (mkF m 65 #[.val (.ref a1), .val (.int (Int32.ofNat jv)), .val (.ref a2), .val (.int bt), .val (.ref x1), .val (.int (0 : Int32)), .val (.int (0 : Int32)), .unset, .unset, .unset, .unset, .unset, .unset] [])) (fun t9 k9 => XS.istore X4.here hx rfl (hb hby d5_63) rfl (l' := #[.val (.ref a1), .val (.int (Int32.ofNat jv)), .val (.ref a2), .val (.int bt), .val (.ref x1), .val (.int (0 : Int32)), .val (.int (0 : Int32)), .unset, .unset, .unset, .unset, .unset, .unset]) rfl k9) ?_
    have j103 : ∀ (T5 : State) (L5 : List Loc) (h5 : Heap) (p6 : Int32) (vy' : List Value), Stand p l e ({ frames := 1, cells := 1, slots := 64, locals := 40 } : Room) s m #[(.ref a1), (.int (Int32.ofNat jv)), (.ref a2)] below meth c T5 L5 (0) (0) → T5.heap = h5 → Fr n0 L5 → (n0 ≤ h5.size) → (Keep h0 h5 [x1, y1, ze]) → (Fld Z h5 a1 "com/example/newsweave/newsweave/nas/PlaceRecords" "levels" "I" (.int (Int32.ofNat lv))) → (Fld Z h5 a1 "com/example/newsweave/newsweave/nas/PlaceRecords" "rows" "[[J" (.ref ro)) → (Fld Z h5 a1 "com/example/newsweave/newsweave/nas/PlaceRecords" "onesBefore" "[[I" (.ref ob)) → (Fld Z h5 a1 "com/example/newsweave/newsweave/nas/PlaceRecords" "zeros" "[I" (.ref ze)) → (Arv Z h5 ro kro (.array .long) (Int32.ofNat lv) xs .null) → (Arv Z h5 ob kob (.array .int) (Int32.ofNat lv) ys .null) → (Arv Z h5 a2 k2 .int (Int32.ofNat ln) (List.replicate ln (.int w1)) (.int 0)) → (Arv Z h5 x1 kx .long (Int32.ofNat wn) ((List.replicate wn (Value.long 0)).set 0 (.long wv)) (.long 0)) → (Arv Z h5 y1 ky .int (Int32.ofNat wn) vy' (.int 0)) → (Arv Z h5 ze kze .int (Int32.ofNat lv) vz (.int 0)) → (vy'.length = wn) → own_Go p e below F T5 (mkF m 103 #[.val (.ref a1), .val (.int (Int32.ofNat jv)), .val (.ref a2), .val (.int bt), .val (.ref x1), .val (.int (Int32.ofNat cn)), .val (.int p6), .unset, .unset, .unset, .unset, .unset, .unset] []) := by
      intro T5 L5 h5 p6 vy' X5 e5 N5 Z5 K5 Flb Fr1b Fob Fzb Vrob Vobb V2b Vxb Vyb Vzb hvy'
      have hcl : cn ≤ ln := by rcases hcn with ⟨-, q⟩ | ⟨-, q⟩ <;> omega
      obtain ⟨l1, l2⟩ := own_nat (i := ln) (by omega)
      refine own_st (T' := T5) (g' := (mkF m 104 #[.val (.ref a1), .val (.int (Int32.ofNat jv)), .val (.ref a2), .val (.int bt), .val (.ref x1), .val (.int (Int32.ofNat cn)), .val (.int p6), .unset, .unset, .unset, .unset, .unset, .unset] [(.ref a1)])) (fun t9 k9 => XS.aloadN X5.here hx rfl (hb hby d5_103) rfl rfl k9) ?_
      obtain ⟨T6, X6, e6, st6⟩ := getF X5 hx hZ hown (host := "") (Or.inl (hw _ (List.mem_of_getElem? (i := 32) rfl))) Via.refl e5 Fzb (g := (mkF m 104 #[.val (.ref a1), .val (.int (Int32.ofNat jv)), .val (.ref a2), .val (.int bt), .val (.ref x1), .val (.int (Int32.ofNat cn)), .val (.int p6), .unset, .unset, .unset, .unset, .unset, .unset] [(.ref a1)])) rfl rfl (hb hby d5_104)
      refine own_st (T' := T6) (g' := (mkF m 107 #[.val (.ref a1), .val (.int (Int32.ofNat jv)), .val (.ref a2), .val (.int bt), .val (.ref x1), .val (.int (Int32.ofNat cn)), .val (.int p6), .unset, .unset, .unset, .unset, .unset, .unset] [(.ref ze)])) (fun t9 k9 => st6 t9 k9) ?_
      refine own_st (T' := T6) (g' := (mkF m 108 #[.val (.ref a1), .val (.int (Int32.ofNat jv)), .val (.ref a2), .val (.int bt), .val (.ref x1), .val (.int (Int32.ofNat cn)), .val (.int p6), .unset, .unset, .unset, .unset, .unset, .unset] [(.int (Int32.ofNat jv)), (.ref ze)])) (fun t9 k9 => XS.iloadN X6.here hx rfl (hb hby d5_107) rfl k9) ?_
      refine own_st (T' := T6) (g' := (mkF m 109 #[.val (.ref a1), .val (.int (Int32.ofNat jv)), .val (.ref a2), .val (.int bt), .val (.ref x1), .val (.int (Int32.ofNat cn)), .val (.int p6), .unset, .unset, .unset, .unset, .unset, .unset] [(.ref a2), (.int (Int32.ofNat jv)), (.ref ze)])) (fun t9 k9 => XS.aloadN X6.here hx rfl (hb hby d5_108) rfl rfl k9) ?_
      obtain ⟨clu7, Aru7, qu7, Su7, Nu7, Hu7, Gu7⟩ := (id V2b)
      refine own_st (T' := T6) (g' := (mkF m 110 #[.val (.ref a1), .val (.int (Int32.ofNat jv)), .val (.ref a2), .val (.int bt), .val (.ref x1), .val (.int (Int32.ofNat cn)), .val (.int p6), .unset, .unset, .unset, .unset, .unset, .unset] [(.int (Int32.ofNat ln)), (.int (Int32.ofNat jv)), (.ref ze)])) (fun t9 k9 => X6.arraylength hx (by rw [e6]; exact Aru7.1) (State.isArrayOf_alike hZ.alike Aru7.2.1) (g := (mkF m 109 #[.val (.ref a1), .val (.int (Int32.ofNat jv)), .val (.ref a2), .val (.int bt), .val (.ref x1), .val (.int (Int32.ofNat cn)), .val (.int p6), .unset, .unset, .unset, .unset, .unset, .unset] [(.ref a2), (.int (Int32.ofNat jv)), (.ref ze)])) rfl rfl (hb hby d5_109) t9 (by rw [len_of Su7 Nu7]; exact k9)) ?_
      refine own_st (T' := T6) (g' := (mkF m 112 #[.val (.ref a1), .val (.int (Int32.ofNat jv)), .val (.ref a2), .val (.int bt), .val (.ref x1), .val (.int (Int32.ofNat cn)), .val (.int p6), .unset, .unset, .unset, .unset, .unset, .unset] [(.int (Int32.ofNat cn)), (.int (Int32.ofNat ln)), (.int (Int32.ofNat jv)), (.ref ze)])) (fun t9 k9 => XS.iload X6.here hx rfl (hb hby d5_110) rfl k9) ?_
      refine own_st (T' := T6) (g' := (mkF m 113 #[.val (.ref a1), .val (.int (Int32.ofNat jv)), .val (.ref a2), .val (.int bt), .val (.ref x1), .val (.int (Int32.ofNat cn)), .val (.int p6), .unset, .unset, .unset, .unset, .unset, .unset] [(.int ((Int32.ofNat ln) - (Int32.ofNat cn))), (.int (Int32.ofNat jv)), (.ref ze)])) (fun t9 k9 => XS.isub X6.here hx rfl (hb hby d5_112) rfl k9) ?_
      rw [own_sub hcl]
      obtain ⟨clu8, Aru8, qu8, Su8, Nu8, Hu8, Gu8⟩ := (id Vzb)
      obtain ⟨T9, h9, X9, e9, W9, st9⟩ := stI X6 hx hZ e6 Aru8 (j := (Int32.ofNat jv)) (inb_of Su8 ⟨q2, own_lt hj (by omega)⟩) (g := (mkF m 113 #[.val (.ref a1), .val (.int (Int32.ofNat jv)), .val (.ref a2), .val (.int bt), .val (.ref x1), .val (.int (Int32.ofNat cn)), .val (.int p6), .unset, .unset, .unset, .unset, .unset, .unset] [(.int (Int32.ofNat (ln - cn))), (.int (Int32.ofNat jv)), (.ref ze)])) rfl rfl (hb hby d5_113)
      have Va9 := Arv.set Aru8 qu8 Su8 Nu8 Hu8 Gu8 rfl W9 jv q1 (by rw [hvz]; exact hj)
      have Flb_10 := Flb.other W9 (Or.inl ne_a1_ze)
      have Fr1b_11 := Fr1b.other W9 (Or.inl ne_a1_ze)
      have Fob_12 := Fob.other W9 (Or.inl ne_a1_ze)
      have Fzb_13 := Fzb.other W9 (Or.inl ne_a1_ze)
      have Vrob_14 := Vrob.other W9 ne_ro_ze
      have Vobb_15 := Vobb.other W9 ne_ob_ze
      have V2b_16 := V2b.other W9 ne_a2_ze
      have Vxb_17 := Vxb.other W9 ne_x1_ze
      have Vyb_18 := Vyb.other W9 ne_y1_ze
      have K9 := K5.wr W9 (Or.inl (by simp))
      have N9 := Fr.snoc X9 N5 g_ze
      have Z9 : n0 ≤ h9.size := by rw [W9.size]; exact Z5
      refine own_st (T' := T9) (g' := (mkF m 114 #[.val (.ref a1), .val (.int (Int32.ofNat jv)), .val (.ref a2), .val (.int bt), .val (.ref x1), .val (.int (Int32.ofNat cn)), .val (.int p6), .unset, .unset, .unset, .unset, .unset, .unset] [])) (fun t9 k9 => st9 t9 k9) ?_
      refine own_st (T' := T9) (g' := (mkF m 115 #[.val (.ref a1), .val (.int (Int32.ofNat jv)), .val (.ref a2), .val (.int bt), .val (.ref x1), .val (.int (Int32.ofNat cn)), .val (.int p6), .unset, .unset, .unset, .unset, .unset, .unset] [(.ref a2)])) (fun t9 k9 => XS.aloadN X9.here hx rfl (hb hby d5_114) rfl rfl k9) ?_
      obtain ⟨clu19, Aru19, qu19, Su19, Nu19, Hu19, Gu19⟩ := (id V2b_16)
      refine own_st (T' := T9) (g' := (mkF m 116 #[.val (.ref a1), .val (.int (Int32.ofNat jv)), .val (.ref a2), .val (.int bt), .val (.ref x1), .val (.int (Int32.ofNat cn)), .val (.int p6), .unset, .unset, .unset, .unset, .unset, .unset] [(.int (Int32.ofNat ln))])) (fun t9 k9 => X9.arraylength hx (by rw [e9]; exact Aru19.1) (State.isArrayOf_alike hZ.alike Aru19.2.1) (g := (mkF m 115 #[.val (.ref a1), .val (.int (Int32.ofNat jv)), .val (.ref a2), .val (.int bt), .val (.ref x1), .val (.int (Int32.ofNat cn)), .val (.int p6), .unset, .unset, .unset, .unset, .unset, .unset] [(.ref a2)])) rfl rfl (hb hby d5_115) t9 (by rw [len_of Su19 Nu19]; exact k9)) ?_
      obtain ⟨T20, h20, k20, X20, e20, Ex20, A20, st20⟩ := newP X9 hx hZ (hw _ (List.mem_of_getElem? (i := 1) rfl)) e9 (g := (mkF m 116 #[.val (.ref a1), .val (.int (Int32.ofNat jv)), .val (.ref a2), .val (.int bt), .val (.ref x1), .val (.int (Int32.ofNat cn)), .val (.int p6), .unset, .unset, .unset, .unset, .unset, .unset] [(.int (Int32.ofNat ln))])) rfl (hb hby d5_116) rfl l2 (cap := 64) (by rw [l1]; omega) (by decide) (by decide) (by decide)
      obtain ⟨b20, gb20⟩ : ∃ z, z = h9.size := ⟨_, rfl⟩
      have ne_a1_b20 : a1 ≠ b20 := own_ne gb20 Flb_10.lt
      have ne_a2_b20 : a2 ≠ b20 := own_ne gb20 V2b_16.lt
      have ne_ob_b20 : ob ≠ b20 := own_ne gb20 Vobb_15.lt
      have ne_ro_b20 : ro ≠ b20 := own_ne gb20 Vrob_14.lt
      have ne_x1_b20 : x1 ≠ b20 := own_ne gb20 Vxb_17.lt
      have ne_y1_b20 : y1 ≠ b20 := own_ne gb20 Vyb_18.lt
      have ne_ze_b20 : ze ≠ b20 := own_ne gb20 Va9.lt
      have g_b20 : n0 ≤ b20 := gb20 ▸ Z9
      have sz_b20 : h0.size ≤ b20 := gb20 ▸ K9.1
      rw [← gb20] at A20 st20
      have Flb_21 := Flb_10.ext Ex20
      have Fr1b_22 := Fr1b_11.ext Ex20
      have Fob_23 := Fob_12.ext Ex20
      have Fzb_24 := Fzb_13.ext Ex20
      have Vrob_25 := Vrob_14.ext Ex20
      have Vobb_26 := Vobb_15.ext Ex20
      have V2b_27 := V2b_16.ext Ex20
      have Vxb_28 := Vxb_17.ext Ex20
      have Vyb_29 := Vyb_18.ext Ex20
      have Va9_30 := Va9.ext Ex20
      have K20 := K9.ext Ex20
      have Z20 : n0 ≤ h20.size := Nat.le_trans Z9 Ex20.1
      have V_b20 : Arv Z h20 b20 k20 .int (Int32.ofNat ln) [] (.int (0 : Int32)) := Arv.new A20 l2
      refine own_st (T' := T20) (g' := (mkF m 118 #[.val (.ref a1), .val (.int (Int32.ofNat jv)), .val (.ref a2), .val (.int bt), .val (.ref x1), .val (.int (Int32.ofNat cn)), .val (.int p6), .unset, .unset, .unset, .unset, .unset, .unset] [(.ref b20)])) (fun t9 k9 => st20 t9 k9) ?_
      have Vb : Arv Z h20 b20 k20 .int (Int32.ofNat ln) (List.replicate ln (.int 0)) (.int 0) := V_b20.pad (pad_rep [] (.int 0) ln)
      refine own_st (T' := T20) (g' := (mkF m 120 #[.val (.ref a1), .val (.int (Int32.ofNat jv)), .val (.ref a2), .val (.int bt), .val (.ref x1), .val (.int (Int32.ofNat cn)), .val (.ref b20), .unset, .unset, .unset, .unset, .unset, .unset] [])) (fun t9 k9 => XS.astore X20.here hx rfl (hb hby d5_118) rfl rfl (l' := #[.val (.ref a1), .val (.int (Int32.ofNat jv)), .val (.ref a2), .val (.int bt), .val (.ref x1), .val (.int (Int32.ofNat cn)), .val (.ref b20), .unset, .unset, .unset, .unset, .unset, .unset]) rfl k9) ?_
      refine own_st (T' := T20) (g' := (mkF m 121 #[.val (.ref a1), .val (.int (Int32.ofNat jv)), .val (.ref a2), .val (.int bt), .val (.ref x1), .val (.int (Int32.ofNat cn)), .val (.ref b20), .unset, .unset, .unset, .unset, .unset, .unset] [(.int (0 : Int32))])) (fun t9 k9 => XS.iconst X20.here hx rfl (hb hby d5_120) k9) ?_
      refine own_st (T' := T20) (g' := (mkF m 123 #[.val (.ref a1), .val (.int (Int32.ofNat jv)), .val (.ref a2), .val (.int bt), .val (.ref x1), .val (.int (Int32.ofNat cn)), .val (.ref b20), .val (.int (0 : Int32)), .unset, .unset, .unset, .unset, .unset] [])) (fun t9 k9 => XS.istore X20.here hx rfl (hb hby d5_121) rfl (l' := #[.val (.ref a1), .val (.int (Int32.ofNat jv)), .val (.ref a2), .val (.int bt), .val (.ref x1), .val (.int (Int32.ofNat cn)), .val (.ref b20), .val (.int (0 : Int32)), .unset, .unset, .unset, .unset, .unset]) rfl k9) ?_
      refine own_st (T' := T20) (g' := (mkF m 124 #[.val (.ref a1), .val (.int (Int32.ofNat jv)), .val (.ref a2), .val (.int bt), .val (.ref x1), .val (.int (Int32.ofNat cn)), .val (.ref b20), .val (.int (0 : Int32)), .unset, .unset, .unset, .unset, .unset] [(.ref a1)])) (fun t9 k9 => XS.aloadN X20.here hx rfl (hb hby d5_123) rfl rfl k9) ?_
      obtain ⟨T31, X31, e31, st31⟩ := getF X20 hx hZ hown (host := "") (Or.inl (hw _ (List.mem_of_getElem? (i := 32) rfl))) Via.refl e20 Fzb_24 (g := (mkF m 124 #[.val (.ref a1), .val (.int (Int32.ofNat jv)), .val (.ref a2), .val (.int bt), .val (.ref x1), .val (.int (Int32.ofNat cn)), .val (.ref b20), .val (.int (0 : Int32)), .unset, .unset, .unset, .unset, .unset] [(.ref a1)])) rfl rfl (hb hby d5_124)
      refine own_st (T' := T31) (g' := (mkF m 127 #[.val (.ref a1), .val (.int (Int32.ofNat jv)), .val (.ref a2), .val (.int bt), .val (.ref x1), .val (.int (Int32.ofNat cn)), .val (.ref b20), .val (.int (0 : Int32)), .unset, .unset, .unset, .unset, .unset] [(.ref ze)])) (fun t9 k9 => st31 t9 k9) ?_
      refine own_st (T' := T31) (g' := (mkF m 128 #[.val (.ref a1), .val (.int (Int32.ofNat jv)), .val (.ref a2), .val (.int bt), .val (.ref x1), .val (.int (Int32.ofNat cn)), .val (.ref b20), .val (.int (0 : Int32)), .unset, .unset, .unset, .unset, .unset] [(.int (Int32.ofNat jv)), (.ref ze)])) (fun t9 k9 => XS.iloadN X31.here hx rfl (hb hby d5_127) rfl k9) ?_
      obtain ⟨clu32, Aru32, qu32, Su32, Nu32, Hu32, Gu32⟩ := (id Va9_30)
      have hinu32 := inb_of Su32 (j := (Int32.ofNat jv)) ⟨q2, own_lt hj (by omega)⟩
      refine own_st (T' := T31) (g' := (mkF m 129 #[.val (.ref a1), .val (.int (Int32.ofNat jv)), .val (.ref a2), .val (.int bt), .val (.ref x1), .val (.int (Int32.ofNat cn)), .val (.ref b20), .val (.int (0 : Int32)), .unset, .unset, .unset, .unset, .unset] [(.int (Int32.ofNat (ln - cn)))])) (fun t9 k9 => X31.iaload hx (j := (Int32.ofNat jv)) (v := (.int (Int32.ofNat (ln - cn)))) (by rw [e31]; exact Aru32.1) (State.isArrayOf_alike hZ.alike Aru32.2.1) Aru32.2.2 hinu32 (Hu32.at hinu32 (by rw [q1, own_getD_set (by rw [hvz]; exact hj), if_pos rfl])) (g := (mkF m 128 #[.val (.ref a1), .val (.int (Int32.ofNat jv)), .val (.ref a2), .val (.int bt), .val (.ref x1), .val (.int (Int32.ofNat cn)), .val (.ref b20), .val (.int (0 : Int32)), .unset, .unset, .unset, .unset, .unset] [(.int (Int32.ofNat jv)), (.ref ze)])) rfl rfl (hb hby d5_128) t9 k9) ?_
      refine own_st (T' := T31) (g' := (mkF m 131 #[.val (.ref a1), .val (.int (Int32.ofNat jv)), .val (.ref a2), .val (.int bt), .val (.ref x1), .val (.int (Int32.ofNat cn)), .val (.ref b20), .val (.int (0 : Int32)), .val (.int (Int32.ofNat (ln - cn))), .unset, .unset, .unset, .unset] [])) (fun t9 k9 => XS.istore X31.here hx rfl (hb hby d5_129) rfl (l' := #[.val (.ref a1), .val (.int (Int32.ofNat jv)), .val (.ref a2), .val (.int bt), .val (.ref x1), .val (.int (Int32.ofNat cn)), .val (.ref b20), .val (.int (0 : Int32)), .val (.int (Int32.ofNat (ln - cn))), .unset, .unset, .unset, .unset]) rfl k9) ?_
      refine own_st (T' := T31) (g' := (mkF m 132 #[.val (.ref a1), .val (.int (Int32.ofNat jv)), .val (.ref a2), .val (.int bt), .val (.ref x1), .val (.int (Int32.ofNat cn)), .val (.ref b20), .val (.int (0 : Int32)), .val (.int (Int32.ofNat (ln - cn))), .unset, .unset, .unset, .unset] [(.ref a2)])) (fun t9 k9 => XS.aloadN X31.here hx rfl (hb hby d5_131) rfl rfl k9) ?_
      refine own_st (T' := T31) (g' := (mkF m 134 #[.val (.ref a1), .val (.int (Int32.ofNat jv)), .val (.ref a2), .val (.int bt), .val (.ref x1), .val (.int (Int32.ofNat cn)), .val (.ref b20), .val (.int (0 : Int32)), .val (.int (Int32.ofNat (ln - cn))), .val (.ref a2), .unset, .unset, .unset] [])) (fun t9 k9 => XS.astore X31.here hx rfl (hb hby d5_132) rfl rfl (l' := #[.val (.ref a1), .val (.int (Int32.ofNat jv)), .val (.ref a2), .val (.int bt), .val (.ref x1), .val (.int (Int32.ofNat cn)), .val (.ref b20), .val (.int (0 : Int32)), .val (.int (Int32.ofNat (ln - cn))), .val (.ref a2), .unset, .unset, .unset]) rfl k9) ?_
      refine own_st (T' := T31) (g' := (mkF m 136 #[.val (.ref a1), .val (.int (Int32.ofNat jv)), .val (.ref a2), .val (.int bt), .val (.ref x1), .val (.int (Int32.ofNat cn)), .val (.ref b20), .val (.int (0 : Int32)), .val (.int (Int32.ofNat (ln - cn))), .val (.ref a2), .unset, .unset, .unset] [(.ref a2)])) (fun t9 k9 => XS.aload X31.here hx rfl (hb hby d5_134) rfl rfl k9) ?_
      obtain ⟨clu33, Aru33, qu33, Su33, Nu33, Hu33, Gu33⟩ := (id V2b_27)
      refine own_st (T' := T31) (g' := (mkF m 137 #[.val (.ref a1), .val (.int (Int32.ofNat jv)), .val (.ref a2), .val (.int bt), .val (.ref x1), .val (.int (Int32.ofNat cn)), .val (.ref b20), .val (.int (0 : Int32)), .val (.int (Int32.ofNat (ln - cn))), .val (.ref a2), .unset, .unset, .unset] [(.int (Int32.ofNat ln))])) (fun t9 k9 => X31.arraylength hx (by rw [e31]; exact Aru33.1) (State.isArrayOf_alike hZ.alike Aru33.2.1) (g := (mkF m 136 #[.val (.ref a1), .val (.int (Int32.ofNat jv)), .val (.ref a2), .val (.int bt), .val (.ref x1), .val (.int (Int32.ofNat cn)), .val (.ref b20), .val (.int (0 : Int32)), .val (.int (Int32.ofNat (ln - cn))), .val (.ref a2), .unset, .unset, .unset] [(.ref a2)])) rfl rfl (hb hby d5_136) t9 (by rw [len_of Su33 Nu33]; exact k9)) ?_
      refine own_st (T' := T31) (g' := (mkF m 139 #[.val (.ref a1), .val (.int (Int32.ofNat jv)), .val (.ref a2), .val (.int bt), .val (.ref x1), .val (.int (Int32.ofNat cn)), .val (.ref b20), .val (.int (0 : Int32)), .val (.int (Int32.ofNat (ln - cn))), .val (.ref a2), .val (.int (Int32.ofNat ln)), .unset, .unset] [])) (fun t9 k9 => XS.istore X31.here hx rfl (hb hby d5_137) rfl (l' := #[.val (.ref a1), .val (.int (Int32.ofNat jv)), .val (.ref a2), .val (.int bt), .val (.ref x1), .val (.int (Int32.ofNat cn)), .val (.ref b20), .val (.int (0 : Int32)), .val (.int (Int32.ofNat (ln - cn))), .val (.ref a2), .val (.int (Int32.ofNat ln)), .unset, .unset]) rfl k9) ?_
      refine own_st (T' := T31) (g' := (mkF m 140 #[.val (.ref a1), .val (.int (Int32.ofNat jv)), .val (.ref a2), .val (.int bt), .val (.ref x1), .val (.int (Int32.ofNat cn)), .val (.ref b20), .val (.int (0 : Int32)), .val (.int (Int32.ofNat (ln - cn))), .val (.ref a2), .val (.int (Int32.ofNat ln)), .unset, .unset] [(.int (0 : Int32))])) (fun t9 k9 => XS.iconst X31.here hx rfl (hb hby d5_139) k9) ?_
      refine own_st (T' := T31) (g' := (mkF m 142 #[.val (.ref a1), .val (.int (Int32.ofNat jv)), .val (.ref a2), .val (.int bt), .val (.ref x1), .val (.int (Int32.ofNat cn)), .val (.ref b20), .val (.int (0 : Int32)), .val (.int (Int32.ofNat (ln - cn))), .val (.ref a2), .val (.int (Int32.ofNat ln)), .val (.int (0 : Int32)), .unset] [])) (fun t9 k9 => XS.istore X31.here hx rfl (hb hby d5_140) rfl (l' := #[.val (.ref a1), .val (.int (Int32.ofNat jv)), .val (.ref a2), .val (.int bt), .val (.ref x1), .val (.int (Int32.ofNat cn)), .val (.ref b20), .val (.int (0 : Int32)), .val (.int (Int32.ofNat (ln - cn))), .val (.ref a2), .val (.int (Int32.ofNat ln)), .val (.int (0 : Int32)), .unset]) rfl k9) ?_
      rcases hcn with ⟨hbq, hc2⟩ | ⟨hbq, hc2⟩
      · subst hc2
        show own_Go p e below F T31 (mkF m 142 #[.val (.ref a1), .val (.int (Int32.ofNat jv)), .val (.ref a2), .val (.int bt), .val (.ref x1), .val (.int (Int32.ofNat 0)), .val (.ref b20), .val (.int (0 : Int32)), .val (.int (Int32.ofNat ln)), .val (.ref a2), .val (.int (Int32.ofNat ln)), .val (.int (0 : Int32)), .unset] [])
        have lc : ∀ (k : Nat) (T34 : State) (L34 : List Loc) (h34 : Heap) (i : Nat) (vb : List Value) (s12 : Slot), Stand p l e ({ frames := 1, cells := 1, slots := 64, locals := 40 } : Room) s m #[(.ref a1), (.int (Int32.ofNat jv)), (.ref a2)] below meth c T34 L34 (0 + 1) (0 + 64) → T34.heap = h34 → Fr n0 L34 → (n0 ≤ h34.size) → (Keep h0 h34 [x1, y1, ze]) → (Arv Z h34 a2 k2 .int (Int32.ofNat ln) (List.replicate ln (.int w1)) (.int 0)) → (Arv Z h34 x1 kx .long (Int32.ofNat wn) ((List.replicate wn (Value.long 0)).set 0 (.long wv)) (.long 0)) → (Arv Z h34 y1 ky .int (Int32.ofNat wn) vy' (.int 0)) → (Arv Z h34 ze kze .int (Int32.ofNat lv) (vz.set jv (.int (Int32.ofNat (ln - 0)))) (.int 0)) → (Arv Z h34 b20 k20 .int (Int32.ofNat ln) vb (.int 0)) → (i + k = ln) → (own_U vb ln i w1) → (One s12) → own_Go p e below F T34 (mkF m 142 #[.val (.ref a1), .val (.int (Int32.ofNat jv)), .val (.ref a2), .val (.int bt), .val (.ref x1), .val (.int (Int32.ofNat 0)), .val (.ref b20), .val (.int (Int32.ofNat i)), .val (.int (Int32.ofNat ln)), .val (.ref a2), .val (.int (Int32.ofNat ln)), .val (.int (Int32.ofNat i)), s12] []) := by
          intro k
          induction k with
          | zero =>
            intro T34 L34 h34 i vb s12 X34 e34 N34 Z34 K34 V2c Vxc Vyc Vzc Vbc hi hU ho_s12
            obtain rfl : ln = i := by omega
            show own_Go p e below F T34 (mkF m 142 #[.val (.ref a1), .val (.int (Int32.ofNat jv)), .val (.ref a2), .val (.int bt), .val (.ref x1), .val (.int (Int32.ofNat 0)), .val (.ref b20), .val (.int (Int32.ofNat ln)), .val (.int (Int32.ofNat ln)), .val (.ref a2), .val (.int (Int32.ofNat ln)), .val (.int (Int32.ofNat ln)), s12] [])
            refine own_st (T' := T34) (g' := (mkF m 144 #[.val (.ref a1), .val (.int (Int32.ofNat jv)), .val (.ref a2), .val (.int bt), .val (.ref x1), .val (.int (Int32.ofNat 0)), .val (.ref b20), .val (.int (Int32.ofNat ln)), .val (.int (Int32.ofNat ln)), .val (.ref a2), .val (.int (Int32.ofNat ln)), .val (.int (Int32.ofNat ln)), s12] [(.int (Int32.ofNat ln))])) (fun t9 k9 => XS.iload X34.here hx rfl (hb hby d5_142) rfl k9) ?_
            refine own_st (T' := T34) (g' := (mkF m 146 #[.val (.ref a1), .val (.int (Int32.ofNat jv)), .val (.ref a2), .val (.int bt), .val (.ref x1), .val (.int (Int32.ofNat 0)), .val (.ref b20), .val (.int (Int32.ofNat ln)), .val (.int (Int32.ofNat ln)), .val (.ref a2), .val (.int (Int32.ofNat ln)), .val (.int (Int32.ofNat ln)), s12] [(.int (Int32.ofNat ln)), (.int (Int32.ofNat ln))])) (fun t9 k9 => XS.iload X34.here hx rfl (hb hby d5_144) rfl k9) ?_
            refine own_st (T' := T34) (g' := (mkF m 194 #[.val (.ref a1), .val (.int (Int32.ofNat jv)), .val (.ref a2), .val (.int bt), .val (.ref x1), .val (.int (Int32.ofNat 0)), .val (.ref b20), .val (.int (Int32.ofNat ln)), .val (.int (Int32.ofNat ln)), .val (.ref a2), .val (.int (Int32.ofNat ln)), .val (.int (Int32.ofNat ln)), s12] [])) (fun t9 k9 => XS.icmpYes X34.here hx rfl (pc0 := 146) (pc' := 194) rfl (hb hby d5_146) rfl (flt (Int32.lt_irrefl)).2.1 (by decide) (by decide) k9) ?_
            refine own_st (T' := T34) (g' := (mkF m 196 #[.val (.ref a1), .val (.int (Int32.ofNat jv)), .val (.ref a2), .val (.int bt), .val (.ref x1), .val (.int (Int32.ofNat 0)), .val (.ref b20), .val (.int (Int32.ofNat ln)), .val (.int (Int32.ofNat ln)), .val (.ref a2), .val (.int (Int32.ofNat ln)), .val (.int (Int32.ofNat ln)), s12] [(.ref b20)])) (fun t9 k9 => XS.aload X34.here hx rfl (hb hby d5_194) rfl rfl k9) ?_
            have hall := hU.all
            subst hall
            refine own_ret (v := some (.ref b20)) hF X34 (own_some hret) hlk (fun fs hr => own_retA X34 hx hret rfl rfl (hb hby d5_196) hr) ?_ (by decide) (by decide)
            try rw [e34]
            exact ⟨b20, k20, _, _, _, rfl, N34, K34, sz_b20, Vbc, by rw [List.length_set, List.length_replicate], Vxc, hvy', Vyc, by rw [List.length_set]; exact hvz, Vzc⟩
          | succ k ih =>
            intro T34 L34 h34 i vb s12 X34 e34 N34 Z34 K34 V2c Vxc Vyc Vzc Vbc hi hU ho_s12
            obtain ⟨r1, r2⟩ := own_nat (i := i) (by omega)
            refine own_st (T' := T34) (g' := (mkF m 144 #[.val (.ref a1), .val (.int (Int32.ofNat jv)), .val (.ref a2), .val (.int bt), .val (.ref x1), .val (.int (Int32.ofNat 0)), .val (.ref b20), .val (.int (Int32.ofNat i)), .val (.int (Int32.ofNat ln)), .val (.ref a2), .val (.int (Int32.ofNat ln)), .val (.int (Int32.ofNat i)), s12] [(.int (Int32.ofNat i))])) (fun t9 k9 => XS.iload X34.here hx rfl (hb hby d5_142) rfl k9) ?_
            refine own_st (T' := T34) (g' := (mkF m 146 #[.val (.ref a1), .val (.int (Int32.ofNat jv)), .val (.ref a2), .val (.int bt), .val (.ref x1), .val (.int (Int32.ofNat 0)), .val (.ref b20), .val (.int (Int32.ofNat i)), .val (.int (Int32.ofNat ln)), .val (.ref a2), .val (.int (Int32.ofNat ln)), .val (.int (Int32.ofNat i)), s12] [(.int (Int32.ofNat ln)), (.int (Int32.ofNat i))])) (fun t9 k9 => XS.iload X34.here hx rfl (hb hby d5_144) rfl k9) ?_
            refine own_st (T' := T34) (g' := (mkF m 149 #[.val (.ref a1), .val (.int (Int32.ofNat jv)), .val (.ref a2), .val (.int bt), .val (.ref x1), .val (.int (Int32.ofNat 0)), .val (.ref b20), .val (.int (Int32.ofNat i)), .val (.int (Int32.ofNat ln)), .val (.ref a2), .val (.int (Int32.ofNat ln)), .val (.int (Int32.ofNat i)), s12] [])) (fun t9 k9 => XS.icmpNo X34.here hx rfl (hb hby d5_146) rfl (tlt (own_lt (by omega) (by omega))).2.1 k9) ?_
            refine own_st (T' := T34) (g' := (mkF m 151 #[.val (.ref a1), .val (.int (Int32.ofNat jv)), .val (.ref a2), .val (.int bt), .val (.ref x1), .val (.int (Int32.ofNat 0)), .val (.ref b20), .val (.int (Int32.ofNat i)), .val (.int (Int32.ofNat ln)), .val (.ref a2), .val (.int (Int32.ofNat ln)), .val (.int (Int32.ofNat i)), s12] [(.ref a2)])) (fun t9 k9 => XS.aload X34.here hx rfl (hb hby d5_149) rfl rfl k9) ?_
            refine own_st (T' := T34) (g' := (mkF m 153 #[.val (.ref a1), .val (.int (Int32.ofNat jv)), .val (.ref a2), .val (.int bt), .val (.ref x1), .val (.int (Int32.ofNat 0)), .val (.ref b20), .val (.int (Int32.ofNat i)), .val (.int (Int32.ofNat ln)), .val (.ref a2), .val (.int (Int32.ofNat ln)), .val (.int (Int32.ofNat i)), s12] [(.int (Int32.ofNat i)), (.ref a2)])) (fun t9 k9 => XS.iload X34.here hx rfl (hb hby d5_151) rfl k9) ?_
            obtain ⟨clu35, Aru35, qu35, Su35, Nu35, Hu35, Gu35⟩ := (id V2c)
            have hinu35 := inb_of Su35 (j := (Int32.ofNat i)) ⟨r2, own_lt (by omega) (by omega)⟩
            refine own_st (T' := T34) (g' := (mkF m 154 #[.val (.ref a1), .val (.int (Int32.ofNat jv)), .val (.ref a2), .val (.int bt), .val (.ref x1), .val (.int (Int32.ofNat 0)), .val (.ref b20), .val (.int (Int32.ofNat i)), .val (.int (Int32.ofNat ln)), .val (.ref a2), .val (.int (Int32.ofNat ln)), .val (.int (Int32.ofNat i)), s12] [(.int w1)])) (fun t9 k9 => X34.iaload hx (j := (Int32.ofNat i)) (v := (.int w1)) (by rw [e34]; exact Aru35.1) (State.isArrayOf_alike hZ.alike Aru35.2.1) Aru35.2.2 hinu35 (Hu35.at hinu35 (by rw [r1]; exact own_repD (by omega))) (g := (mkF m 153 #[.val (.ref a1), .val (.int (Int32.ofNat jv)), .val (.ref a2), .val (.int bt), .val (.ref x1), .val (.int (Int32.ofNat 0)), .val (.ref b20), .val (.int (Int32.ofNat i)), .val (.int (Int32.ofNat ln)), .val (.ref a2), .val (.int (Int32.ofNat ln)), .val (.int (Int32.ofNat i)), s12] [(.int (Int32.ofNat i)), (.ref a2)])) rfl rfl (hb hby d5_153) t9 k9) ?_
            refine own_st (T' := T34) (g' := (mkF m 156 #[.val (.ref a1), .val (.int (Int32.ofNat jv)), .val (.ref a2), .val (.int bt), .val (.ref x1), .val (.int (Int32.ofNat 0)), .val (.ref b20), .val (.int (Int32.ofNat i)), .val (.int (Int32.ofNat ln)), .val (.ref a2), .val (.int (Int32.ofNat ln)), .val (.int (Int32.ofNat i)), .val (.int w1)] [])) (fun t9 k9 => XS.istore X34.here hx rfl (hb hby d5_154) rfl (l' := #[.val (.ref a1), .val (.int (Int32.ofNat jv)), .val (.ref a2), .val (.int bt), .val (.ref x1), .val (.int (Int32.ofNat 0)), .val (.ref b20), .val (.int (Int32.ofNat i)), .val (.int (Int32.ofNat ln)), .val (.ref a2), .val (.int (Int32.ofNat ln)), .val (.int (Int32.ofNat i)), .val (.int w1)]) (by rcases ho_s12 with rfl | ⟨w9, rfl, hw9⟩ <;> first | rfl | (cases w9 <;> first | rfl | (simp [Value.category] at hw9))) k9) ?_
            refine own_st (T' := T34) (g' := (mkF m 158 #[.val (.ref a1), .val (.int (Int32.ofNat jv)), .val (.ref a2), .val (.int bt), .val (.ref x1), .val (.int (Int32.ofNat 0)), .val (.ref b20), .val (.int (Int32.ofNat i)), .val (.int (Int32.ofNat ln)), .val (.ref a2), .val (.int (Int32.ofNat ln)), .val (.int (Int32.ofNat i)), .val (.int w1)] [(.int w1)])) (fun t9 k9 => XS.iload X34.here hx rfl (hb hby d5_156) rfl k9) ?_
            refine own_st (T' := T34) (g' := (mkF m 159 #[.val (.ref a1), .val (.int (Int32.ofNat jv)), .val (.ref a2), .val (.int bt), .val (.ref x1), .val (.int (Int32.ofNat 0)), .val (.ref b20), .val (.int (Int32.ofNat i)), .val (.int (Int32.ofNat ln)), .val (.ref a2), .val (.int (Int32.ofNat ln)), .val (.int (Int32.ofNat i)), .val (.int w1)] [(.int bt), (.int w1)])) (fun t9 k9 => XS.iloadN X34.here hx rfl (hb hby d5_158) rfl k9) ?_
            refine own_st (T' := T34) (g' := (mkF m 160 #[.val (.ref a1), .val (.int (Int32.ofNat jv)), .val (.ref a2), .val (.int bt), .val (.ref x1), .val (.int (Int32.ofNat 0)), .val (.ref b20), .val (.int (Int32.ofNat i)), .val (.int (Int32.ofNat ln)), .val (.ref a2), .val (.int (Int32.ofNat ln)), .val (.int (Int32.ofNat i)), .val (.int w1)] [(.int ((w1.toUInt32 >>> (bt &&& 31).toUInt32).toInt32))])) (fun t9 k9 => XS.iushr X34.here hx rfl (hb hby d5_159) rfl k9) ?_
            refine own_st (T' := T34) (g' := (mkF m 161 #[.val (.ref a1), .val (.int (Int32.ofNat jv)), .val (.ref a2), .val (.int bt), .val (.ref x1), .val (.int (Int32.ofNat 0)), .val (.ref b20), .val (.int (Int32.ofNat i)), .val (.int (Int32.ofNat ln)), .val (.ref a2), .val (.int (Int32.ofNat ln)), .val (.int (Int32.ofNat i)), .val (.int w1)] [(.int (1 : Int32)), (.int ((w1.toUInt32 >>> (bt &&& 31).toUInt32).toInt32))])) (fun t9 k9 => XS.iconst X34.here hx rfl (hb hby d5_160) k9) ?_
            refine own_st (T' := T34) (g' := (mkF m 162 #[.val (.ref a1), .val (.int (Int32.ofNat jv)), .val (.ref a2), .val (.int bt), .val (.ref x1), .val (.int (Int32.ofNat 0)), .val (.ref b20), .val (.int (Int32.ofNat i)), .val (.int (Int32.ofNat ln)), .val (.ref a2), .val (.int (Int32.ofNat ln)), .val (.int (Int32.ofNat i)), .val (.int w1)] [(.int (((w1.toUInt32 >>> (bt &&& 31).toUInt32).toInt32) &&& (1 : Int32)))])) (fun t9 k9 => XS.iand X34.here hx rfl (hb hby d5_161) rfl k9) ?_
            refine own_st (T' := T34) (g' := (mkF m 165 #[.val (.ref a1), .val (.int (Int32.ofNat jv)), .val (.ref a2), .val (.int bt), .val (.ref x1), .val (.int (Int32.ofNat 0)), .val (.ref b20), .val (.int (Int32.ofNat i)), .val (.int (Int32.ofNat ln)), .val (.ref a2), .val (.int (Int32.ofNat ln)), .val (.int (Int32.ofNat i)), .val (.int w1)] [])) (fun t9 k9 => XS.ifNo X34.here hx rfl (hb hby d5_162) rfl ((if0 _ _).trans (teq hbq).2) k9) ?_
            refine own_st (T' := T34) (g' := (mkF m 167 #[.val (.ref a1), .val (.int (Int32.ofNat jv)), .val (.ref a2), .val (.int bt), .val (.ref x1), .val (.int (Int32.ofNat 0)), .val (.ref b20), .val (.int (Int32.ofNat i)), .val (.int (Int32.ofNat ln)), .val (.ref a2), .val (.int (Int32.ofNat ln)), .val (.int (Int32.ofNat i)), .val (.int w1)] [(.ref b20)])) (fun t9 k9 => XS.aload X34.here hx rfl (hb hby d5_165) rfl rfl k9) ?_
            refine own_st (T' := T34) (g' := (mkF m 169 #[.val (.ref a1), .val (.int (Int32.ofNat jv)), .val (.ref a2), .val (.int bt), .val (.ref x1), .val (.int (Int32.ofNat 0)), .val (.ref b20), .val (.int (Int32.ofNat i)), .val (.int (Int32.ofNat ln)), .val (.ref a2), .val (.int (Int32.ofNat ln)), .val (.int (Int32.ofNat i)), .val (.int w1)] [(.int (Int32.ofNat i)), (.ref b20)])) (fun t9 k9 => XS.iload X34.here hx rfl (hb hby d5_167) rfl k9) ?_
            refine own_st (T' := T34) (g' := (mkF m 172 #[.val (.ref a1), .val (.int (Int32.ofNat jv)), .val (.ref a2), .val (.int bt), .val (.ref x1), .val (.int (Int32.ofNat 0)), .val (.ref b20), .val (.int ((Int32.ofNat i) + (1 : Int32))), .val (.int (Int32.ofNat ln)), .val (.ref a2), .val (.int (Int32.ofNat ln)), .val (.int (Int32.ofNat i)), .val (.int w1)] [(.int (Int32.ofNat i)), (.ref b20)])) (fun t9 k9 => XS.iinc X34.here hx rfl (hb hby d5_169) rfl (l' := #[.val (.ref a1), .val (.int (Int32.ofNat jv)), .val (.ref a2), .val (.int bt), .val (.ref x1), .val (.int (Int32.ofNat 0)), .val (.ref b20), .val (.int ((Int32.ofNat i) + (1 : Int32))), .val (.int (Int32.ofNat ln)), .val (.ref a2), .val (.int (Int32.ofNat ln)), .val (.int (Int32.ofNat i)), .val (.int w1)]) rfl k9) ?_
            refine own_st (T' := T34) (g' := (mkF m 174 #[.val (.ref a1), .val (.int (Int32.ofNat jv)), .val (.ref a2), .val (.int bt), .val (.ref x1), .val (.int (Int32.ofNat 0)), .val (.ref b20), .val (.int ((Int32.ofNat i) + (1 : Int32))), .val (.int (Int32.ofNat ln)), .val (.ref a2), .val (.int (Int32.ofNat ln)), .val (.int (Int32.ofNat i)), .val (.int w1)] [(.int w1), (.int (Int32.ofNat i)), (.ref b20)])) (fun t9 k9 => XS.iload X34.here hx rfl (hb hby d5_172) rfl k9) ?_
            obtain ⟨clu36, Aru36, qu36, Su36, Nu36, Hu36, Gu36⟩ := (id Vbc)
            obtain ⟨T37, h37, X37, e37, W37, st37⟩ := stI X34 hx hZ e34 Aru36 (j := (Int32.ofNat i)) (inb_of Su36 ⟨r2, own_lt (by omega) (by omega)⟩) (g := (mkF m 174 #[.val (.ref a1), .val (.int (Int32.ofNat jv)), .val (.ref a2), .val (.int bt), .val (.ref x1), .val (.int (Int32.ofNat 0)), .val (.ref b20), .val (.int ((Int32.ofNat i) + (1 : Int32))), .val (.int (Int32.ofNat ln)), .val (.ref a2), .val (.int (Int32.ofNat ln)), .val (.int (Int32.ofNat i)), .val (.int w1)] [(.int w1), (.int (Int32.ofNat i)), (.ref b20)])) rfl rfl (hb hby d5_174)
            have Va37 := Arv.set Aru36 qu36 Su36 Nu36 Hu36 Gu36 rfl W37 i r1 (by rw [hU.1]; omega)
            have V2c_38 := V2c.other W37 ne_a2_b20
            have Vxc_39 := Vxc.other W37 ne_x1_b20
            have Vyc_40 := Vyc.other W37 ne_y1_b20
            have Vzc_41 := Vzc.other W37 ne_ze_b20
            have K37 := K34.wr W37 (Or.inr sz_b20)
            have N37 := Fr.snoc X37 N34 g_b20
            have Z37 : n0 ≤ h37.size := by rw [W37.size]; exact Z34
            refine own_st (T' := T37) (g' := (mkF m 175 #[.val (.ref a1), .val (.int (Int32.ofNat jv)), .val (.ref a2), .val (.int bt), .val (.ref x1), .val (.int (Int32.ofNat 0)), .val (.ref b20), .val (.int ((Int32.ofNat i) + (1 : Int32))), .val (.int (Int32.ofNat ln)), .val (.ref a2), .val (.int (Int32.ofNat ln)), .val (.int (Int32.ofNat i)), .val (.int w1)] [])) (fun t9 k9 => st37 t9 k9) ?_
            refine own_st (T' := T37) (g' := (mkF m 188 #[.val (.ref a1), .val (.int (Int32.ofNat jv)), .val (.ref a2), .val (.int bt), .val (.ref x1), .val (.int (Int32.ofNat 0)), .val (.ref b20), .val (.int ((Int32.ofNat i) + (1 : Int32))), .val (.int (Int32.ofNat ln)), .val (.ref a2), .val (.int (Int32.ofNat ln)), .val (.int (Int32.ofNat i)), .val (.int w1)] [])) (fun t9 k9 => XS.goto X37.here hx rfl (pc0 := 175) (pc' := 188) rfl (hb hby d5_175) (by decide) (by decide) k9) ?_
            refine own_st (T' := T37) (g' := (mkF m 191 #[.val (.ref a1), .val (.int (Int32.ofNat jv)), .val (.ref a2), .val (.int bt), .val (.ref x1), .val (.int (Int32.ofNat 0)), .val (.ref b20), .val (.int ((Int32.ofNat i) + (1 : Int32))), .val (.int (Int32.ofNat ln)), .val (.ref a2), .val (.int (Int32.ofNat ln)), .val (.int ((Int32.ofNat i) + (1 : Int32))), .val (.int w1)] [])) (fun t9 k9 => XS.iinc X37.here hx rfl (hb hby d5_188) rfl (l' := #[.val (.ref a1), .val (.int (Int32.ofNat jv)), .val (.ref a2), .val (.int bt), .val (.ref x1), .val (.int (Int32.ofNat 0)), .val (.ref b20), .val (.int ((Int32.ofNat i) + (1 : Int32))), .val (.int (Int32.ofNat ln)), .val (.ref a2), .val (.int (Int32.ofNat ln)), .val (.int ((Int32.ofNat i) + (1 : Int32))), .val (.int w1)]) rfl k9) ?_
            rw [own_one i]
            refine own_st (T' := T37) (g' := (mkF m 142 #[.val (.ref a1), .val (.int (Int32.ofNat jv)), .val (.ref a2), .val (.int bt), .val (.ref x1), .val (.int (Int32.ofNat 0)), .val (.ref b20), .val (.int (Int32.ofNat (i + 1))), .val (.int (Int32.ofNat ln)), .val (.ref a2), .val (.int (Int32.ofNat ln)), .val (.int (Int32.ofNat (i + 1))), .val (.int w1)] [])) (fun t9 k9 => XS.goto X37.here hx rfl (pc0 := 191) (pc' := 142) rfl (hb hby d5_191) (by decide) (by decide) k9) ?_
            exact ih _ _ _ (i + 1) _ _ X37 e37 N37 Z37 K37 V2c_38 Vxc_39 Vyc_40 Vzc_41 Va37 (by omega) (hU.step (by omega)) (One.val rfl)
        exact lc ln _ _ _ 0 _ _ X31 e31 N9 Z20 K20 V2b_27 Vxb_28 Vyb_29 Va9_30 Vb (Nat.zero_add ln) own_U.zero One.u
      · obtain rfl : ln = cn := hc2.symm
        rw [Nat.sub_self]
        show own_Go p e below F T31 (mkF m 142 #[.val (.ref a1), .val (.int (Int32.ofNat jv)), .val (.ref a2), .val (.int bt), .val (.ref x1), .val (.int (Int32.ofNat ln)), .val (.ref b20), .val (.int (0 : Int32)), .val (.int (Int32.ofNat 0)), .val (.ref a2), .val (.int (Int32.ofNat ln)), .val (.int (0 : Int32)), .unset] [])
        have lc : ∀ (k : Nat) (T42 : State) (L42 : List Loc) (h42 : Heap) (i : Nat) (vb : List Value) (s12 : Slot), Stand p l e ({ frames := 1, cells := 1, slots := 64, locals := 40 } : Room) s m #[(.ref a1), (.int (Int32.ofNat jv)), (.ref a2)] below meth c T42 L42 (0 + 1) (0 + 64) → T42.heap = h42 → Fr n0 L42 → (n0 ≤ h42.size) → (Keep h0 h42 [x1, y1, ze]) → (Arv Z h42 a2 k2 .int (Int32.ofNat ln) (List.replicate ln (.int w1)) (.int 0)) → (Arv Z h42 x1 kx .long (Int32.ofNat wn) ((List.replicate wn (Value.long 0)).set 0 (.long wv)) (.long 0)) → (Arv Z h42 y1 ky .int (Int32.ofNat wn) vy' (.int 0)) → (Arv Z h42 ze kze .int (Int32.ofNat lv) (vz.set jv (.int (Int32.ofNat (ln - ln)))) (.int 0)) → (Arv Z h42 b20 k20 .int (Int32.ofNat ln) vb (.int 0)) → (i + k = ln) → (own_U vb ln i w1) → (One s12) → own_Go p e below F T42 (mkF m 142 #[.val (.ref a1), .val (.int (Int32.ofNat jv)), .val (.ref a2), .val (.int bt), .val (.ref x1), .val (.int (Int32.ofNat ln)), .val (.ref b20), .val (.int (0 : Int32)), .val (.int (Int32.ofNat i)), .val (.ref a2), .val (.int (Int32.ofNat ln)), .val (.int (Int32.ofNat i)), s12] []) := by
          intro k
          induction k with
          | zero =>
            intro T42 L42 h42 i vb s12 X42 e42 N42 Z42 K42 V2c Vxc Vyc Vzc Vbc hi hU ho_s12
            obtain rfl : ln = i := by omega
            show own_Go p e below F T42 (mkF m 142 #[.val (.ref a1), .val (.int (Int32.ofNat jv)), .val (.ref a2), .val (.int bt), .val (.ref x1), .val (.int (Int32.ofNat ln)), .val (.ref b20), .val (.int (0 : Int32)), .val (.int (Int32.ofNat ln)), .val (.ref a2), .val (.int (Int32.ofNat ln)), .val (.int (Int32.ofNat ln)), s12] [])
            refine own_st (T' := T42) (g' := (mkF m 144 #[.val (.ref a1), .val (.int (Int32.ofNat jv)), .val (.ref a2), .val (.int bt), .val (.ref x1), .val (.int (Int32.ofNat ln)), .val (.ref b20), .val (.int (0 : Int32)), .val (.int (Int32.ofNat ln)), .val (.ref a2), .val (.int (Int32.ofNat ln)), .val (.int (Int32.ofNat ln)), s12] [(.int (Int32.ofNat ln))])) (fun t9 k9 => XS.iload X42.here hx rfl (hb hby d5_142) rfl k9) ?_
            refine own_st (T' := T42) (g' := (mkF m 146 #[.val (.ref a1), .val (.int (Int32.ofNat jv)), .val (.ref a2), .val (.int bt), .val (.ref x1), .val (.int (Int32.ofNat ln)), .val (.ref b20), .val (.int (0 : Int32)), .val (.int (Int32.ofNat ln)), .val (.ref a2), .val (.int (Int32.ofNat ln)), .val (.int (Int32.ofNat ln)), s12] [(.int (Int32.ofNat ln)), (.int (Int32.ofNat ln))])) (fun t9 k9 => XS.iload X42.here hx rfl (hb hby d5_144) rfl k9) ?_
            refine own_st (T' := T42) (g' := (mkF m 194 #[.val (.ref a1), .val (.int (Int32.ofNat jv)), .val (.ref a2), .val (.int bt), .val (.ref x1), .val (.int (Int32.ofNat ln)), .val (.ref b20), .val (.int (0 : Int32)), .val (.int (Int32.ofNat ln)), .val (.ref a2), .val (.int (Int32.ofNat ln)), .val (.int (Int32.ofNat ln)), s12] [])) (fun t9 k9 => XS.icmpYes X42.here hx rfl (pc0 := 146) (pc' := 194) rfl (hb hby d5_146) rfl (flt (Int32.lt_irrefl)).2.1 (by decide) (by decide) k9) ?_
            refine own_st (T' := T42) (g' := (mkF m 196 #[.val (.ref a1), .val (.int (Int32.ofNat jv)), .val (.ref a2), .val (.int bt), .val (.ref x1), .val (.int (Int32.ofNat ln)), .val (.ref b20), .val (.int (0 : Int32)), .val (.int (Int32.ofNat ln)), .val (.ref a2), .val (.int (Int32.ofNat ln)), .val (.int (Int32.ofNat ln)), s12] [(.ref b20)])) (fun t9 k9 => XS.aload X42.here hx rfl (hb hby d5_194) rfl rfl k9) ?_
            have hall := hU.all
            subst hall
            refine own_ret (v := some (.ref b20)) hF X42 (own_some hret) hlk (fun fs hr => own_retA X42 hx hret rfl rfl (hb hby d5_196) hr) ?_ (by decide) (by decide)
            try rw [e42]
            exact ⟨b20, k20, _, _, _, rfl, N42, K42, sz_b20, Vbc, by rw [List.length_set, List.length_replicate], Vxc, hvy', Vyc, by rw [List.length_set]; exact hvz, Vzc⟩
          | succ k ih =>
            intro T42 L42 h42 i vb s12 X42 e42 N42 Z42 K42 V2c Vxc Vyc Vzc Vbc hi hU ho_s12
            obtain ⟨r1, r2⟩ := own_nat (i := i) (by omega)
            refine own_st (T' := T42) (g' := (mkF m 144 #[.val (.ref a1), .val (.int (Int32.ofNat jv)), .val (.ref a2), .val (.int bt), .val (.ref x1), .val (.int (Int32.ofNat ln)), .val (.ref b20), .val (.int (0 : Int32)), .val (.int (Int32.ofNat i)), .val (.ref a2), .val (.int (Int32.ofNat ln)), .val (.int (Int32.ofNat i)), s12] [(.int (Int32.ofNat i))])) (fun t9 k9 => XS.iload X42.here hx rfl (hb hby d5_142) rfl k9) ?_
            refine own_st (T' := T42) (g' := (mkF m 146 #[.val (.ref a1), .val (.int (Int32.ofNat jv)), .val (.ref a2), .val (.int bt), .val (.ref x1), .val (.int (Int32.ofNat ln)), .val (.ref b20), .val (.int (0 : Int32)), .val (.int (Int32.ofNat i)), .val (.ref a2), .val (.int (Int32.ofNat ln)), .val (.int (Int32.ofNat i)), s12] [(.int (Int32.ofNat ln)), (.int (Int32.ofNat i))])) (fun t9 k9 => XS.iload X42.here hx rfl (hb hby d5_144) rfl k9) ?_
            refine own_st (T' := T42) (g' := (mkF m 149 #[.val (.ref a1), .val (.int (Int32.ofNat jv)), .val (.ref a2), .val (.int bt), .val (.ref x1), .val (.int (Int32.ofNat ln)), .val (.ref b20), .val (.int (0 : Int32)), .val (.int (Int32.ofNat i)), .val (.ref a2), .val (.int (Int32.ofNat ln)), .val (.int (Int32.ofNat i)), s12] [])) (fun t9 k9 => XS.icmpNo X42.here hx rfl (hb hby d5_146) rfl (tlt (own_lt (by omega) (by omega))).2.1 k9) ?_
            refine own_st (T' := T42) (g' := (mkF m 151 #[.val (.ref a1), .val (.int (Int32.ofNat jv)), .val (.ref a2), .val (.int bt), .val (.ref x1), .val (.int (Int32.ofNat ln)), .val (.ref b20), .val (.int (0 : Int32)), .val (.int (Int32.ofNat i)), .val (.ref a2), .val (.int (Int32.ofNat ln)), .val (.int (Int32.ofNat i)), s12] [(.ref a2)])) (fun t9 k9 => XS.aload X42.here hx rfl (hb hby d5_149) rfl rfl k9) ?_
            refine own_st (T' := T42) (g' := (mkF m 153 #[.val (.ref a1), .val (.int (Int32.ofNat jv)), .val (.ref a2), .val (.int bt), .val (.ref x1), .val (.int (Int32.ofNat ln)), .val (.ref b20), .val (.int (0 : Int32)), .val (.int (Int32.ofNat i)), .val (.ref a2), .val (.int (Int32.ofNat ln)), .val (.int (Int32.ofNat i)), s12] [(.int (Int32.ofNat i)), (.ref a2)])) (fun t9 k9 => XS.iload X42.here hx rfl (hb hby d5_151) rfl k9) ?_
            obtain ⟨clu43, Aru43, qu43, Su43, Nu43, Hu43, Gu43⟩ := (id V2c)
            have hinu43 := inb_of Su43 (j := (Int32.ofNat i)) ⟨r2, own_lt (by omega) (by omega)⟩
            refine own_st (T' := T42) (g' := (mkF m 154 #[.val (.ref a1), .val (.int (Int32.ofNat jv)), .val (.ref a2), .val (.int bt), .val (.ref x1), .val (.int (Int32.ofNat ln)), .val (.ref b20), .val (.int (0 : Int32)), .val (.int (Int32.ofNat i)), .val (.ref a2), .val (.int (Int32.ofNat ln)), .val (.int (Int32.ofNat i)), s12] [(.int w1)])) (fun t9 k9 => X42.iaload hx (j := (Int32.ofNat i)) (v := (.int w1)) (by rw [e42]; exact Aru43.1) (State.isArrayOf_alike hZ.alike Aru43.2.1) Aru43.2.2 hinu43 (Hu43.at hinu43 (by rw [r1]; exact own_repD (by omega))) (g := (mkF m 153 #[.val (.ref a1), .val (.int (Int32.ofNat jv)), .val (.ref a2), .val (.int bt), .val (.ref x1), .val (.int (Int32.ofNat ln)), .val (.ref b20), .val (.int (0 : Int32)), .val (.int (Int32.ofNat i)), .val (.ref a2), .val (.int (Int32.ofNat ln)), .val (.int (Int32.ofNat i)), s12] [(.int (Int32.ofNat i)), (.ref a2)])) rfl rfl (hb hby d5_153) t9 k9) ?_
            refine own_st (T' := T42) (g' := (mkF m 156 #[.val (.ref a1), .val (.int (Int32.ofNat jv)), .val (.ref a2), .val (.int bt), .val (.ref x1), .val (.int (Int32.ofNat ln)), .val (.ref b20), .val (.int (0 : Int32)), .val (.int (Int32.ofNat i)), .val (.ref a2), .val (.int (Int32.ofNat ln)), .val (.int (Int32.ofNat i)), .val (.int w1)] [])) (fun t9 k9 => XS.istore X42.here hx rfl (hb hby d5_154) rfl (l' := #[.val (.ref a1), .val (.int (Int32.ofNat jv)), .val (.ref a2), .val (.int bt), .val (.ref x1), .val (.int (Int32.ofNat ln)), .val (.ref b20), .val (.int (0 : Int32)), .val (.int (Int32.ofNat i)), .val (.ref a2), .val (.int (Int32.ofNat ln)), .val (.int (Int32.ofNat i)), .val (.int w1)]) (by rcases ho_s12 with rfl | ⟨w9, rfl, hw9⟩ <;> first | rfl | (cases w9 <;> first | rfl | (simp [Value.category] at hw9))) k9) ?_
            refine own_st (T' := T42) (g' := (mkF m 158 #[.val (.ref a1), .val (.int (Int32.ofNat jv)), .val (.ref a2), .val (.int bt), .val (.ref x1), .val (.int (Int32.ofNat ln)), .val (.ref b20), .val (.int (0 : Int32)), .val (.int (Int32.ofNat i)), .val (.ref a2), .val (.int (Int32.ofNat ln)), .val (.int (Int32.ofNat i)), .val (.int w1)] [(.int w1)])) (fun t9 k9 => XS.iload X42.here hx rfl (hb hby d5_156) rfl k9) ?_
            refine own_st (T' := T42) (g' := (mkF m 159 #[.val (.ref a1), .val (.int (Int32.ofNat jv)), .val (.ref a2), .val (.int bt), .val (.ref x1), .val (.int (Int32.ofNat ln)), .val (.ref b20), .val (.int (0 : Int32)), .val (.int (Int32.ofNat i)), .val (.ref a2), .val (.int (Int32.ofNat ln)), .val (.int (Int32.ofNat i)), .val (.int w1)] [(.int bt), (.int w1)])) (fun t9 k9 => XS.iloadN X42.here hx rfl (hb hby d5_158) rfl k9) ?_
            refine own_st (T' := T42) (g' := (mkF m 160 #[.val (.ref a1), .val (.int (Int32.ofNat jv)), .val (.ref a2), .val (.int bt), .val (.ref x1), .val (.int (Int32.ofNat ln)), .val (.ref b20), .val (.int (0 : Int32)), .val (.int (Int32.ofNat i)), .val (.ref a2), .val (.int (Int32.ofNat ln)), .val (.int (Int32.ofNat i)), .val (.int w1)] [(.int ((w1.toUInt32 >>> (bt &&& 31).toUInt32).toInt32))])) (fun t9 k9 => XS.iushr X42.here hx rfl (hb hby d5_159) rfl k9) ?_
            refine own_st (T' := T42) (g' := (mkF m 161 #[.val (.ref a1), .val (.int (Int32.ofNat jv)), .val (.ref a2), .val (.int bt), .val (.ref x1), .val (.int (Int32.ofNat ln)), .val (.ref b20), .val (.int (0 : Int32)), .val (.int (Int32.ofNat i)), .val (.ref a2), .val (.int (Int32.ofNat ln)), .val (.int (Int32.ofNat i)), .val (.int w1)] [(.int (1 : Int32)), (.int ((w1.toUInt32 >>> (bt &&& 31).toUInt32).toInt32))])) (fun t9 k9 => XS.iconst X42.here hx rfl (hb hby d5_160) k9) ?_
            refine own_st (T' := T42) (g' := (mkF m 162 #[.val (.ref a1), .val (.int (Int32.ofNat jv)), .val (.ref a2), .val (.int bt), .val (.ref x1), .val (.int (Int32.ofNat ln)), .val (.ref b20), .val (.int (0 : Int32)), .val (.int (Int32.ofNat i)), .val (.ref a2), .val (.int (Int32.ofNat ln)), .val (.int (Int32.ofNat i)), .val (.int w1)] [(.int (((w1.toUInt32 >>> (bt &&& 31).toUInt32).toInt32) &&& (1 : Int32)))])) (fun t9 k9 => XS.iand X42.here hx rfl (hb hby d5_161) rfl k9) ?_
            refine own_st (T' := T42) (g' := (mkF m 178 #[.val (.ref a1), .val (.int (Int32.ofNat jv)), .val (.ref a2), .val (.int bt), .val (.ref x1), .val (.int (Int32.ofNat ln)), .val (.ref b20), .val (.int (0 : Int32)), .val (.int (Int32.ofNat i)), .val (.ref a2), .val (.int (Int32.ofNat ln)), .val (.int (Int32.ofNat i)), .val (.int w1)] [])) (fun t9 k9 => XS.ifYes X42.here hx rfl (pc0 := 162) (pc' := 178) rfl (hb hby d5_162) rfl ((if0 _ _).trans (feq hbq).2) (by decide) (by decide) k9) ?_
            refine own_st (T' := T42) (g' := (mkF m 180 #[.val (.ref a1), .val (.int (Int32.ofNat jv)), .val (.ref a2), .val (.int bt), .val (.ref x1), .val (.int (Int32.ofNat ln)), .val (.ref b20), .val (.int (0 : Int32)), .val (.int (Int32.ofNat i)), .val (.ref a2), .val (.int (Int32.ofNat ln)), .val (.int (Int32.ofNat i)), .val (.int w1)] [(.ref b20)])) (fun t9 k9 => XS.aload X42.here hx rfl (hb hby d5_178) rfl rfl k9) ?_
            refine own_st (T' := T42) (g' := (mkF m 182 #[.val (.ref a1), .val (.int (Int32.ofNat jv)), .val (.ref a2), .val (.int bt), .val (.ref x1), .val (.int (Int32.ofNat ln)), .val (.ref b20), .val (.int (0 : Int32)), .val (.int (Int32.ofNat i)), .val (.ref a2), .val (.int (Int32.ofNat ln)), .val (.int (Int32.ofNat i)), .val (.int w1)] [(.int (Int32.ofNat i)), (.ref b20)])) (fun t9 k9 => XS.iload X42.here hx rfl (hb hby d5_180) rfl k9) ?_
            refine own_st (T' := T42) (g' := (mkF m 185 #[.val (.ref a1), .val (.int (Int32.ofNat jv)), .val (.ref a2), .val (.int bt), .val (.ref x1), .val (.int (Int32.ofNat ln)), .val (.ref b20), .val (.int (0 : Int32)), .val (.int ((Int32.ofNat i) + (1 : Int32))), .val (.ref a2), .val (.int (Int32.ofNat ln)), .val (.int (Int32.ofNat i)), .val (.int w1)] [(.int (Int32.ofNat i)), (.ref b20)])) (fun t9 k9 => XS.iinc X42.here hx rfl (hb hby d5_182) rfl (l' := #[.val (.ref a1), .val (.int (Int32.ofNat jv)), .val (.ref a2), .val (.int bt), .val (.ref x1), .val (.int (Int32.ofNat ln)), .val (.ref b20), .val (.int (0 : Int32)), .val (.int ((Int32.ofNat i) + (1 : Int32))), .val (.ref a2), .val (.int (Int32.ofNat ln)), .val (.int (Int32.ofNat i)), .val (.int w1)]) rfl k9) ?_
            refine own_st (T' := T42) (g' := (mkF m 187 #[.val (.ref a1), .val (.int (Int32.ofNat jv)), .val (.ref a2), .val (.int bt), .val (.ref x1), .val (.int (Int32.ofNat ln)), .val (.ref b20), .val (.int (0 : Int32)), .val (.int ((Int32.ofNat i) + (1 : Int32))), .val (.ref a2), .val (.int (Int32.ofNat ln)), .val (.int (Int32.ofNat i)), .val (.int w1)] [(.int w1), (.int (Int32.ofNat i)), (.ref b20)])) (fun t9 k9 => XS.iload X42.here hx rfl (hb hby d5_185) rfl k9) ?_
            obtain ⟨clu44, Aru44, qu44, Su44, Nu44, Hu44, Gu44⟩ := (id Vbc)
            obtain ⟨T45, h45, X45, e45, W45, st45⟩ := stI X42 hx hZ e42 Aru44 (j := (Int32.ofNat i)) (inb_of Su44 ⟨r2, own_lt (by omega) (by omega)⟩) (g := (mkF m 187 #[.val (.ref a1), .val (.int (Int32.ofNat jv)), .val (.ref a2), .val (.int bt), .val (.ref x1), .val (.int (Int32.ofNat ln)), .val (.ref b20), .val (.int (0 : Int32)), .val (.int ((Int32.ofNat i) + (1 : Int32))), .val (.ref a2), .val (.int (Int32.ofNat ln)), .val (.int (Int32.ofNat i)), .val (.int w1)] [(.int w1), (.int (Int32.ofNat i)), (.ref b20)])) rfl rfl (hb hby d5_187)
            have Va45 := Arv.set Aru44 qu44 Su44 Nu44 Hu44 Gu44 rfl W45 i r1 (by rw [hU.1]; omega)
            have V2c_46 := V2c.other W45 ne_a2_b20
            have Vxc_47 := Vxc.other W45 ne_x1_b20
            have Vyc_48 := Vyc.other W45 ne_y1_b20
            have Vzc_49 := Vzc.other W45 ne_ze_b20
            have K45 := K42.wr W45 (Or.inr sz_b20)
            have N45 := Fr.snoc X45 N42 g_b20
            have Z45 : n0 ≤ h45.size := by rw [W45.size]; exact Z42
            refine own_st (T' := T45) (g' := (mkF m 188 #[.val (.ref a1), .val (.int (Int32.ofNat jv)), .val (.ref a2), .val (.int bt), .val (.ref x1), .val (.int (Int32.ofNat ln)), .val (.ref b20), .val (.int (0 : Int32)), .val (.int ((Int32.ofNat i) + (1 : Int32))), .val (.ref a2), .val (.int (Int32.ofNat ln)), .val (.int (Int32.ofNat i)), .val (.int w1)] [])) (fun t9 k9 => st45 t9 k9) ?_
            refine own_st (T' := T45) (g' := (mkF m 191 #[.val (.ref a1), .val (.int (Int32.ofNat jv)), .val (.ref a2), .val (.int bt), .val (.ref x1), .val (.int (Int32.ofNat ln)), .val (.ref b20), .val (.int (0 : Int32)), .val (.int ((Int32.ofNat i) + (1 : Int32))), .val (.ref a2), .val (.int (Int32.ofNat ln)), .val (.int ((Int32.ofNat i) + (1 : Int32))), .val (.int w1)] [])) (fun t9 k9 => XS.iinc X45.here hx rfl (hb hby d5_188) rfl (l' := #[.val (.ref a1), .val (.int (Int32.ofNat jv)), .val (.ref a2), .val (.int bt), .val (.ref x1), .val (.int (Int32.ofNat ln)), .val (.ref b20), .val (.int (0 : Int32)), .val (.int ((Int32.ofNat i) + (1 : Int32))), .val (.ref a2), .val (.int (Int32.ofNat ln)), .val (.int ((Int32.ofNat i) + (1 : Int32))), .val (.int w1)]) rfl k9) ?_
            rw [own_one i]
            refine own_st (T' := T45) (g' := (mkF m 142 #[.val (.ref a1), .val (.int (Int32.ofNat jv)), .val (.ref a2), .val (.int bt), .val (.ref x1), .val (.int (Int32.ofNat ln)), .val (.ref b20), .val (.int (0 : Int32)), .val (.int (Int32.ofNat (i + 1))), .val (.ref a2), .val (.int (Int32.ofNat ln)), .val (.int (Int32.ofNat (i + 1))), .val (.int w1)] [])) (fun t9 k9 => XS.goto X45.here hx rfl (pc0 := 191) (pc' := 142) rfl (hb hby d5_191) (by decide) (by decide) k9) ?_
            exact ih _ _ _ (i + 1) _ _ X45 e45 N45 Z45 K45 V2c_46 Vxc_47 Vyc_48 Vzc_49 Va45 (by omega) (hU.step (by omega)) (One.val rfl)
        exact lc ln _ _ _ 0 _ _ X31 e31 N9 Z20 K20 V2b_27 Vxb_28 Vyb_29 Va9_30 Vb (Nat.zero_add ln) own_U.zero One.u
    obtain ⟨w1', w2'⟩ := own_nat (i := wn) (by omega)
    rcases hN with ⟨rfl, hN⟩ | ⟨rfl, hN⟩
    · refine own_st (T' := T4) (g' := (mkF m 67 #[.val (.ref a1), .val (.int (Int32.ofNat jv)), .val (.ref a2), .val (.int bt), .val (.ref x1), .val (.int (0 : Int32)), .val (.int (0 : Int32)), .unset, .unset, .unset, .unset, .unset, .unset] [(.int (0 : Int32))])) (fun t9 k9 => XS.iload X4.here hx rfl (hb hby d5_65) rfl k9) ?_
      refine own_st (T' := T4) (g' := (mkF m 69 #[.val (.ref a1), .val (.int (Int32.ofNat jv)), .val (.ref a2), .val (.int bt), .val (.ref x1), .val (.int (0 : Int32)), .val (.int (0 : Int32)), .unset, .unset, .unset, .unset, .unset, .unset] [(.ref x1), (.int (0 : Int32))])) (fun t9 k9 => XS.aload X4.here hx rfl (hb hby d5_67) rfl rfl k9) ?_
      obtain ⟨clu50, Aru50, qu50, Su50, Nu50, Hu50, Gu50⟩ := (id Vxa)
      refine own_st (T' := T4) (g' := (mkF m 70 #[.val (.ref a1), .val (.int (Int32.ofNat jv)), .val (.ref a2), .val (.int bt), .val (.ref x1), .val (.int (0 : Int32)), .val (.int (0 : Int32)), .unset, .unset, .unset, .unset, .unset, .unset] [(.int (Int32.ofNat 1)), (.int (0 : Int32))])) (fun t9 k9 => X4.arraylength hx (by rw [e4]; exact Aru50.1) (State.isArrayOf_alike hZ.alike Aru50.2.1) (g := (mkF m 69 #[.val (.ref a1), .val (.int (Int32.ofNat jv)), .val (.ref a2), .val (.int bt), .val (.ref x1), .val (.int (0 : Int32)), .val (.int (0 : Int32)), .unset, .unset, .unset, .unset, .unset, .unset] [(.ref x1), (.int (0 : Int32))])) rfl rfl (hb hby d5_69) t9 (by rw [len_of Su50 Nu50]; exact k9)) ?_
      refine own_st (T' := T4) (g' := (mkF m 73 #[.val (.ref a1), .val (.int (Int32.ofNat jv)), .val (.ref a2), .val (.int bt), .val (.ref x1), .val (.int (0 : Int32)), .val (.int (0 : Int32)), .unset, .unset, .unset, .unset, .unset, .unset] [])) (fun t9 k9 => XS.icmpNo X4.here hx rfl (hb hby d5_70) rfl (tlt (by decide)).2.1 k9) ?_
      refine own_st (T' := T4) (g' := (mkF m 74 #[.val (.ref a1), .val (.int (Int32.ofNat jv)), .val (.ref a2), .val (.int bt), .val (.ref x1), .val (.int (0 : Int32)), .val (.int (0 : Int32)), .unset, .unset, .unset, .unset, .unset, .unset] [(.ref a1)])) (fun t9 k9 => XS.aloadN X4.here hx rfl (hb hby d5_73) rfl rfl k9) ?_
      obtain ⟨T51, X51, e51, st51⟩ := getF X4 hx hZ hown (host := "") (Or.inl (hw _ (List.mem_of_getElem? (i := 30) rfl))) Via.refl e4 Foa (g := (mkF m 74 #[.val (.ref a1), .val (.int (Int32.ofNat jv)), .val (.ref a2), .val (.int bt), .val (.ref x1), .val (.int (0 : Int32)), .val (.int (0 : Int32)), .unset, .unset, .unset, .unset, .unset, .unset] [(.ref a1)])) rfl rfl (hb hby d5_74)
      refine own_st (T' := T51) (g' := (mkF m 77 #[.val (.ref a1), .val (.int (Int32.ofNat jv)), .val (.ref a2), .val (.int bt), .val (.ref x1), .val (.int (0 : Int32)), .val (.int (0 : Int32)), .unset, .unset, .unset, .unset, .unset, .unset] [(.ref ob)])) (fun t9 k9 => st51 t9 k9) ?_
      refine own_st (T' := T51) (g' := (mkF m 78 #[.val (.ref a1), .val (.int (Int32.ofNat jv)), .val (.ref a2), .val (.int bt), .val (.ref x1), .val (.int (0 : Int32)), .val (.int (0 : Int32)), .unset, .unset, .unset, .unset, .unset, .unset] [(.int (Int32.ofNat jv)), (.ref ob)])) (fun t9 k9 => XS.iloadN X51.here hx rfl (hb hby d5_77) rfl k9) ?_
      obtain ⟨clu52, Aru52, qu52, Su52, Nu52, Hu52, Gu52⟩ := (id Voba)
      have hinu52 := inb_of Su52 (j := (Int32.ofNat jv)) ⟨q2, own_lt hj (by omega)⟩
      refine own_st (T' := T51) (g' := (mkF m 79 #[.val (.ref a1), .val (.int (Int32.ofNat jv)), .val (.ref a2), .val (.int bt), .val (.ref x1), .val (.int (0 : Int32)), .val (.int (0 : Int32)), .unset, .unset, .unset, .unset, .unset, .unset] [(.ref y1)])) (fun t9 k9 => X51.aaload hx (j := (Int32.ofNat jv)) (v := (.ref y1)) (by rw [e51]; exact Aru52.1) (State.isArrayOf_alike hZ.alike Aru52.2.1) rfl Aru52.2.2 hinu52 (Hu52.at hinu52 (by rw [q1]; exact hyj)) (g := (mkF m 78 #[.val (.ref a1), .val (.int (Int32.ofNat jv)), .val (.ref a2), .val (.int bt), .val (.ref x1), .val (.int (0 : Int32)), .val (.int (0 : Int32)), .unset, .unset, .unset, .unset, .unset, .unset] [(.int (Int32.ofNat jv)), (.ref ob)])) rfl rfl (hb hby d5_78) t9 k9) ?_
      refine own_st (T' := T51) (g' := (mkF m 81 #[.val (.ref a1), .val (.int (Int32.ofNat jv)), .val (.ref a2), .val (.int bt), .val (.ref x1), .val (.int (0 : Int32)), .val (.int (0 : Int32)), .unset, .unset, .unset, .unset, .unset, .unset] [(.int (0 : Int32)), (.ref y1)])) (fun t9 k9 => XS.iload X51.here hx rfl (hb hby d5_79) rfl k9) ?_
      refine own_st (T' := T51) (g' := (mkF m 83 #[.val (.ref a1), .val (.int (Int32.ofNat jv)), .val (.ref a2), .val (.int bt), .val (.ref x1), .val (.int (0 : Int32)), .val (.int (0 : Int32)), .unset, .unset, .unset, .unset, .unset, .unset] [(.int (0 : Int32)), (.int (0 : Int32)), (.ref y1)])) (fun t9 k9 => XS.iload X51.here hx rfl (hb hby d5_81) rfl k9) ?_
      obtain ⟨clu53, Aru53, qu53, Su53, Nu53, Hu53, Gu53⟩ := (id Vya)
      obtain ⟨T54, h54, X54, e54, W54, st54⟩ := stI X51 hx hZ e51 Aru53 (j := (0 : Int32)) (inb_of Su53 ⟨by decide, by decide⟩) (g := (mkF m 83 #[.val (.ref a1), .val (.int (Int32.ofNat jv)), .val (.ref a2), .val (.int bt), .val (.ref x1), .val (.int (0 : Int32)), .val (.int (0 : Int32)), .unset, .unset, .unset, .unset, .unset, .unset] [(.int (0 : Int32)), (.int (0 : Int32)), (.ref y1)])) rfl rfl (hb hby d5_83)
      have Va54 := Arv.set Aru53 qu53 Su53 Nu53 Hu53 Gu53 rfl W54 0 rfl (by rw [hvy]; decide)
      have Fla_55 := Fla.other W54 (Or.inl ne_a1_y1)
      have Fr1a_56 := Fr1a.other W54 (Or.inl ne_a1_y1)
      have Foa_57 := Foa.other W54 (Or.inl ne_a1_y1)
      have Fza_58 := Fza.other W54 (Or.inl ne_a1_y1)
      have Vroa_59 := Vroa.other W54 ne_ro_y1
      have Voba_60 := Voba.other W54 ne_ob_y1
      have V2a_61 := V2a.other W54 ne_a2_y1
      have Vxa_62 := Vxa.other W54 ne_x1_y1
      have Vza_63 := Vza.other W54 (Ne.symm ne_y1_ze)
      have K54 := K4.wr W54 (Or.inl (by simp))
      have N54 := Fr.snoc X54 N4 g_y1
      have Z54 : n0 ≤ h54.size := by rw [W54.size]; exact Z4
      refine own_st (T' := T54) (g' := (mkF m 84 #[.val (.ref a1), .val (.int (Int32.ofNat jv)), .val (.ref a2), .val (.int bt), .val (.ref x1), .val (.int (0 : Int32)), .val (.int (0 : Int32)), .unset, .unset, .unset, .unset, .unset, .unset] [])) (fun t9 k9 => st54 t9 k9) ?_
      refine own_st (T' := T54) (g' := (mkF m 86 #[.val (.ref a1), .val (.int (Int32.ofNat jv)), .val (.ref a2), .val (.int bt), .val (.ref x1), .val (.int (0 : Int32)), .val (.int (0 : Int32)), .unset, .unset, .unset, .unset, .unset, .unset] [(.int (0 : Int32))])) (fun t9 k9 => XS.iload X54.here hx rfl (hb hby d5_84) rfl k9) ?_
      refine own_st (T' := T54) (g' := (mkF m 88 #[.val (.ref a1), .val (.int (Int32.ofNat jv)), .val (.ref a2), .val (.int bt), .val (.ref x1), .val (.int (0 : Int32)), .val (.int (0 : Int32)), .unset, .unset, .unset, .unset, .unset, .unset] [(.ref x1), (.int (0 : Int32))])) (fun t9 k9 => XS.aload X54.here hx rfl (hb hby d5_86) rfl rfl k9) ?_
      refine own_st (T' := T54) (g' := (mkF m 90 #[.val (.ref a1), .val (.int (Int32.ofNat jv)), .val (.ref a2), .val (.int bt), .val (.ref x1), .val (.int (0 : Int32)), .val (.int (0 : Int32)), .unset, .unset, .unset, .unset, .unset, .unset] [(.int (0 : Int32)), (.ref x1), (.int (0 : Int32))])) (fun t9 k9 => XS.iload X54.here hx rfl (hb hby d5_88) rfl k9) ?_
      obtain ⟨clu64, Aru64, qu64, Su64, Nu64, Hu64, Gu64⟩ := (id Vxa_62)
      have hinu64 := inb_of Su64 (j := (0 : Int32)) ⟨by decide, by decide⟩
      refine own_st (T' := T54) (g' := (mkF m 91 #[.val (.ref a1), .val (.int (Int32.ofNat jv)), .val (.ref a2), .val (.int bt), .val (.ref x1), .val (.int (0 : Int32)), .val (.int (0 : Int32)), .unset, .unset, .unset, .unset, .unset, .unset] [(.long wv), (.int (0 : Int32))])) (fun t9 k9 => X54.laload hx (j := (0 : Int32)) (v := (.long wv)) (by rw [e54]; exact Aru64.1) (State.isArrayOf_alike hZ.alike Aru64.2.1) Aru64.2.2 hinu64 (Hu64.at hinu64 rfl) (g := (mkF m 90 #[.val (.ref a1), .val (.int (Int32.ofNat jv)), .val (.ref a2), .val (.int bt), .val (.ref x1), .val (.int (0 : Int32)), .val (.int (0 : Int32)), .unset, .unset, .unset, .unset, .unset, .unset] [(.int (0 : Int32)), (.ref x1), (.int (0 : Int32))])) rfl rfl (hb hby d5_90) t9 k9) ?_
      obtain ⟨_, _, ⟨T65, L65, k65, n65⟩, -, X65, ⟨Lc65, hQ65, l65, y65, z65⟩, st65⟩ := Jvm.LawKit.callS X54 hx (y := (⟨"java/lang/Long", "bitCount", "(J)I"⟩ : MethodName)) hown (mvT hZ (hw _ (List.mem_of_getElem? (i := 38) rfl))) (mvT hZ (hw _ (List.mem_of_getElem? (i := 39) rfl))) (mvT hZ (hw _ (List.mem_of_getElem? (i := 40) rfl))) (mvT hZ (hw _ (List.mem_of_getElem? (i := 41) rfl))) (by decide) (own_back (W := 1) (rm6 l Z a0 hw wv h54 n0 Z54) hZ (hw _ (List.mem_of_getElem? (i := 41) rfl)) (hw _ (List.mem_of_getElem? (i := 40) rfl)) (by decide) (by decide)) (g := (mkF m 91 #[.val (.ref a1), .val (.int (Int32.ofNat jv)), .val (.ref a2), .val (.int bt), .val (.ref x1), .val (.int (0 : Int32)), .val (.int (0 : Int32)), .unset, .unset, .unset, .unset, .unset, .unset] [(.long wv), (.int (0 : Int32))])) rfl (by rw [hml]; rfl) (argsL := [(.long wv)]) (rest := [(.int (0 : Int32))]) (lenOf pd_5 rfl) rfl (by show 2 * 0 + _ ≤ _; exact Nat.le_of_eq rfl) (hb hby d5_91) (fun _ _ => ⟨rfl, e54, (Nat.le_of_ble_eq_true rfl), (Nat.le_of_ble_eq_true rfl)⟩)
      dsimp only [Pt.U, Pt.locs, Pt.cells, Pt.slots] at X65 l65 y65 z65 st65 hQ65
      subst l65 y65 z65
      obtain ⟨rfl, Nq65, he65⟩ := hQ65
      have N65 := Fr.app N54 Nq65
      have e65 : T65.heap = h54 := he65
      refine own_st (T' := T65) (g' := (mkF m 94 #[.val (.ref a1), .val (.int (Int32.ofNat jv)), .val (.ref a2), .val (.int bt), .val (.ref x1), .val (.int (0 : Int32)), .val (.int (0 : Int32)), .unset, .unset, .unset, .unset, .unset, .unset] [(.int (own_bc wv)), (.int (0 : Int32))])) (fun t9 k9 => st65 t9 k9) ?_
      refine own_st (T' := T65) (g' := (mkF m 95 #[.val (.ref a1), .val (.int (Int32.ofNat jv)), .val (.ref a2), .val (.int bt), .val (.ref x1), .val (.int (0 : Int32)), .val (.int (0 : Int32)), .unset, .unset, .unset, .unset, .unset, .unset] [(.int ((0 : Int32) + (own_bc wv)))])) (fun t9 k9 => XS.iadd X65.here hx rfl (hb hby d5_94) rfl k9) ?_
      rw [hbc, Int32.zero_add]
      refine own_st (T' := T65) (g' := (mkF m 97 #[.val (.ref a1), .val (.int (Int32.ofNat jv)), .val (.ref a2), .val (.int bt), .val (.ref x1), .val (.int (Int32.ofNat cn)), .val (.int (0 : Int32)), .unset, .unset, .unset, .unset, .unset, .unset] [])) (fun t9 k9 => XS.istore X65.here hx rfl (hb hby d5_95) rfl (l' := #[.val (.ref a1), .val (.int (Int32.ofNat jv)), .val (.ref a2), .val (.int bt), .val (.ref x1), .val (.int (Int32.ofNat cn)), .val (.int (0 : Int32)), .unset, .unset, .unset, .unset, .unset, .unset]) rfl k9) ?_
      refine own_st (T' := T65) (g' := (mkF m 100 #[.val (.ref a1), .val (.int (Int32.ofNat jv)), .val (.ref a2), .val (.int bt), .val (.ref x1), .val (.int (Int32.ofNat cn)), .val (.int ((0 : Int32) + (1 : Int32))), .unset, .unset, .unset, .unset, .unset, .unset] [])) (fun t9 k9 => XS.iinc X65.here hx rfl (hb hby d5_97) rfl (l' := #[.val (.ref a1), .val (.int (Int32.ofNat jv)), .val (.ref a2), .val (.int bt), .val (.ref x1), .val (.int (Int32.ofNat cn)), .val (.int ((0 : Int32) + (1 : Int32))), .unset, .unset, .unset, .unset, .unset, .unset]) rfl k9) ?_
      refine own_st (T' := T65) (g' := (mkF m 65 #[.val (.ref a1), .val (.int (Int32.ofNat jv)), .val (.ref a2), .val (.int bt), .val (.ref x1), .val (.int (Int32.ofNat cn)), .val (.int ((0 : Int32) + (1 : Int32))), .unset, .unset, .unset, .unset, .unset, .unset] [])) (fun t9 k9 => XS.goto X65.here hx rfl (pc0 := 100) (pc' := 65) rfl (hb hby d5_100) (by decide) (by decide) k9) ?_
      refine own_st (T' := T65) (g' := (mkF m 67 #[.val (.ref a1), .val (.int (Int32.ofNat jv)), .val (.ref a2), .val (.int bt), .val (.ref x1), .val (.int (Int32.ofNat cn)), .val (.int ((0 : Int32) + (1 : Int32))), .unset, .unset, .unset, .unset, .unset, .unset] [(.int ((0 : Int32) + (1 : Int32)))])) (fun t9 k9 => XS.iload X65.here hx rfl (hb hby d5_65) rfl k9) ?_
      refine own_st (T' := T65) (g' := (mkF m 69 #[.val (.ref a1), .val (.int (Int32.ofNat jv)), .val (.ref a2), .val (.int bt), .val (.ref x1), .val (.int (Int32.ofNat cn)), .val (.int ((0 : Int32) + (1 : Int32))), .unset, .unset, .unset, .unset, .unset, .unset] [(.ref x1), (.int ((0 : Int32) + (1 : Int32)))])) (fun t9 k9 => XS.aload X65.here hx rfl (hb hby d5_67) rfl rfl k9) ?_
      obtain ⟨clu66, Aru66, qu66, Su66, Nu66, Hu66, Gu66⟩ := (id Vxa_62)
      refine own_st (T' := T65) (g' := (mkF m 70 #[.val (.ref a1), .val (.int (Int32.ofNat jv)), .val (.ref a2), .val (.int bt), .val (.ref x1), .val (.int (Int32.ofNat cn)), .val (.int ((0 : Int32) + (1 : Int32))), .unset, .unset, .unset, .unset, .unset, .unset] [(.int (Int32.ofNat 1)), (.int ((0 : Int32) + (1 : Int32)))])) (fun t9 k9 => X65.arraylength hx (by rw [e65]; exact Aru66.1) (State.isArrayOf_alike hZ.alike Aru66.2.1) (g := (mkF m 69 #[.val (.ref a1), .val (.int (Int32.ofNat jv)), .val (.ref a2), .val (.int bt), .val (.ref x1), .val (.int (Int32.ofNat cn)), .val (.int ((0 : Int32) + (1 : Int32))), .unset, .unset, .unset, .unset, .unset, .unset] [(.ref x1), (.int ((0 : Int32) + (1 : Int32)))])) rfl rfl (hb hby d5_69) t9 (by rw [len_of Su66 Nu66]; exact k9)) ?_
      refine own_st (T' := T65) (g' := (mkF m 103 #[.val (.ref a1), .val (.int (Int32.ofNat jv)), .val (.ref a2), .val (.int bt), .val (.ref x1), .val (.int (Int32.ofNat cn)), .val (.int ((0 : Int32) + (1 : Int32))), .unset, .unset, .unset, .unset, .unset, .unset] [])) (fun t9 k9 => XS.icmpYes X65.here hx rfl (pc0 := 70) (pc' := 103) rfl (hb hby d5_70) rfl (flt (by decide)).2.1 (by decide) (by decide) k9) ?_
      exact j103 _ _ _ _ _ X65 e65 N65 Z54 K54 Fla_55 Fr1a_56 Foa_57 Fza_58 Vroa_59 Voba_60 V2a_61 Vxa_62 Va54 Vza_63 (by simp only [List.length_set]; exact hvy)
    · refine own_st (T' := T4) (g' := (mkF m 67 #[.val (.ref a1), .val (.int (Int32.ofNat jv)), .val (.ref a2), .val (.int bt), .val (.ref x1), .val (.int (0 : Int32)), .val (.int (0 : Int32)), .unset, .unset, .unset, .unset, .unset, .unset] [(.int (0 : Int32))])) (fun t9 k9 => XS.iload X4.here hx rfl (hb hby d5_65) rfl k9) ?_
      refine own_st (T' := T4) (g' := (mkF m 69 #[.val (.ref a1), .val (.int (Int32.ofNat jv)), .val (.ref a2), .val (.int bt), .val (.ref x1), .val (.int (0 : Int32)), .val (.int (0 : Int32)), .unset, .unset, .unset, .unset, .unset, .unset] [(.ref x1), (.int (0 : Int32))])) (fun t9 k9 => XS.aload X4.here hx rfl (hb hby d5_67) rfl rfl k9) ?_
      obtain ⟨clu67, Aru67, qu67, Su67, Nu67, Hu67, Gu67⟩ := (id Vxa)
      refine own_st (T' := T4) (g' := (mkF m 70 #[.val (.ref a1), .val (.int (Int32.ofNat jv)), .val (.ref a2), .val (.int bt), .val (.ref x1), .val (.int (0 : Int32)), .val (.int (0 : Int32)), .unset, .unset, .unset, .unset, .unset, .unset] [(.int (Int32.ofNat 2)), (.int (0 : Int32))])) (fun t9 k9 => X4.arraylength hx (by rw [e4]; exact Aru67.1) (State.isArrayOf_alike hZ.alike Aru67.2.1) (g := (mkF m 69 #[.val (.ref a1), .val (.int (Int32.ofNat jv)), .val (.ref a2), .val (.int bt), .val (.ref x1), .val (.int (0 : Int32)), .val (.int (0 : Int32)), .unset, .unset, .unset, .unset, .unset, .unset] [(.ref x1), (.int (0 : Int32))])) rfl rfl (hb hby d5_69) t9 (by rw [len_of Su67 Nu67]; exact k9)) ?_
      refine own_st (T' := T4) (g' := (mkF m 73 #[.val (.ref a1), .val (.int (Int32.ofNat jv)), .val (.ref a2), .val (.int bt), .val (.ref x1), .val (.int (0 : Int32)), .val (.int (0 : Int32)), .unset, .unset, .unset, .unset, .unset, .unset] [])) (fun t9 k9 => XS.icmpNo X4.here hx rfl (hb hby d5_70) rfl (tlt (by decide)).2.1 k9) ?_
      refine own_st (T' := T4) (g' := (mkF m 74 #[.val (.ref a1), .val (.int (Int32.ofNat jv)), .val (.ref a2), .val (.int bt), .val (.ref x1), .val (.int (0 : Int32)), .val (.int (0 : Int32)), .unset, .unset, .unset, .unset, .unset, .unset] [(.ref a1)])) (fun t9 k9 => XS.aloadN X4.here hx rfl (hb hby d5_73) rfl rfl k9) ?_
      obtain ⟨T68, X68, e68, st68⟩ := getF X4 hx hZ hown (host := "") (Or.inl (hw _ (List.mem_of_getElem? (i := 30) rfl))) Via.refl e4 Foa (g := (mkF m 74 #[.val (.ref a1), .val (.int (Int32.ofNat jv)), .val (.ref a2), .val (.int bt), .val (.ref x1), .val (.int (0 : Int32)), .val (.int (0 : Int32)), .unset, .unset, .unset, .unset, .unset, .unset] [(.ref a1)])) rfl rfl (hb hby d5_74)
      refine own_st (T' := T68) (g' := (mkF m 77 #[.val (.ref a1), .val (.int (Int32.ofNat jv)), .val (.ref a2), .val (.int bt), .val (.ref x1), .val (.int (0 : Int32)), .val (.int (0 : Int32)), .unset, .unset, .unset, .unset, .unset, .unset] [(.ref ob)])) (fun t9 k9 => st68 t9 k9) ?_
      refine own_st (T' := T68) (g' := (mkF m 78 #[.val (.ref a1), .val (.int (Int32.ofNat jv)), .val (.ref a2), .val (.int bt), .val (.ref x1), .val (.int (0 : Int32)), .val (.int (0 : Int32)), .unset, .unset, .unset, .unset, .unset, .unset] [(.int (Int32.ofNat jv)), (.ref ob)])) (fun t9 k9 => XS.iloadN X68.here hx rfl (hb hby d5_77) rfl k9) ?_
      obtain ⟨clu69, Aru69, qu69, Su69, Nu69, Hu69, Gu69⟩ := (id Voba)
      have hinu69 := inb_of Su69 (j := (Int32.ofNat jv)) ⟨q2, own_lt hj (by omega)⟩
      refine own_st (T' := T68) (g' := (mkF m 79 #[.val (.ref a1), .val (.int (Int32.ofNat jv)), .val (.ref a2), .val (.int bt), .val (.ref x1), .val (.int (0 : Int32)), .val (.int (0 : Int32)), .unset, .unset, .unset, .unset, .unset, .unset] [(.ref y1)])) (fun t9 k9 => X68.aaload hx (j := (Int32.ofNat jv)) (v := (.ref y1)) (by rw [e68]; exact Aru69.1) (State.isArrayOf_alike hZ.alike Aru69.2.1) rfl Aru69.2.2 hinu69 (Hu69.at hinu69 (by rw [q1]; exact hyj)) (g := (mkF m 78 #[.val (.ref a1), .val (.int (Int32.ofNat jv)), .val (.ref a2), .val (.int bt), .val (.ref x1), .val (.int (0 : Int32)), .val (.int (0 : Int32)), .unset, .unset, .unset, .unset, .unset, .unset] [(.int (Int32.ofNat jv)), (.ref ob)])) rfl rfl (hb hby d5_78) t9 k9) ?_
      refine own_st (T' := T68) (g' := (mkF m 81 #[.val (.ref a1), .val (.int (Int32.ofNat jv)), .val (.ref a2), .val (.int bt), .val (.ref x1), .val (.int (0 : Int32)), .val (.int (0 : Int32)), .unset, .unset, .unset, .unset, .unset, .unset] [(.int (0 : Int32)), (.ref y1)])) (fun t9 k9 => XS.iload X68.here hx rfl (hb hby d5_79) rfl k9) ?_
      refine own_st (T' := T68) (g' := (mkF m 83 #[.val (.ref a1), .val (.int (Int32.ofNat jv)), .val (.ref a2), .val (.int bt), .val (.ref x1), .val (.int (0 : Int32)), .val (.int (0 : Int32)), .unset, .unset, .unset, .unset, .unset, .unset] [(.int (0 : Int32)), (.int (0 : Int32)), (.ref y1)])) (fun t9 k9 => XS.iload X68.here hx rfl (hb hby d5_81) rfl k9) ?_
      obtain ⟨clu70, Aru70, qu70, Su70, Nu70, Hu70, Gu70⟩ := (id Vya)
      obtain ⟨T71, h71, X71, e71, W71, st71⟩ := stI X68 hx hZ e68 Aru70 (j := (0 : Int32)) (inb_of Su70 ⟨by decide, by decide⟩) (g := (mkF m 83 #[.val (.ref a1), .val (.int (Int32.ofNat jv)), .val (.ref a2), .val (.int bt), .val (.ref x1), .val (.int (0 : Int32)), .val (.int (0 : Int32)), .unset, .unset, .unset, .unset, .unset, .unset] [(.int (0 : Int32)), (.int (0 : Int32)), (.ref y1)])) rfl rfl (hb hby d5_83)
      have Va71 := Arv.set Aru70 qu70 Su70 Nu70 Hu70 Gu70 rfl W71 0 rfl (by rw [hvy]; decide)
      have Fla_72 := Fla.other W71 (Or.inl ne_a1_y1)
      have Fr1a_73 := Fr1a.other W71 (Or.inl ne_a1_y1)
      have Foa_74 := Foa.other W71 (Or.inl ne_a1_y1)
      have Fza_75 := Fza.other W71 (Or.inl ne_a1_y1)
      have Vroa_76 := Vroa.other W71 ne_ro_y1
      have Voba_77 := Voba.other W71 ne_ob_y1
      have V2a_78 := V2a.other W71 ne_a2_y1
      have Vxa_79 := Vxa.other W71 ne_x1_y1
      have Vza_80 := Vza.other W71 (Ne.symm ne_y1_ze)
      have K71 := K4.wr W71 (Or.inl (by simp))
      have N71 := Fr.snoc X71 N4 g_y1
      have Z71 : n0 ≤ h71.size := by rw [W71.size]; exact Z4
      refine own_st (T' := T71) (g' := (mkF m 84 #[.val (.ref a1), .val (.int (Int32.ofNat jv)), .val (.ref a2), .val (.int bt), .val (.ref x1), .val (.int (0 : Int32)), .val (.int (0 : Int32)), .unset, .unset, .unset, .unset, .unset, .unset] [])) (fun t9 k9 => st71 t9 k9) ?_
      refine own_st (T' := T71) (g' := (mkF m 86 #[.val (.ref a1), .val (.int (Int32.ofNat jv)), .val (.ref a2), .val (.int bt), .val (.ref x1), .val (.int (0 : Int32)), .val (.int (0 : Int32)), .unset, .unset, .unset, .unset, .unset, .unset] [(.int (0 : Int32))])) (fun t9 k9 => XS.iload X71.here hx rfl (hb hby d5_84) rfl k9) ?_
      refine own_st (T' := T71) (g' := (mkF m 88 #[.val (.ref a1), .val (.int (Int32.ofNat jv)), .val (.ref a2), .val (.int bt), .val (.ref x1), .val (.int (0 : Int32)), .val (.int (0 : Int32)), .unset, .unset, .unset, .unset, .unset, .unset] [(.ref x1), (.int (0 : Int32))])) (fun t9 k9 => XS.aload X71.here hx rfl (hb hby d5_86) rfl rfl k9) ?_
      refine own_st (T' := T71) (g' := (mkF m 90 #[.val (.ref a1), .val (.int (Int32.ofNat jv)), .val (.ref a2), .val (.int bt), .val (.ref x1), .val (.int (0 : Int32)), .val (.int (0 : Int32)), .unset, .unset, .unset, .unset, .unset, .unset] [(.int (0 : Int32)), (.ref x1), (.int (0 : Int32))])) (fun t9 k9 => XS.iload X71.here hx rfl (hb hby d5_88) rfl k9) ?_
      obtain ⟨clu81, Aru81, qu81, Su81, Nu81, Hu81, Gu81⟩ := (id Vxa_79)
      have hinu81 := inb_of Su81 (j := (0 : Int32)) ⟨by decide, by decide⟩
      refine own_st (T' := T71) (g' := (mkF m 91 #[.val (.ref a1), .val (.int (Int32.ofNat jv)), .val (.ref a2), .val (.int bt), .val (.ref x1), .val (.int (0 : Int32)), .val (.int (0 : Int32)), .unset, .unset, .unset, .unset, .unset, .unset] [(.long wv), (.int (0 : Int32))])) (fun t9 k9 => X71.laload hx (j := (0 : Int32)) (v := (.long wv)) (by rw [e71]; exact Aru81.1) (State.isArrayOf_alike hZ.alike Aru81.2.1) Aru81.2.2 hinu81 (Hu81.at hinu81 rfl) (g := (mkF m 90 #[.val (.ref a1), .val (.int (Int32.ofNat jv)), .val (.ref a2), .val (.int bt), .val (.ref x1), .val (.int (0 : Int32)), .val (.int (0 : Int32)), .unset, .unset, .unset, .unset, .unset, .unset] [(.int (0 : Int32)), (.ref x1), (.int (0 : Int32))])) rfl rfl (hb hby d5_90) t9 k9) ?_
      obtain ⟨_, _, ⟨T82, L82, k82, n82⟩, -, X82, ⟨Lc82, hQ82, l82, y82, z82⟩, st82⟩ := Jvm.LawKit.callS X71 hx (y := (⟨"java/lang/Long", "bitCount", "(J)I"⟩ : MethodName)) hown (mvT hZ (hw _ (List.mem_of_getElem? (i := 38) rfl))) (mvT hZ (hw _ (List.mem_of_getElem? (i := 39) rfl))) (mvT hZ (hw _ (List.mem_of_getElem? (i := 40) rfl))) (mvT hZ (hw _ (List.mem_of_getElem? (i := 41) rfl))) (by decide) (own_back (W := 1) (rm6 l Z a0 hw wv h71 n0 Z71) hZ (hw _ (List.mem_of_getElem? (i := 41) rfl)) (hw _ (List.mem_of_getElem? (i := 40) rfl)) (by decide) (by decide)) (g := (mkF m 91 #[.val (.ref a1), .val (.int (Int32.ofNat jv)), .val (.ref a2), .val (.int bt), .val (.ref x1), .val (.int (0 : Int32)), .val (.int (0 : Int32)), .unset, .unset, .unset, .unset, .unset, .unset] [(.long wv), (.int (0 : Int32))])) rfl (by rw [hml]; rfl) (argsL := [(.long wv)]) (rest := [(.int (0 : Int32))]) (lenOf pd_5 rfl) rfl (by show 2 * 0 + _ ≤ _; exact Nat.le_of_eq rfl) (hb hby d5_91) (fun _ _ => ⟨rfl, e71, (Nat.le_of_ble_eq_true rfl), (Nat.le_of_ble_eq_true rfl)⟩)
      dsimp only [Pt.U, Pt.locs, Pt.cells, Pt.slots] at X82 l82 y82 z82 st82 hQ82
      subst l82 y82 z82
      obtain ⟨rfl, Nq82, he82⟩ := hQ82
      have N82 := Fr.app N71 Nq82
      have e82 : T82.heap = h71 := he82
      refine own_st (T' := T82) (g' := (mkF m 94 #[.val (.ref a1), .val (.int (Int32.ofNat jv)), .val (.ref a2), .val (.int bt), .val (.ref x1), .val (.int (0 : Int32)), .val (.int (0 : Int32)), .unset, .unset, .unset, .unset, .unset, .unset] [(.int (own_bc wv)), (.int (0 : Int32))])) (fun t9 k9 => st82 t9 k9) ?_
      refine own_st (T' := T82) (g' := (mkF m 95 #[.val (.ref a1), .val (.int (Int32.ofNat jv)), .val (.ref a2), .val (.int bt), .val (.ref x1), .val (.int (0 : Int32)), .val (.int (0 : Int32)), .unset, .unset, .unset, .unset, .unset, .unset] [(.int ((0 : Int32) + (own_bc wv)))])) (fun t9 k9 => XS.iadd X82.here hx rfl (hb hby d5_94) rfl k9) ?_
      rw [hbc, Int32.zero_add]
      refine own_st (T' := T82) (g' := (mkF m 97 #[.val (.ref a1), .val (.int (Int32.ofNat jv)), .val (.ref a2), .val (.int bt), .val (.ref x1), .val (.int (Int32.ofNat cn)), .val (.int (0 : Int32)), .unset, .unset, .unset, .unset, .unset, .unset] [])) (fun t9 k9 => XS.istore X82.here hx rfl (hb hby d5_95) rfl (l' := #[.val (.ref a1), .val (.int (Int32.ofNat jv)), .val (.ref a2), .val (.int bt), .val (.ref x1), .val (.int (Int32.ofNat cn)), .val (.int (0 : Int32)), .unset, .unset, .unset, .unset, .unset, .unset]) rfl k9) ?_
      refine own_st (T' := T82) (g' := (mkF m 100 #[.val (.ref a1), .val (.int (Int32.ofNat jv)), .val (.ref a2), .val (.int bt), .val (.ref x1), .val (.int (Int32.ofNat cn)), .val (.int ((0 : Int32) + (1 : Int32))), .unset, .unset, .unset, .unset, .unset, .unset] [])) (fun t9 k9 => XS.iinc X82.here hx rfl (hb hby d5_97) rfl (l' := #[.val (.ref a1), .val (.int (Int32.ofNat jv)), .val (.ref a2), .val (.int bt), .val (.ref x1), .val (.int (Int32.ofNat cn)), .val (.int ((0 : Int32) + (1 : Int32))), .unset, .unset, .unset, .unset, .unset, .unset]) rfl k9) ?_
      refine own_st (T' := T82) (g' := (mkF m 65 #[.val (.ref a1), .val (.int (Int32.ofNat jv)), .val (.ref a2), .val (.int bt), .val (.ref x1), .val (.int (Int32.ofNat cn)), .val (.int ((0 : Int32) + (1 : Int32))), .unset, .unset, .unset, .unset, .unset, .unset] [])) (fun t9 k9 => XS.goto X82.here hx rfl (pc0 := 100) (pc' := 65) rfl (hb hby d5_100) (by decide) (by decide) k9) ?_
      refine own_st (T' := T82) (g' := (mkF m 67 #[.val (.ref a1), .val (.int (Int32.ofNat jv)), .val (.ref a2), .val (.int bt), .val (.ref x1), .val (.int (Int32.ofNat cn)), .val (.int ((0 : Int32) + (1 : Int32))), .unset, .unset, .unset, .unset, .unset, .unset] [(.int ((0 : Int32) + (1 : Int32)))])) (fun t9 k9 => XS.iload X82.here hx rfl (hb hby d5_65) rfl k9) ?_
      refine own_st (T' := T82) (g' := (mkF m 69 #[.val (.ref a1), .val (.int (Int32.ofNat jv)), .val (.ref a2), .val (.int bt), .val (.ref x1), .val (.int (Int32.ofNat cn)), .val (.int ((0 : Int32) + (1 : Int32))), .unset, .unset, .unset, .unset, .unset, .unset] [(.ref x1), (.int ((0 : Int32) + (1 : Int32)))])) (fun t9 k9 => XS.aload X82.here hx rfl (hb hby d5_67) rfl rfl k9) ?_
      obtain ⟨clu83, Aru83, qu83, Su83, Nu83, Hu83, Gu83⟩ := (id Vxa_79)
      refine own_st (T' := T82) (g' := (mkF m 70 #[.val (.ref a1), .val (.int (Int32.ofNat jv)), .val (.ref a2), .val (.int bt), .val (.ref x1), .val (.int (Int32.ofNat cn)), .val (.int ((0 : Int32) + (1 : Int32))), .unset, .unset, .unset, .unset, .unset, .unset] [(.int (Int32.ofNat 2)), (.int ((0 : Int32) + (1 : Int32)))])) (fun t9 k9 => X82.arraylength hx (by rw [e82]; exact Aru83.1) (State.isArrayOf_alike hZ.alike Aru83.2.1) (g := (mkF m 69 #[.val (.ref a1), .val (.int (Int32.ofNat jv)), .val (.ref a2), .val (.int bt), .val (.ref x1), .val (.int (Int32.ofNat cn)), .val (.int ((0 : Int32) + (1 : Int32))), .unset, .unset, .unset, .unset, .unset, .unset] [(.ref x1), (.int ((0 : Int32) + (1 : Int32)))])) rfl rfl (hb hby d5_69) t9 (by rw [len_of Su83 Nu83]; exact k9)) ?_
      refine own_st (T' := T82) (g' := (mkF m 73 #[.val (.ref a1), .val (.int (Int32.ofNat jv)), .val (.ref a2), .val (.int bt), .val (.ref x1), .val (.int (Int32.ofNat cn)), .val (.int ((0 : Int32) + (1 : Int32))), .unset, .unset, .unset, .unset, .unset, .unset] [])) (fun t9 k9 => XS.icmpNo X82.here hx rfl (hb hby d5_70) rfl (tlt (by decide)).2.1 k9) ?_
      refine own_st (T' := T82) (g' := (mkF m 74 #[.val (.ref a1), .val (.int (Int32.ofNat jv)), .val (.ref a2), .val (.int bt), .val (.ref x1), .val (.int (Int32.ofNat cn)), .val (.int ((0 : Int32) + (1 : Int32))), .unset, .unset, .unset, .unset, .unset, .unset] [(.ref a1)])) (fun t9 k9 => XS.aloadN X82.here hx rfl (hb hby d5_73) rfl rfl k9) ?_
      obtain ⟨T84, X84, e84, st84⟩ := getF X82 hx hZ hown (host := "") (Or.inl (hw _ (List.mem_of_getElem? (i := 30) rfl))) Via.refl e82 Foa_74 (g := (mkF m 74 #[.val (.ref a1), .val (.int (Int32.ofNat jv)), .val (.ref a2), .val (.int bt), .val (.ref x1), .val (.int (Int32.ofNat cn)), .val (.int ((0 : Int32) + (1 : Int32))), .unset, .unset, .unset, .unset, .unset, .unset] [(.ref a1)])) rfl rfl (hb hby d5_74)
      refine own_st (T' := T84) (g' := (mkF m 77 #[.val (.ref a1), .val (.int (Int32.ofNat jv)), .val (.ref a2), .val (.int bt), .val (.ref x1), .val (.int (Int32.ofNat cn)), .val (.int ((0 : Int32) + (1 : Int32))), .unset, .unset, .unset, .unset, .unset, .unset] [(.ref ob)])) (fun t9 k9 => st84 t9 k9) ?_
      refine own_st (T' := T84) (g' := (mkF m 78 #[.val (.ref a1), .val (.int (Int32.ofNat jv)), .val (.ref a2), .val (.int bt), .val (.ref x1), .val (.int (Int32.ofNat cn)), .val (.int ((0 : Int32) + (1 : Int32))), .unset, .unset, .unset, .unset, .unset, .unset] [(.int (Int32.ofNat jv)), (.ref ob)])) (fun t9 k9 => XS.iloadN X84.here hx rfl (hb hby d5_77) rfl k9) ?_
      obtain ⟨clu85, Aru85, qu85, Su85, Nu85, Hu85, Gu85⟩ := (id Voba_77)
      have hinu85 := inb_of Su85 (j := (Int32.ofNat jv)) ⟨q2, own_lt hj (by omega)⟩
      refine own_st (T' := T84) (g' := (mkF m 79 #[.val (.ref a1), .val (.int (Int32.ofNat jv)), .val (.ref a2), .val (.int bt), .val (.ref x1), .val (.int (Int32.ofNat cn)), .val (.int ((0 : Int32) + (1 : Int32))), .unset, .unset, .unset, .unset, .unset, .unset] [(.ref y1)])) (fun t9 k9 => X84.aaload hx (j := (Int32.ofNat jv)) (v := (.ref y1)) (by rw [e84]; exact Aru85.1) (State.isArrayOf_alike hZ.alike Aru85.2.1) rfl Aru85.2.2 hinu85 (Hu85.at hinu85 (by rw [q1]; exact hyj)) (g := (mkF m 78 #[.val (.ref a1), .val (.int (Int32.ofNat jv)), .val (.ref a2), .val (.int bt), .val (.ref x1), .val (.int (Int32.ofNat cn)), .val (.int ((0 : Int32) + (1 : Int32))), .unset, .unset, .unset, .unset, .unset, .unset] [(.int (Int32.ofNat jv)), (.ref ob)])) rfl rfl (hb hby d5_78) t9 k9) ?_
      refine own_st (T' := T84) (g' := (mkF m 81 #[.val (.ref a1), .val (.int (Int32.ofNat jv)), .val (.ref a2), .val (.int bt), .val (.ref x1), .val (.int (Int32.ofNat cn)), .val (.int ((0 : Int32) + (1 : Int32))), .unset, .unset, .unset, .unset, .unset, .unset] [(.int ((0 : Int32) + (1 : Int32))), (.ref y1)])) (fun t9 k9 => XS.iload X84.here hx rfl (hb hby d5_79) rfl k9) ?_
      refine own_st (T' := T84) (g' := (mkF m 83 #[.val (.ref a1), .val (.int (Int32.ofNat jv)), .val (.ref a2), .val (.int bt), .val (.ref x1), .val (.int (Int32.ofNat cn)), .val (.int ((0 : Int32) + (1 : Int32))), .unset, .unset, .unset, .unset, .unset, .unset] [(.int (Int32.ofNat cn)), (.int ((0 : Int32) + (1 : Int32))), (.ref y1)])) (fun t9 k9 => XS.iload X84.here hx rfl (hb hby d5_81) rfl k9) ?_
      obtain ⟨clu86, Aru86, qu86, Su86, Nu86, Hu86, Gu86⟩ := (id Va71)
      obtain ⟨T87, h87, X87, e87, W87, st87⟩ := stI X84 hx hZ e84 Aru86 (j := ((0 : Int32) + (1 : Int32))) (inb_of Su86 ⟨by decide, by decide⟩) (g := (mkF m 83 #[.val (.ref a1), .val (.int (Int32.ofNat jv)), .val (.ref a2), .val (.int bt), .val (.ref x1), .val (.int (Int32.ofNat cn)), .val (.int ((0 : Int32) + (1 : Int32))), .unset, .unset, .unset, .unset, .unset, .unset] [(.int (Int32.ofNat cn)), (.int ((0 : Int32) + (1 : Int32))), (.ref y1)])) rfl rfl (hb hby d5_83)
      have Va87 := Arv.set Aru86 qu86 Su86 Nu86 Hu86 Gu86 rfl W87 1 rfl (by rw [List.length_set, hvy]; decide)
      have Fla_88 := Fla_72.other W87 (Or.inl ne_a1_y1)
      have Fr1a_89 := Fr1a_73.other W87 (Or.inl ne_a1_y1)
      have Foa_90 := Foa_74.other W87 (Or.inl ne_a1_y1)
      have Fza_91 := Fza_75.other W87 (Or.inl ne_a1_y1)
      have Vroa_92 := Vroa_76.other W87 ne_ro_y1
      have Voba_93 := Voba_77.other W87 ne_ob_y1
      have V2a_94 := V2a_78.other W87 ne_a2_y1
      have Vxa_95 := Vxa_79.other W87 ne_x1_y1
      have Vza_96 := Vza_80.other W87 (Ne.symm ne_y1_ze)
      have K87 := K71.wr W87 (Or.inl (by simp))
      have N87 := Fr.snoc X87 N82 g_y1
      have Z87 : n0 ≤ h87.size := by rw [W87.size]; exact Z71
      refine own_st (T' := T87) (g' := (mkF m 84 #[.val (.ref a1), .val (.int (Int32.ofNat jv)), .val (.ref a2), .val (.int bt), .val (.ref x1), .val (.int (Int32.ofNat cn)), .val (.int ((0 : Int32) + (1 : Int32))), .unset, .unset, .unset, .unset, .unset, .unset] [])) (fun t9 k9 => st87 t9 k9) ?_
      refine own_st (T' := T87) (g' := (mkF m 86 #[.val (.ref a1), .val (.int (Int32.ofNat jv)), .val (.ref a2), .val (.int bt), .val (.ref x1), .val (.int (Int32.ofNat cn)), .val (.int ((0 : Int32) + (1 : Int32))), .unset, .unset, .unset, .unset, .unset, .unset] [(.int (Int32.ofNat cn))])) (fun t9 k9 => XS.iload X87.here hx rfl (hb hby d5_84) rfl k9) ?_
      refine own_st (T' := T87) (g' := (mkF m 88 #[.val (.ref a1), .val (.int (Int32.ofNat jv)), .val (.ref a2), .val (.int bt), .val (.ref x1), .val (.int (Int32.ofNat cn)), .val (.int ((0 : Int32) + (1 : Int32))), .unset, .unset, .unset, .unset, .unset, .unset] [(.ref x1), (.int (Int32.ofNat cn))])) (fun t9 k9 => XS.aload X87.here hx rfl (hb hby d5_86) rfl rfl k9) ?_
      refine own_st (T' := T87) (g' := (mkF m 90 #[.val (.ref a1), .val (.int (Int32.ofNat jv)), .val (.ref a2), .val (.int bt), .val (.ref x1), .val (.int (Int32.ofNat cn)), .val (.int ((0 : Int32) + (1 : Int32))), .unset, .unset, .unset, .unset, .unset, .unset] [(.int ((0 : Int32) + (1 : Int32))), (.ref x1), (.int (Int32.ofNat cn))])) (fun t9 k9 => XS.iload X87.here hx rfl (hb hby d5_88) rfl k9) ?_
      obtain ⟨clu97, Aru97, qu97, Su97, Nu97, Hu97, Gu97⟩ := (id Vxa_95)
      have hinu97 := inb_of Su97 (j := ((0 : Int32) + (1 : Int32))) ⟨by decide, by decide⟩
      refine own_st (T' := T87) (g' := (mkF m 91 #[.val (.ref a1), .val (.int (Int32.ofNat jv)), .val (.ref a2), .val (.int bt), .val (.ref x1), .val (.int (Int32.ofNat cn)), .val (.int ((0 : Int32) + (1 : Int32))), .unset, .unset, .unset, .unset, .unset, .unset] [(.long (0 : Int64)), (.int (Int32.ofNat cn))])) (fun t9 k9 => X87.laload hx (j := ((0 : Int32) + (1 : Int32))) (v := (.long (0 : Int64))) (by rw [e87]; exact Aru97.1) (State.isArrayOf_alike hZ.alike Aru97.2.1) Aru97.2.2 hinu97 (Hu97.at hinu97 rfl) (g := (mkF m 90 #[.val (.ref a1), .val (.int (Int32.ofNat jv)), .val (.ref a2), .val (.int bt), .val (.ref x1), .val (.int (Int32.ofNat cn)), .val (.int ((0 : Int32) + (1 : Int32))), .unset, .unset, .unset, .unset, .unset, .unset] [(.int ((0 : Int32) + (1 : Int32))), (.ref x1), (.int (Int32.ofNat cn))])) rfl rfl (hb hby d5_90) t9 k9) ?_
      obtain ⟨_, _, ⟨T98, L98, k98, n98⟩, -, X98, ⟨Lc98, hQ98, l98, y98, z98⟩, st98⟩ := Jvm.LawKit.callS X87 hx (y := (⟨"java/lang/Long", "bitCount", "(J)I"⟩ : MethodName)) hown (mvT hZ (hw _ (List.mem_of_getElem? (i := 38) rfl))) (mvT hZ (hw _ (List.mem_of_getElem? (i := 39) rfl))) (mvT hZ (hw _ (List.mem_of_getElem? (i := 40) rfl))) (mvT hZ (hw _ (List.mem_of_getElem? (i := 41) rfl))) (by decide) (own_back (W := 1) (rm6 l Z a0 hw (0 : Int64) h87 n0 Z87) hZ (hw _ (List.mem_of_getElem? (i := 41) rfl)) (hw _ (List.mem_of_getElem? (i := 40) rfl)) (by decide) (by decide)) (g := (mkF m 91 #[.val (.ref a1), .val (.int (Int32.ofNat jv)), .val (.ref a2), .val (.int bt), .val (.ref x1), .val (.int (Int32.ofNat cn)), .val (.int ((0 : Int32) + (1 : Int32))), .unset, .unset, .unset, .unset, .unset, .unset] [(.long (0 : Int64)), (.int (Int32.ofNat cn))])) rfl (by rw [hml]; rfl) (argsL := [(.long (0 : Int64))]) (rest := [(.int (Int32.ofNat cn))]) (lenOf pd_5 rfl) rfl (by show 2 * 0 + _ ≤ _; exact Nat.le_of_eq rfl) (hb hby d5_91) (fun _ _ => ⟨rfl, e87, (Nat.le_of_ble_eq_true rfl), (Nat.le_of_ble_eq_true rfl)⟩)
      dsimp only [Pt.U, Pt.locs, Pt.cells, Pt.slots] at X98 l98 y98 z98 st98 hQ98
      subst l98 y98 z98
      obtain ⟨rfl, Nq98, he98⟩ := hQ98
      have N98 := Fr.app N87 Nq98
      have e98 : T98.heap = h87 := he98
      refine own_st (T' := T98) (g' := (mkF m 94 #[.val (.ref a1), .val (.int (Int32.ofNat jv)), .val (.ref a2), .val (.int bt), .val (.ref x1), .val (.int (Int32.ofNat cn)), .val (.int ((0 : Int32) + (1 : Int32))), .unset, .unset, .unset, .unset, .unset, .unset] [(.int (own_bc (0 : Int64))), (.int (Int32.ofNat cn))])) (fun t9 k9 => st98 t9 k9) ?_
      refine own_st (T' := T98) (g' := (mkF m 95 #[.val (.ref a1), .val (.int (Int32.ofNat jv)), .val (.ref a2), .val (.int bt), .val (.ref x1), .val (.int (Int32.ofNat cn)), .val (.int ((0 : Int32) + (1 : Int32))), .unset, .unset, .unset, .unset, .unset, .unset] [(.int ((Int32.ofNat cn) + (own_bc (0 : Int64))))])) (fun t9 k9 => XS.iadd X98.here hx rfl (hb hby d5_94) rfl k9) ?_
      rw [own_bc0, Int32.add_zero]
      refine own_st (T' := T98) (g' := (mkF m 97 #[.val (.ref a1), .val (.int (Int32.ofNat jv)), .val (.ref a2), .val (.int bt), .val (.ref x1), .val (.int (Int32.ofNat cn)), .val (.int ((0 : Int32) + (1 : Int32))), .unset, .unset, .unset, .unset, .unset, .unset] [])) (fun t9 k9 => XS.istore X98.here hx rfl (hb hby d5_95) rfl (l' := #[.val (.ref a1), .val (.int (Int32.ofNat jv)), .val (.ref a2), .val (.int bt), .val (.ref x1), .val (.int (Int32.ofNat cn)), .val (.int ((0 : Int32) + (1 : Int32))), .unset, .unset, .unset, .unset, .unset, .unset]) rfl k9) ?_
      refine own_st (T' := T98) (g' := (mkF m 100 #[.val (.ref a1), .val (.int (Int32.ofNat jv)), .val (.ref a2), .val (.int bt), .val (.ref x1), .val (.int (Int32.ofNat cn)), .val (.int (((0 : Int32) + (1 : Int32)) + (1 : Int32))), .unset, .unset, .unset, .unset, .unset, .unset] [])) (fun t9 k9 => XS.iinc X98.here hx rfl (hb hby d5_97) rfl (l' := #[.val (.ref a1), .val (.int (Int32.ofNat jv)), .val (.ref a2), .val (.int bt), .val (.ref x1), .val (.int (Int32.ofNat cn)), .val (.int (((0 : Int32) + (1 : Int32)) + (1 : Int32))), .unset, .unset, .unset, .unset, .unset, .unset]) rfl k9) ?_
      refine own_st (T' := T98) (g' := (mkF m 65 #[.val (.ref a1), .val (.int (Int32.ofNat jv)), .val (.ref a2), .val (.int bt), .val (.ref x1), .val (.int (Int32.ofNat cn)), .val (.int (((0 : Int32) + (1 : Int32)) + (1 : Int32))), .unset, .unset, .unset, .unset, .unset, .unset] [])) (fun t9 k9 => XS.goto X98.here hx rfl (pc0 := 100) (pc' := 65) rfl (hb hby d5_100) (by decide) (by decide) k9) ?_
      refine own_st (T' := T98) (g' := (mkF m 67 #[.val (.ref a1), .val (.int (Int32.ofNat jv)), .val (.ref a2), .val (.int bt), .val (.ref x1), .val (.int (Int32.ofNat cn)), .val (.int (((0 : Int32) + (1 : Int32)) + (1 : Int32))), .unset, .unset, .unset, .unset, .unset, .unset] [(.int (((0 : Int32) + (1 : Int32)) + (1 : Int32)))])) (fun t9 k9 => XS.iload X98.here hx rfl (hb hby d5_65) rfl k9) ?_
      refine own_st (T' := T98) (g' := (mkF m 69 #[.val (.ref a1), .val (.int (Int32.ofNat jv)), .val (.ref a2), .val (.int bt), .val (.ref x1), .val (.int (Int32.ofNat cn)), .val (.int (((0 : Int32) + (1 : Int32)) + (1 : Int32))), .unset, .unset, .unset, .unset, .unset, .unset] [(.ref x1), (.int (((0 : Int32) + (1 : Int32)) + (1 : Int32)))])) (fun t9 k9 => XS.aload X98.here hx rfl (hb hby d5_67) rfl rfl k9) ?_
      obtain ⟨clu99, Aru99, qu99, Su99, Nu99, Hu99, Gu99⟩ := (id Vxa_95)
      refine own_st (T' := T98) (g' := (mkF m 70 #[.val (.ref a1), .val (.int (Int32.ofNat jv)), .val (.ref a2), .val (.int bt), .val (.ref x1), .val (.int (Int32.ofNat cn)), .val (.int (((0 : Int32) + (1 : Int32)) + (1 : Int32))), .unset, .unset, .unset, .unset, .unset, .unset] [(.int (Int32.ofNat 2)), (.int (((0 : Int32) + (1 : Int32)) + (1 : Int32)))])) (fun t9 k9 => X98.arraylength hx (by rw [e98]; exact Aru99.1) (State.isArrayOf_alike hZ.alike Aru99.2.1) (g := (mkF m 69 #[.val (.ref a1), .val (.int (Int32.ofNat jv)), .val (.ref a2), .val (.int bt), .val (.ref x1), .val (.int (Int32.ofNat cn)), .val (.int (((0 : Int32) + (1 : Int32)) + (1 : Int32))), .unset, .unset, .unset, .unset, .unset, .unset] [(.ref x1), (.int (((0 : Int32) + (1 : Int32)) + (1 : Int32)))])) rfl rfl (hb hby d5_69) t9 (by rw [len_of Su99 Nu99]; exact k9)) ?_
      refine own_st (T' := T98) (g' := (mkF m 103 #[.val (.ref a1), .val (.int (Int32.ofNat jv)), .val (.ref a2), .val (.int bt), .val (.ref x1), .val (.int (Int32.ofNat cn)), .val (.int (((0 : Int32) + (1 : Int32)) + (1 : Int32))), .unset, .unset, .unset, .unset, .unset, .unset] [])) (fun t9 k9 => XS.icmpYes X98.here hx rfl (pc0 := 70) (pc' := 103) rfl (hb hby d5_70) rfl (flt (by decide)).2.1 (by decide) (by decide) k9) ?_
      exact j103 _ _ _ _ _ X98 e98 N98 Z87 K87 Fla_88 Fr1a_89 Foa_90 Fza_91 Vroa_92 Voba_93 V2a_94 Vxa_95 Va87 Vza_96 (by simp only [List.length_set]; exact hvy)
  by_cases hbq : ((own_u w1 bt) &&& (1 : Int32)) = 0
  · have la : ∀ (k : Nat) (T100 : State) (L100 : List Loc) (i : Nat), Stand p l e ({ frames := 1, cells := 1, slots := 64, locals := 40 } : Room) s m #[(.ref a1), (.int (Int32.ofNat jv)), (.ref a2)] below meth c T100 L100 (0) (0) → T100.heap = h0 → Fr n0 L100 → (i + k = ln) → own_Go p e below F T100 (mkF m 20 #[.val (.ref a1), .val (.int (Int32.ofNat jv)), .val (.ref a2), .val (.int bt), .val (.ref x1), .val (.int (Int32.ofNat i)), .unset, .unset, .unset, .unset, .unset, .unset, .unset] []) := by
      intro k
      induction k with
      | zero =>
        intro T100 L100 i X100 e100 N100 hi
        obtain rfl : ln = i := by omega
        show own_Go p e below F T100 (mkF m 20 #[.val (.ref a1), .val (.int (Int32.ofNat jv)), .val (.ref a2), .val (.int bt), .val (.ref x1), .val (.int (Int32.ofNat ln)), .unset, .unset, .unset, .unset, .unset, .unset, .unset] [])
        refine own_st (T' := T100) (g' := (mkF m 22 #[.val (.ref a1), .val (.int (Int32.ofNat jv)), .val (.ref a2), .val (.int bt), .val (.ref x1), .val (.int (Int32.ofNat ln)), .unset, .unset, .unset, .unset, .unset, .unset, .unset] [(.int (Int32.ofNat ln))])) (fun t9 k9 => XS.iload X100.here hx rfl (hb hby d5_20) rfl k9) ?_
        refine own_st (T' := T100) (g' := (mkF m 23 #[.val (.ref a1), .val (.int (Int32.ofNat jv)), .val (.ref a2), .val (.int bt), .val (.ref x1), .val (.int (Int32.ofNat ln)), .unset, .unset, .unset, .unset, .unset, .unset, .unset] [(.ref a2), (.int (Int32.ofNat ln))])) (fun t9 k9 => XS.aloadN X100.here hx rfl (hb hby d5_22) rfl rfl k9) ?_
        obtain ⟨clu101, Aru101, qu101, Su101, Nu101, Hu101, Gu101⟩ := (id V2)
        refine own_st (T' := T100) (g' := (mkF m 24 #[.val (.ref a1), .val (.int (Int32.ofNat jv)), .val (.ref a2), .val (.int bt), .val (.ref x1), .val (.int (Int32.ofNat ln)), .unset, .unset, .unset, .unset, .unset, .unset, .unset] [(.int (Int32.ofNat ln)), (.int (Int32.ofNat ln))])) (fun t9 k9 => X100.arraylength hx (by rw [e100]; exact Aru101.1) (State.isArrayOf_alike hZ.alike Aru101.2.1) (g := (mkF m 23 #[.val (.ref a1), .val (.int (Int32.ofNat jv)), .val (.ref a2), .val (.int bt), .val (.ref x1), .val (.int (Int32.ofNat ln)), .unset, .unset, .unset, .unset, .unset, .unset, .unset] [(.ref a2), (.int (Int32.ofNat ln))])) rfl rfl (hb hby d5_23) t9 (by rw [len_of Su101 Nu101]; exact k9)) ?_
        refine own_st (T' := T100) (g' := (mkF m 59 #[.val (.ref a1), .val (.int (Int32.ofNat jv)), .val (.ref a2), .val (.int bt), .val (.ref x1), .val (.int (Int32.ofNat ln)), .unset, .unset, .unset, .unset, .unset, .unset, .unset] [])) (fun t9 k9 => XS.icmpYes X100.here hx rfl (pc0 := 24) (pc' := 59) rfl (hb hby d5_24) rfl (flt (Int32.lt_irrefl)).2.1 (by decide) (by decide) k9) ?_
        exact j59 _ _ _ 0 0 X100 e100 N100 Z0 K0 Fl Fr1 Fo Fz Vro Vob V2 Vx2 Vy Vz own_bc0 (Or.inl ⟨hbq, rfl⟩)
      | succ k ih =>
        intro T100 L100 i X100 e100 N100 hi
        obtain ⟨r1, r2⟩ := own_nat (i := i) (by omega)
        refine own_st (T' := T100) (g' := (mkF m 22 #[.val (.ref a1), .val (.int (Int32.ofNat jv)), .val (.ref a2), .val (.int bt), .val (.ref x1), .val (.int (Int32.ofNat i)), .unset, .unset, .unset, .unset, .unset, .unset, .unset] [(.int (Int32.ofNat i))])) (fun t9 k9 => XS.iload X100.here hx rfl (hb hby d5_20) rfl k9) ?_
        refine own_st (T' := T100) (g' := (mkF m 23 #[.val (.ref a1), .val (.int (Int32.ofNat jv)), .val (.ref a2), .val (.int bt), .val (.ref x1), .val (.int (Int32.ofNat i)), .unset, .unset, .unset, .unset, .unset, .unset, .unset] [(.ref a2), (.int (Int32.ofNat i))])) (fun t9 k9 => XS.aloadN X100.here hx rfl (hb hby d5_22) rfl rfl k9) ?_
        obtain ⟨clu102, Aru102, qu102, Su102, Nu102, Hu102, Gu102⟩ := (id V2)
        refine own_st (T' := T100) (g' := (mkF m 24 #[.val (.ref a1), .val (.int (Int32.ofNat jv)), .val (.ref a2), .val (.int bt), .val (.ref x1), .val (.int (Int32.ofNat i)), .unset, .unset, .unset, .unset, .unset, .unset, .unset] [(.int (Int32.ofNat ln)), (.int (Int32.ofNat i))])) (fun t9 k9 => X100.arraylength hx (by rw [e100]; exact Aru102.1) (State.isArrayOf_alike hZ.alike Aru102.2.1) (g := (mkF m 23 #[.val (.ref a1), .val (.int (Int32.ofNat jv)), .val (.ref a2), .val (.int bt), .val (.ref x1), .val (.int (Int32.ofNat i)), .unset, .unset, .unset, .unset, .unset, .unset, .unset] [(.ref a2), (.int (Int32.ofNat i))])) rfl rfl (hb hby d5_23) t9 (by rw [len_of Su102 Nu102]; exact k9)) ?_
        refine own_st (T' := T100) (g' := (mkF m 27 #[.val (.ref a1), .val (.int (Int32.ofNat jv)), .val (.ref a2), .val (.int bt), .val (.ref x1), .val (.int (Int32.ofNat i)), .unset, .unset, .unset, .unset, .unset, .unset, .unset] [])) (fun t9 k9 => XS.icmpNo X100.here hx rfl (hb hby d5_24) rfl (tlt (own_lt (by omega) (by omega))).2.1 k9) ?_
        refine own_st (T' := T100) (g' := (mkF m 28 #[.val (.ref a1), .val (.int (Int32.ofNat jv)), .val (.ref a2), .val (.int bt), .val (.ref x1), .val (.int (Int32.ofNat i)), .unset, .unset, .unset, .unset, .unset, .unset, .unset] [(.ref a2)])) (fun t9 k9 => XS.aloadN X100.here hx rfl (hb hby d5_27) rfl rfl k9) ?_
        refine own_st (T' := T100) (g' := (mkF m 30 #[.val (.ref a1), .val (.int (Int32.ofNat jv)), .val (.ref a2), .val (.int bt), .val (.ref x1), .val (.int (Int32.ofNat i)), .unset, .unset, .unset, .unset, .unset, .unset, .unset] [(.int (Int32.ofNat i)), (.ref a2)])) (fun t9 k9 => XS.iload X100.here hx rfl (hb hby d5_28) rfl k9) ?_
        obtain ⟨clu103, Aru103, qu103, Su103, Nu103, Hu103, Gu103⟩ := (id V2)
        have hinu103 := inb_of Su103 (j := (Int32.ofNat i)) ⟨r2, own_lt (by omega) (by omega)⟩
        refine own_st (T' := T100) (g' := (mkF m 31 #[.val (.ref a1), .val (.int (Int32.ofNat jv)), .val (.ref a2), .val (.int bt), .val (.ref x1), .val (.int (Int32.ofNat i)), .unset, .unset, .unset, .unset, .unset, .unset, .unset] [(.int w1)])) (fun t9 k9 => X100.iaload hx (j := (Int32.ofNat i)) (v := (.int w1)) (by rw [e100]; exact Aru103.1) (State.isArrayOf_alike hZ.alike Aru103.2.1) Aru103.2.2 hinu103 (Hu103.at hinu103 (by rw [r1]; exact own_repD (by omega))) (g := (mkF m 30 #[.val (.ref a1), .val (.int (Int32.ofNat jv)), .val (.ref a2), .val (.int bt), .val (.ref x1), .val (.int (Int32.ofNat i)), .unset, .unset, .unset, .unset, .unset, .unset, .unset] [(.int (Int32.ofNat i)), (.ref a2)])) rfl rfl (hb hby d5_30) t9 k9) ?_
        refine own_st (T' := T100) (g' := (mkF m 32 #[.val (.ref a1), .val (.int (Int32.ofNat jv)), .val (.ref a2), .val (.int bt), .val (.ref x1), .val (.int (Int32.ofNat i)), .unset, .unset, .unset, .unset, .unset, .unset, .unset] [(.int bt), (.int w1)])) (fun t9 k9 => XS.iloadN X100.here hx rfl (hb hby d5_31) rfl k9) ?_
        refine own_st (T' := T100) (g' := (mkF m 33 #[.val (.ref a1), .val (.int (Int32.ofNat jv)), .val (.ref a2), .val (.int bt), .val (.ref x1), .val (.int (Int32.ofNat i)), .unset, .unset, .unset, .unset, .unset, .unset, .unset] [(.int ((w1.toUInt32 >>> (bt &&& 31).toUInt32).toInt32))])) (fun t9 k9 => XS.iushr X100.here hx rfl (hb hby d5_32) rfl k9) ?_
        refine own_st (T' := T100) (g' := (mkF m 34 #[.val (.ref a1), .val (.int (Int32.ofNat jv)), .val (.ref a2), .val (.int bt), .val (.ref x1), .val (.int (Int32.ofNat i)), .unset, .unset, .unset, .unset, .unset, .unset, .unset] [(.int (1 : Int32)), (.int ((w1.toUInt32 >>> (bt &&& 31).toUInt32).toInt32))])) (fun t9 k9 => XS.iconst X100.here hx rfl (hb hby d5_33) k9) ?_
        refine own_st (T' := T100) (g' := (mkF m 35 #[.val (.ref a1), .val (.int (Int32.ofNat jv)), .val (.ref a2), .val (.int bt), .val (.ref x1), .val (.int (Int32.ofNat i)), .unset, .unset, .unset, .unset, .unset, .unset, .unset] [(.int (((w1.toUInt32 >>> (bt &&& 31).toUInt32).toInt32) &&& (1 : Int32)))])) (fun t9 k9 => XS.iand X100.here hx rfl (hb hby d5_34) rfl k9) ?_
        refine own_st (T' := T100) (g' := (mkF m 53 #[.val (.ref a1), .val (.int (Int32.ofNat jv)), .val (.ref a2), .val (.int bt), .val (.ref x1), .val (.int (Int32.ofNat i)), .unset, .unset, .unset, .unset, .unset, .unset, .unset] [])) (fun t9 k9 => XS.ifYes X100.here hx rfl (pc0 := 35) (pc' := 53) rfl (hb hby d5_35) rfl ((if0 _ _).trans (teq hbq).1) (by decide) (by decide) k9) ?_
        refine own_st (T' := T100) (g' := (mkF m 56 #[.val (.ref a1), .val (.int (Int32.ofNat jv)), .val (.ref a2), .val (.int bt), .val (.ref x1), .val (.int ((Int32.ofNat i) + (1 : Int32))), .unset, .unset, .unset, .unset, .unset, .unset, .unset] [])) (fun t9 k9 => XS.iinc X100.here hx rfl (hb hby d5_53) rfl (l' := #[.val (.ref a1), .val (.int (Int32.ofNat jv)), .val (.ref a2), .val (.int bt), .val (.ref x1), .val (.int ((Int32.ofNat i) + (1 : Int32))), .unset, .unset, .unset, .unset, .unset, .unset, .unset]) rfl k9) ?_
        rw [own_one i]
        refine own_st (T' := T100) (g' := (mkF m 20 #[.val (.ref a1), .val (.int (Int32.ofNat jv)), .val (.ref a2), .val (.int bt), .val (.ref x1), .val (.int (Int32.ofNat (i + 1))), .unset, .unset, .unset, .unset, .unset, .unset, .unset] [])) (fun t9 k9 => XS.goto X100.here hx rfl (pc0 := 56) (pc' := 20) rfl (hb hby d5_56) (by decide) (by decide) k9) ?_
        exact ih _ _ (i + 1) X100 e100 N100 (by omega)
    exact la ln _ _ 0 X2 e2 N0 (Nat.zero_add ln)
  · have lb : ∀ (k : Nat) (T104 : State) (L104 : List Loc) (h104 : Heap) (i : Nat), Stand p l e ({ frames := 1, cells := 1, slots := 64, locals := 40 } : Room) s m #[(.ref a1), (.int (Int32.ofNat jv)), (.ref a2)] below meth c T104 L104 (0) (0) → T104.heap = h104 → Fr n0 L104 → (n0 ≤ h104.size) → (Keep h0 h104 [x1, y1, ze]) → (Fld Z h104 a1 "com/example/newsweave/newsweave/nas/PlaceRecords" "levels" "I" (.int (Int32.ofNat lv))) → (Fld Z h104 a1 "com/example/newsweave/newsweave/nas/PlaceRecords" "rows" "[[J" (.ref ro)) → (Fld Z h104 a1 "com/example/newsweave/newsweave/nas/PlaceRecords" "onesBefore" "[[I" (.ref ob)) → (Fld Z h104 a1 "com/example/newsweave/newsweave/nas/PlaceRecords" "zeros" "[I" (.ref ze)) → (Arv Z h104 ro kro (.array .long) (Int32.ofNat lv) xs .null) → (Arv Z h104 ob kob (.array .int) (Int32.ofNat lv) ys .null) → (Arv Z h104 a2 k2 .int (Int32.ofNat ln) (List.replicate ln (.int w1)) (.int 0)) → (Arv Z h104 x1 kx .long (Int32.ofNat wn) ((List.replicate wn (Value.long 0)).set 0 (.long (own_ors i))) (.long 0)) → (Arv Z h104 y1 ky .int (Int32.ofNat wn) vy (.int 0)) → (Arv Z h104 ze kze .int (Int32.ofNat lv) vz (.int 0)) → (i + k = ln) → own_Go p e below F T104 (mkF m 20 #[.val (.ref a1), .val (.int (Int32.ofNat jv)), .val (.ref a2), .val (.int bt), .val (.ref x1), .val (.int (Int32.ofNat i)), .unset, .unset, .unset, .unset, .unset, .unset, .unset] []) := by
      intro k
      induction k with
      | zero =>
        intro T104 L104 h104 i X104 e104 N104 Z104 K104 Fld Fr1d Fod Fzd Vrod Vobd V2d Vxd Vyd Vzd hi
        obtain rfl : ln = i := by omega
        show own_Go p e below F T104 (mkF m 20 #[.val (.ref a1), .val (.int (Int32.ofNat jv)), .val (.ref a2), .val (.int bt), .val (.ref x1), .val (.int (Int32.ofNat ln)), .unset, .unset, .unset, .unset, .unset, .unset, .unset] [])
        refine own_st (T' := T104) (g' := (mkF m 22 #[.val (.ref a1), .val (.int (Int32.ofNat jv)), .val (.ref a2), .val (.int bt), .val (.ref x1), .val (.int (Int32.ofNat ln)), .unset, .unset, .unset, .unset, .unset, .unset, .unset] [(.int (Int32.ofNat ln))])) (fun t9 k9 => XS.iload X104.here hx rfl (hb hby d5_20) rfl k9) ?_
        refine own_st (T' := T104) (g' := (mkF m 23 #[.val (.ref a1), .val (.int (Int32.ofNat jv)), .val (.ref a2), .val (.int bt), .val (.ref x1), .val (.int (Int32.ofNat ln)), .unset, .unset, .unset, .unset, .unset, .unset, .unset] [(.ref a2), (.int (Int32.ofNat ln))])) (fun t9 k9 => XS.aloadN X104.here hx rfl (hb hby d5_22) rfl rfl k9) ?_
        obtain ⟨clu105, Aru105, qu105, Su105, Nu105, Hu105, Gu105⟩ := (id V2d)
        refine own_st (T' := T104) (g' := (mkF m 24 #[.val (.ref a1), .val (.int (Int32.ofNat jv)), .val (.ref a2), .val (.int bt), .val (.ref x1), .val (.int (Int32.ofNat ln)), .unset, .unset, .unset, .unset, .unset, .unset, .unset] [(.int (Int32.ofNat ln)), (.int (Int32.ofNat ln))])) (fun t9 k9 => X104.arraylength hx (by rw [e104]; exact Aru105.1) (State.isArrayOf_alike hZ.alike Aru105.2.1) (g := (mkF m 23 #[.val (.ref a1), .val (.int (Int32.ofNat jv)), .val (.ref a2), .val (.int bt), .val (.ref x1), .val (.int (Int32.ofNat ln)), .unset, .unset, .unset, .unset, .unset, .unset, .unset] [(.ref a2), (.int (Int32.ofNat ln))])) rfl rfl (hb hby d5_23) t9 (by rw [len_of Su105 Nu105]; exact k9)) ?_
        refine own_st (T' := T104) (g' := (mkF m 59 #[.val (.ref a1), .val (.int (Int32.ofNat jv)), .val (.ref a2), .val (.int bt), .val (.ref x1), .val (.int (Int32.ofNat ln)), .unset, .unset, .unset, .unset, .unset, .unset, .unset] [])) (fun t9 k9 => XS.icmpYes X104.here hx rfl (pc0 := 24) (pc' := 59) rfl (hb hby d5_24) rfl (flt (Int32.lt_irrefl)).2.1 (by decide) (by decide) k9) ?_
        exact j59 _ _ _ (own_ors ln) ln X104 e104 N104 Z104 K104 Fld Fr1d Fod Fzd Vrod Vobd V2d Vxd Vyd Vzd hN.count (Or.inr ⟨hbq, rfl⟩)
      | succ k ih =>
        intro T104 L104 h104 i X104 e104 N104 Z104 K104 Fld Fr1d Fod Fzd Vrod Vobd V2d Vxd Vyd Vzd hi
        obtain ⟨r1, r2⟩ := own_nat (i := i) (by omega)
        refine own_st (T' := T104) (g' := (mkF m 22 #[.val (.ref a1), .val (.int (Int32.ofNat jv)), .val (.ref a2), .val (.int bt), .val (.ref x1), .val (.int (Int32.ofNat i)), .unset, .unset, .unset, .unset, .unset, .unset, .unset] [(.int (Int32.ofNat i))])) (fun t9 k9 => XS.iload X104.here hx rfl (hb hby d5_20) rfl k9) ?_
        refine own_st (T' := T104) (g' := (mkF m 23 #[.val (.ref a1), .val (.int (Int32.ofNat jv)), .val (.ref a2), .val (.int bt), .val (.ref x1), .val (.int (Int32.ofNat i)), .unset, .unset, .unset, .unset, .unset, .unset, .unset] [(.ref a2), (.int (Int32.ofNat i))])) (fun t9 k9 => XS.aloadN X104.here hx rfl (hb hby d5_22) rfl rfl k9) ?_
        obtain ⟨clu106, Aru106, qu106, Su106, Nu106, Hu106, Gu106⟩ := (id V2d)
        refine own_st (T' := T104) (g' := (mkF m 24 #[.val (.ref a1), .val (.int (Int32.ofNat jv)), .val (.ref a2), .val (.int bt), .val (.ref x1), .val (.int (Int32.ofNat i)), .unset, .unset, .unset, .unset, .unset, .unset, .unset] [(.int (Int32.ofNat ln)), (.int (Int32.ofNat i))])) (fun t9 k9 => X104.arraylength hx (by rw [e104]; exact Aru106.1) (State.isArrayOf_alike hZ.alike Aru106.2.1) (g := (mkF m 23 #[.val (.ref a1), .val (.int (Int32.ofNat jv)), .val (.ref a2), .val (.int bt), .val (.ref x1), .val (.int (Int32.ofNat i)), .unset, .unset, .unset, .unset, .unset, .unset, .unset] [(.ref a2), (.int (Int32.ofNat i))])) rfl rfl (hb hby d5_23) t9 (by rw [len_of Su106 Nu106]; exact k9)) ?_
        refine own_st (T' := T104) (g' := (mkF m 27 #[.val (.ref a1), .val (.int (Int32.ofNat jv)), .val (.ref a2), .val (.int bt), .val (.ref x1), .val (.int (Int32.ofNat i)), .unset, .unset, .unset, .unset, .unset, .unset, .unset] [])) (fun t9 k9 => XS.icmpNo X104.here hx rfl (hb hby d5_24) rfl (tlt (own_lt (by omega) (by omega))).2.1 k9) ?_
        refine own_st (T' := T104) (g' := (mkF m 28 #[.val (.ref a1), .val (.int (Int32.ofNat jv)), .val (.ref a2), .val (.int bt), .val (.ref x1), .val (.int (Int32.ofNat i)), .unset, .unset, .unset, .unset, .unset, .unset, .unset] [(.ref a2)])) (fun t9 k9 => XS.aloadN X104.here hx rfl (hb hby d5_27) rfl rfl k9) ?_
        refine own_st (T' := T104) (g' := (mkF m 30 #[.val (.ref a1), .val (.int (Int32.ofNat jv)), .val (.ref a2), .val (.int bt), .val (.ref x1), .val (.int (Int32.ofNat i)), .unset, .unset, .unset, .unset, .unset, .unset, .unset] [(.int (Int32.ofNat i)), (.ref a2)])) (fun t9 k9 => XS.iload X104.here hx rfl (hb hby d5_28) rfl k9) ?_
        obtain ⟨clu107, Aru107, qu107, Su107, Nu107, Hu107, Gu107⟩ := (id V2d)
        have hinu107 := inb_of Su107 (j := (Int32.ofNat i)) ⟨r2, own_lt (by omega) (by omega)⟩
        refine own_st (T' := T104) (g' := (mkF m 31 #[.val (.ref a1), .val (.int (Int32.ofNat jv)), .val (.ref a2), .val (.int bt), .val (.ref x1), .val (.int (Int32.ofNat i)), .unset, .unset, .unset, .unset, .unset, .unset, .unset] [(.int w1)])) (fun t9 k9 => X104.iaload hx (j := (Int32.ofNat i)) (v := (.int w1)) (by rw [e104]; exact Aru107.1) (State.isArrayOf_alike hZ.alike Aru107.2.1) Aru107.2.2 hinu107 (Hu107.at hinu107 (by rw [r1]; exact own_repD (by omega))) (g := (mkF m 30 #[.val (.ref a1), .val (.int (Int32.ofNat jv)), .val (.ref a2), .val (.int bt), .val (.ref x1), .val (.int (Int32.ofNat i)), .unset, .unset, .unset, .unset, .unset, .unset, .unset] [(.int (Int32.ofNat i)), (.ref a2)])) rfl rfl (hb hby d5_30) t9 k9) ?_
        refine own_st (T' := T104) (g' := (mkF m 32 #[.val (.ref a1), .val (.int (Int32.ofNat jv)), .val (.ref a2), .val (.int bt), .val (.ref x1), .val (.int (Int32.ofNat i)), .unset, .unset, .unset, .unset, .unset, .unset, .unset] [(.int bt), (.int w1)])) (fun t9 k9 => XS.iloadN X104.here hx rfl (hb hby d5_31) rfl k9) ?_
        refine own_st (T' := T104) (g' := (mkF m 33 #[.val (.ref a1), .val (.int (Int32.ofNat jv)), .val (.ref a2), .val (.int bt), .val (.ref x1), .val (.int (Int32.ofNat i)), .unset, .unset, .unset, .unset, .unset, .unset, .unset] [(.int ((w1.toUInt32 >>> (bt &&& 31).toUInt32).toInt32))])) (fun t9 k9 => XS.iushr X104.here hx rfl (hb hby d5_32) rfl k9) ?_
        refine own_st (T' := T104) (g' := (mkF m 34 #[.val (.ref a1), .val (.int (Int32.ofNat jv)), .val (.ref a2), .val (.int bt), .val (.ref x1), .val (.int (Int32.ofNat i)), .unset, .unset, .unset, .unset, .unset, .unset, .unset] [(.int (1 : Int32)), (.int ((w1.toUInt32 >>> (bt &&& 31).toUInt32).toInt32))])) (fun t9 k9 => XS.iconst X104.here hx rfl (hb hby d5_33) k9) ?_
        refine own_st (T' := T104) (g' := (mkF m 35 #[.val (.ref a1), .val (.int (Int32.ofNat jv)), .val (.ref a2), .val (.int bt), .val (.ref x1), .val (.int (Int32.ofNat i)), .unset, .unset, .unset, .unset, .unset, .unset, .unset] [(.int (((w1.toUInt32 >>> (bt &&& 31).toUInt32).toInt32) &&& (1 : Int32)))])) (fun t9 k9 => XS.iand X104.here hx rfl (hb hby d5_34) rfl k9) ?_
        refine own_st (T' := T104) (g' := (mkF m 38 #[.val (.ref a1), .val (.int (Int32.ofNat jv)), .val (.ref a2), .val (.int bt), .val (.ref x1), .val (.int (Int32.ofNat i)), .unset, .unset, .unset, .unset, .unset, .unset, .unset] [])) (fun t9 k9 => XS.ifNo X104.here hx rfl (hb hby d5_35) rfl ((if0 _ _).trans (feq hbq).1) k9) ?_
        refine own_st (T' := T104) (g' := (mkF m 40 #[.val (.ref a1), .val (.int (Int32.ofNat jv)), .val (.ref a2), .val (.int bt), .val (.ref x1), .val (.int (Int32.ofNat i)), .unset, .unset, .unset, .unset, .unset, .unset, .unset] [(.ref x1)])) (fun t9 k9 => XS.aload X104.here hx rfl (hb hby d5_38) rfl rfl k9) ?_
        refine own_st (T' := T104) (g' := (mkF m 42 #[.val (.ref a1), .val (.int (Int32.ofNat jv)), .val (.ref a2), .val (.int bt), .val (.ref x1), .val (.int (Int32.ofNat i)), .unset, .unset, .unset, .unset, .unset, .unset, .unset] [(.int (Int32.ofNat i)), (.ref x1)])) (fun t9 k9 => XS.iload X104.here hx rfl (hb hby d5_40) rfl k9) ?_
        refine own_st (T' := T104) (g' := (mkF m 44 #[.val (.ref a1), .val (.int (Int32.ofNat jv)), .val (.ref a2), .val (.int bt), .val (.ref x1), .val (.int (Int32.ofNat i)), .unset, .unset, .unset, .unset, .unset, .unset, .unset] [(.int (6 : Int32)), (.int (Int32.ofNat i)), (.ref x1)])) (fun t9 k9 => XS.bipush X104.here hx rfl (hb hby d5_42) k9) ?_
        refine own_st (T' := T104) (g' := (mkF m 45 #[.val (.ref a1), .val (.int (Int32.ofNat jv)), .val (.ref a2), .val (.int bt), .val (.ref x1), .val (.int (Int32.ofNat i)), .unset, .unset, .unset, .unset, .unset, .unset, .unset] [(.int (((Int32.ofNat i).toUInt32 >>> ((6 : Int32) &&& 31).toUInt32).toInt32)), (.ref x1)])) (fun t9 k9 => XS.iushr X104.here hx rfl (hb hby d5_44) rfl k9) ?_
        rw [show ((Int32.ofNat i).toUInt32 >>> ((6 : Int32) &&& 31).toUInt32).toInt32 = 0 from own_sh6 (i := i) (by omega)]
        refine own_st (T' := T104) (g' := (mkF m 46 #[.val (.ref a1), .val (.int (Int32.ofNat jv)), .val (.ref a2), .val (.int bt), .val (.ref x1), .val (.int (Int32.ofNat i)), .unset, .unset, .unset, .unset, .unset, .unset, .unset] [(.int (0 : Int32)), (.ref x1), (.int (0 : Int32)), (.ref x1)])) (fun t9 k9 => own_dup2a X104 hx (hb hby d5_45) rfl rfl k9) ?_
        obtain ⟨clu108, Aru108, qu108, Su108, Nu108, Hu108, Gu108⟩ := (id Vxd)
        have hinu108 := inb_of Su108 (j := (0 : Int32)) ⟨by decide, own_lt (i := 0) (by omega) (by omega)⟩
        refine own_st (T' := T104) (g' := (mkF m 47 #[.val (.ref a1), .val (.int (Int32.ofNat jv)), .val (.ref a2), .val (.int bt), .val (.ref x1), .val (.int (Int32.ofNat i)), .unset, .unset, .unset, .unset, .unset, .unset, .unset] [(.long (own_ors i)), (.int (0 : Int32)), (.ref x1)])) (fun t9 k9 => X104.laload hx (j := (0 : Int32)) (v := (.long (own_ors i))) (by rw [e104]; exact Aru108.1) (State.isArrayOf_alike hZ.alike Aru108.2.1) Aru108.2.2 hinu108 (Hu108.at hinu108 (by rw [show (0 : Int32).toNatClampNeg = 0 from rfl, own_getD_set (by rw [List.length_replicate]; omega), if_pos rfl])) (g := (mkF m 46 #[.val (.ref a1), .val (.int (Int32.ofNat jv)), .val (.ref a2), .val (.int bt), .val (.ref x1), .val (.int (Int32.ofNat i)), .unset, .unset, .unset, .unset, .unset, .unset, .unset] [(.int (0 : Int32)), (.ref x1), (.int (0 : Int32)), (.ref x1)])) rfl rfl (hb hby d5_46) t9 k9) ?_
        refine own_st (T' := T104) (g' := (mkF m 48 #[.val (.ref a1), .val (.int (Int32.ofNat jv)), .val (.ref a2), .val (.int bt), .val (.ref x1), .val (.int (Int32.ofNat i)), .unset, .unset, .unset, .unset, .unset, .unset, .unset] [(.long (1 : Int64)), (.long (own_ors i)), (.int (0 : Int32)), (.ref x1)])) (fun t9 k9 => XS.lconst X104.here hx rfl (hb hby d5_47) k9) ?_
        refine own_st (T' := T104) (g' := (mkF m 50 #[.val (.ref a1), .val (.int (Int32.ofNat jv)), .val (.ref a2), .val (.int bt), .val (.ref x1), .val (.int (Int32.ofNat i)), .unset, .unset, .unset, .unset, .unset, .unset, .unset] [(.int (Int32.ofNat i)), (.long (1 : Int64)), (.long (own_ors i)), (.int (0 : Int32)), (.ref x1)])) (fun t9 k9 => XS.iload X104.here hx rfl (hb hby d5_48) rfl k9) ?_
        refine own_st (T' := T104) (g' := (mkF m 51 #[.val (.ref a1), .val (.int (Int32.ofNat jv)), .val (.ref a2), .val (.int bt), .val (.ref x1), .val (.int (Int32.ofNat i)), .unset, .unset, .unset, .unset, .unset, .unset, .unset] [(.long ((1 : Int64) <<< ((Int32.ofNat i) &&& 0x3f).toInt64)), (.long (own_ors i)), (.int (0 : Int32)), (.ref x1)])) (fun t9 k9 => XS.lshl X104.here hx rfl (hb hby d5_50) rfl k9) ?_
        refine own_st (T' := T104) (g' := (mkF m 52 #[.val (.ref a1), .val (.int (Int32.ofNat jv)), .val (.ref a2), .val (.int bt), .val (.ref x1), .val (.int (Int32.ofNat i)), .unset, .unset, .unset, .unset, .unset, .unset, .unset] [(.long ((own_ors i) ||| ((1 : Int64) <<< ((Int32.ofNat i) &&& 0x3f).toInt64))), (.int (0 : Int32)), (.ref x1)])) (fun t9 k9 => XS.lor X104.here hx rfl (hb hby d5_51) rfl k9) ?_
        obtain ⟨clu109, Aru109, qu109, Su109, Nu109, Hu109, Gu109⟩ := (id Vxd)
        obtain ⟨T110, h110, X110, e110, W110, st110⟩ := stJ X104 hx hZ e104 Aru109 (j := (0 : Int32)) (inb_of Su109 ⟨by decide, own_lt (i := 0) (by omega) (by omega)⟩) (g := (mkF m 52 #[.val (.ref a1), .val (.int (Int32.ofNat jv)), .val (.ref a2), .val (.int bt), .val (.ref x1), .val (.int (Int32.ofNat i)), .unset, .unset, .unset, .unset, .unset, .unset, .unset] [(.long ((own_ors i) ||| ((1 : Int64) <<< ((Int32.ofNat i) &&& 0x3f).toInt64))), (.int (0 : Int32)), (.ref x1)])) rfl rfl (hb hby d5_52)
        have Va110 := Arv.set Aru109 qu109 Su109 Nu109 Hu109 Gu109 rfl W110 0 rfl (by rw [List.length_set, List.length_replicate]; omega)
        have Fld_111 := Fld.other W110 (Or.inl ne_a1_x1)
        have Fr1d_112 := Fr1d.other W110 (Or.inl ne_a1_x1)
        have Fod_113 := Fod.other W110 (Or.inl ne_a1_x1)
        have Fzd_114 := Fzd.other W110 (Or.inl ne_a1_x1)
        have Vrod_115 := Vrod.other W110 ne_ro_x1
        have Vobd_116 := Vobd.other W110 ne_ob_x1
        have V2d_117 := V2d.other W110 ne_a2_x1
        have Vyd_118 := Vyd.other W110 (Ne.symm ne_x1_y1)
        have Vzd_119 := Vzd.other W110 (Ne.symm ne_x1_ze)
        have K110 := K104.wr W110 (Or.inl (by simp))
        have N110 := Fr.snoc X110 N104 g_x1
        have Z110 : n0 ≤ h110.size := by rw [W110.size]; exact Z104
        refine own_st (T' := T110) (g' := (mkF m 53 #[.val (.ref a1), .val (.int (Int32.ofNat jv)), .val (.ref a2), .val (.int bt), .val (.ref x1), .val (.int (Int32.ofNat i)), .unset, .unset, .unset, .unset, .unset, .unset, .unset] [])) (fun t9 k9 => st110 t9 k9) ?_
        have Vxn : Arv Z h110 x1 kx .long (Int32.ofNat wn) ((List.replicate wn (Value.long 0)).set 0 (.long (own_ors (i + 1)))) (.long 0) := by
          have q := Va110
          rw [List.set_set] at q
          exact q
        refine own_st (T' := T110) (g' := (mkF m 56 #[.val (.ref a1), .val (.int (Int32.ofNat jv)), .val (.ref a2), .val (.int bt), .val (.ref x1), .val (.int ((Int32.ofNat i) + (1 : Int32))), .unset, .unset, .unset, .unset, .unset, .unset, .unset] [])) (fun t9 k9 => XS.iinc X110.here hx rfl (hb hby d5_53) rfl (l' := #[.val (.ref a1), .val (.int (Int32.ofNat jv)), .val (.ref a2), .val (.int bt), .val (.ref x1), .val (.int ((Int32.ofNat i) + (1 : Int32))), .unset, .unset, .unset, .unset, .unset, .unset, .unset]) rfl k9) ?_
        rw [own_one i]
        refine own_st (T' := T110) (g' := (mkF m 20 #[.val (.ref a1), .val (.int (Int32.ofNat jv)), .val (.ref a2), .val (.int bt), .val (.ref x1), .val (.int (Int32.ofNat (i + 1))), .unset, .unset, .unset, .unset, .unset, .unset, .unset] [])) (fun t9 k9 => XS.goto X110.here hx rfl (pc0 := 56) (pc' := 20) rfl (hb hby d5_56) (by decide) (by decide) k9) ?_
        exact ih _ _ _ (i + 1) X110 e110 N110 Z110 K110 Fld_111 Fr1d_112 Fod_113 Fzd_114 Vrod_115 Vobd_116 V2d_117 Vxn Vyd_118 Vzd_119 (by omega)
    exact lb ln _ _ _ 0 X2 e2 N0 Z0 K0 Fl Fr1 Fo Fz Vro Vob V2 Vx2 Vy Vz (Nat.zero_add ln)
theorem d1_0 : decode prog_89_method_1_code 0 = .ok (.aload_n 0, 1) := by decide +kernel
theorem d1_1 : decode prog_89_method_1_code 1 = .ok (.invokespecial 1, 3) := by decide +kernel
theorem d1_4 : decode prog_89_method_1_code 4 = .ok (.aload_n 0, 1) := by decide +kernel
theorem d1_5 : decode prog_89_method_1_code 5 = .ok (.iload_n 2, 1) := by decide +kernel
theorem d1_6 : decode prog_89_method_1_code 6 = .ok (.putfield 7, 3) := by decide +kernel
theorem d1_9 : decode prog_89_method_1_code 9 = .ok (.aload_n 0, 1) := by decide +kernel
theorem d1_10 : decode prog_89_method_1_code 10 = .ok (.iconst 1, 1) := by decide +kernel
theorem d1_11 : decode prog_89_method_1_code 11 = .ok (.bipush 32, 2) := by decide +kernel
theorem d1_13 : decode prog_89_method_1_code 13 = .ok (.iload_n 2, 1) := by decide +kernel
theorem d1_14 : decode prog_89_method_1_code 14 = .ok (.invokestatic 15, 3) := by decide +kernel
theorem d1_17 : decode prog_89_method_1_code 17 = .ok (.isub, 1) := by decide +kernel
theorem d1_18 : decode prog_89_method_1_code 18 = .ok (.invokestatic 19, 3) := by decide +kernel
theorem d1_21 : decode prog_89_method_1_code 21 = .ok (.putfield 25, 3) := by decide +kernel
theorem d1_24 : decode prog_89_method_1_code 24 = .ok (.aload_n 1, 1) := by decide +kernel
theorem d1_25 : decode prog_89_method_1_code 25 = .ok (.arraylength, 1) := by decide +kernel
theorem d1_26 : decode prog_89_method_1_code 26 = .ok (.bipush 6, 2) := by decide +kernel
theorem d1_28 : decode prog_89_method_1_code 28 = .ok (.iushr, 1) := by decide +kernel
theorem d1_29 : decode prog_89_method_1_code 29 = .ok (.iconst 1, 1) := by decide +kernel
theorem d1_30 : decode prog_89_method_1_code 30 = .ok (.iadd, 1) := by decide +kernel
theorem d1_31 : decode prog_89_method_1_code 31 = .ok (.istore_n 3, 1) := by decide +kernel
theorem d1_32 : decode prog_89_method_1_code 32 = .ok (.aload_n 0, 1) := by decide +kernel
theorem d1_33 : decode prog_89_method_1_code 33 = .ok (.aload_n 0, 1) := by decide +kernel
theorem d1_34 : decode prog_89_method_1_code 34 = .ok (.getfield 25, 3) := by decide +kernel
theorem d1_37 : decode prog_89_method_1_code 37 = .ok (.iload_n 3, 1) := by decide +kernel
theorem d1_38 : decode prog_89_method_1_code 38 = .ok (.multianewarray 28 2, 4) := by decide +kernel
theorem d1_42 : decode prog_89_method_1_code 42 = .ok (.putfield 30, 3) := by decide +kernel
theorem d1_45 : decode prog_89_method_1_code 45 = .ok (.aload_n 0, 1) := by decide +kernel
theorem d1_46 : decode prog_89_method_1_code 46 = .ok (.aload_n 0, 1) := by decide +kernel
theorem d1_47 : decode prog_89_method_1_code 47 = .ok (.getfield 25, 3) := by decide +kernel
theorem d1_50 : decode prog_89_method_1_code 50 = .ok (.iload_n 3, 1) := by decide +kernel
theorem d1_51 : decode prog_89_method_1_code 51 = .ok (.multianewarray 33 2, 4) := by decide +kernel
theorem d1_55 : decode prog_89_method_1_code 55 = .ok (.putfield 35, 3) := by decide +kernel
theorem d1_58 : decode prog_89_method_1_code 58 = .ok (.aload_n 0, 1) := by decide +kernel
theorem d1_59 : decode prog_89_method_1_code 59 = .ok (.aload_n 0, 1) := by decide +kernel
theorem d1_60 : decode prog_89_method_1_code 60 = .ok (.getfield 25, 3) := by decide +kernel
theorem d1_63 : decode prog_89_method_1_code 63 = .ok (.newarray .int, 2) := by decide +kernel
theorem d1_65 : decode prog_89_method_1_code 65 = .ok (.putfield 38, 3) := by decide +kernel
theorem d1_68 : decode prog_89_method_1_code 68 = .ok (.aload_n 1, 1) := by decide +kernel
theorem d1_69 : decode prog_89_method_1_code 69 = .ok (.arraylength, 1) := by decide +kernel
theorem d1_70 : decode prog_89_method_1_code 70 = .ok (.newarray .int, 2) := by decide +kernel
theorem d1_72 : decode prog_89_method_1_code 72 = .ok (.astore 4, 2) := by decide +kernel
theorem d1_74 : decode prog_89_method_1_code 74 = .ok (.iconst 0, 1) := by decide +kernel
theorem d1_75 : decode prog_89_method_1_code 75 = .ok (.istore 5, 2) := by decide +kernel
theorem d1_77 : decode prog_89_method_1_code 77 = .ok (.iload 5, 2) := by decide +kernel
theorem d1_79 : decode prog_89_method_1_code 79 = .ok (.aload 4, 2) := by decide +kernel
theorem d1_81 : decode prog_89_method_1_code 81 = .ok (.arraylength, 1) := by decide +kernel
theorem d1_82 : decode prog_89_method_1_code 82 = .ok (.if_icmp .ge 29, 3) := by decide +kernel
theorem d1_85 : decode prog_89_method_1_code 85 = .ok (.aload 4, 2) := by decide +kernel
theorem d1_87 : decode prog_89_method_1_code 87 = .ok (.iload 5, 2) := by decide +kernel
theorem d1_89 : decode prog_89_method_1_code 89 = .ok (.aload_n 1, 1) := by decide +kernel
theorem d1_90 : decode prog_89_method_1_code 90 = .ok (.iload 5, 2) := by decide +kernel
theorem d1_92 : decode prog_89_method_1_code 92 = .ok (.iaload, 1) := by decide +kernel
theorem d1_93 : decode prog_89_method_1_code 93 = .ok (.ifCond .ge 7, 3) := by decide +kernel
theorem d1_96 : decode prog_89_method_1_code 96 = .ok (.iload_n 2, 1) := by decide +kernel
theorem d1_97 : decode prog_89_method_1_code 97 = .ok (.goto 7, 3) := by decide +kernel
theorem d1_100 : decode prog_89_method_1_code 100 = .ok (.aload_n 1, 1) := by decide +kernel
theorem d1_101 : decode prog_89_method_1_code 101 = .ok (.iload 5, 2) := by decide +kernel
theorem d1_103 : decode prog_89_method_1_code 103 = .ok (.iaload, 1) := by decide +kernel
theorem d1_104 : decode prog_89_method_1_code 104 = .ok (.iastore, 1) := by decide +kernel
theorem d1_105 : decode prog_89_method_1_code 105 = .ok (.iinc 5 1, 3) := by decide +kernel
theorem d1_108 : decode prog_89_method_1_code 108 = .ok (.goto (-31), 3) := by decide +kernel
theorem d1_111 : decode prog_89_method_1_code 111 = .ok (.iconst 0, 1) := by decide +kernel
theorem d1_112 : decode prog_89_method_1_code 112 = .ok (.istore 5, 2) := by decide +kernel
theorem d1_114 : decode prog_89_method_1_code 114 = .ok (.iload 5, 2) := by decide +kernel
theorem d1_116 : decode prog_89_method_1_code 116 = .ok (.aload_n 0, 1) := by decide +kernel
theorem d1_117 : decode prog_89_method_1_code 117 = .ok (.getfield 25, 3) := by decide +kernel
theorem d1_120 : decode prog_89_method_1_code 120 = .ok (.if_icmp .ge 19, 3) := by decide +kernel
theorem d1_123 : decode prog_89_method_1_code 123 = .ok (.aload_n 0, 1) := by decide +kernel
theorem d1_124 : decode prog_89_method_1_code 124 = .ok (.iload 5, 2) := by decide +kernel
theorem d1_126 : decode prog_89_method_1_code 126 = .ok (.aload 4, 2) := by decide +kernel
theorem d1_128 : decode prog_89_method_1_code 128 = .ok (.invokevirtual 42, 3) := by decide +kernel
theorem d1_131 : decode prog_89_method_1_code 131 = .ok (.astore 4, 2) := by decide +kernel
theorem d1_133 : decode prog_89_method_1_code 133 = .ok (.iinc 5 1, 3) := by decide +kernel
theorem d1_136 : decode prog_89_method_1_code 136 = .ok (.goto (-22), 3) := by decide +kernel
theorem d1_139 : decode prog_89_method_1_code 139 = .ok (.return_, 1) := by decide +kernel
theorem pn_1 : plainFor (⟨"com/example/newsweave/newsweave/nas/PlaceRecords", "<init>", "([II)V"⟩ : MethodName) = true := plainFor_of_name (by first | (simp [plainName, overriddenIn]; done) | decide +kernel)
set_option maxRecDepth 65536 in
set_option maxHeartbeats 40000000 in
theorem rm1 (l : Launch) (Z : State) (a0 : Array Value) (hw : ∀ d ∈ tables_1, d.before a0 Z = true) (a1 a2 : Nat) (k2 : ClassId) (p2 q2 : Int32) (lv ln wn : Nat) (u1 u2 u3 u4 u5 : Value) (h0 : Heap) (n0 : Nat) (Z0 : n0 ≤ h0.size) (E1 : Exa Z h0 a1 "com/example/newsweave/newsweave/nas/PlaceRecords") (U1 : Fld Z h0 a1 "com/example/newsweave/newsweave/nas/PlaceRecords" "records" "I" u1) (U2 : Fld Z h0 a1 "com/example/newsweave/newsweave/nas/PlaceRecords" "levels" "I" u2) (U3 : Fld Z h0 a1 "com/example/newsweave/newsweave/nas/PlaceRecords" "rows" "[[J" u3) (U4 : Fld Z h0 a1 "com/example/newsweave/newsweave/nas/PlaceRecords" "onesBefore" "[[I" u4) (U5 : Fld Z h0 a1 "com/example/newsweave/newsweave/nas/PlaceRecords" "zeros" "[I" u5) (V2 : Arv Z h0 a2 k2 .int (Int32.ofNat ln) (List.replicate ln (.int q2)) (.int 0)) (g_a1 : n0 ≤ a1) (hne : a2 ≠ a1) (hr : ¬ p2 < 0) (elv : own_bl p2 = (Int32.ofNat lv)) (hl1 : 1 ≤ lv) (hlv : lv ≤ 32) (hN : own_N ln wn) :
    own_Met l Z (⟨"com/example/newsweave/newsweave/nas/PlaceRecords", "<init>", "([II)V"⟩ : MethodName) prog_89_method_1_code 6 none ({ frames := 2, cells := 100, slots := 2336, locals := 80 } : Room) #[(.ref a1), (.ref a2), (.int p2)] h0 (fun v h L => ∃ (ro ob : Nat) (kro kob : ClassId), v = none ∧ Fr n0 L ∧ Keep h0 h [a1] ∧ Exa Z h a1 "com/example/newsweave/newsweave/nas/PlaceRecords" ∧ Fld Z h a1 "com/example/newsweave/newsweave/nas/PlaceRecords" "levels" "I" (.int (Int32.ofNat lv)) ∧ Fld Z h a1 "com/example/newsweave/newsweave/nas/PlaceRecords" "rows" "[[J" (.ref ro) ∧ Fld Z h a1 "com/example/newsweave/newsweave/nas/PlaceRecords" "onesBefore" "[[I" (.ref ob) ∧ Arv Z h ro kro (.array .long) (Int32.ofNat lv) ((own_xs ro lv).map Value.ref) .null ∧ Arv Z h ob kob (.array .int) (Int32.ofNat lv) ((own_xs ob lv).map Value.ref) .null ∧ own_Rows Z h ro lv .long wn (.long 0) lv ∧ own_Rows Z h ob lv .int wn (.int 0) lv) := by
  refine own_body pn_1 ?_
  intro p e s m below meth c T0 hZ hx hby hml hown hnm hret hlk X0 e0 F hF
  have N0 := Fr.nil n0
  have K0 := Keep.refl h0 [a1]
  refine own_cast (g' := (mkF m 0 #[.val (.ref a1), .val (.ref a2), .val (.int p2), .unset, .unset, .unset] [])) (by first | (simp [entryFrame, mkF, argsToLocals, Value.category]; done) | rfl) ?_
  obtain ⟨hn64, hw2, hw1⟩ := hN.le
  obtain ⟨l1, l2⟩ := own_nat (i := lv) (by omega)
  obtain ⟨v1, v2⟩ := own_nat (i := wn) (by omega)
  obtain ⟨t1, t2⟩ := own_nat (i := ln) (by omega)
  refine own_st (T' := T0) (g' := (mkF m 1 #[.val (.ref a1), .val (.ref a2), .val (.int p2), .unset, .unset, .unset] [(.ref a1)])) (fun t9 k9 => XS.aloadN X0.here hx rfl (hb hby d1_0) rfl rfl k9) ?_
  obtain ⟨T1, X1, e1, st1⟩ := initO X0 hx hZ hown (hw _ (List.mem_of_getElem? (i := 8) rfl)) (hw _ (List.mem_of_getElem? (i := 9) rfl)) (hw _ (List.mem_of_getElem? (i := 10) rfl)) e0 (g := (mkF m 1 #[.val (.ref a1), .val (.ref a2), .val (.int p2), .unset, .unset, .unset] [(.ref a1)])) rfl (by rw [hml]; rfl) rfl (hb hby d1_1) (by decide) (W := 0) (by show 2 * 0 + _ ≤ _; exact Nat.le_of_eq rfl) (by decide)
  refine own_st (T' := T1) (g' := (mkF m 4 #[.val (.ref a1), .val (.ref a2), .val (.int p2), .unset, .unset, .unset] [])) (fun t9 k9 => st1 t9 k9) ?_
  refine own_st (T' := T1) (g' := (mkF m 5 #[.val (.ref a1), .val (.ref a2), .val (.int p2), .unset, .unset, .unset] [(.ref a1)])) (fun t9 k9 => XS.aloadN X1.here hx rfl (hb hby d1_4) rfl rfl k9) ?_
  refine own_st (T' := T1) (g' := (mkF m 6 #[.val (.ref a1), .val (.ref a2), .val (.int p2), .unset, .unset, .unset] [(.int p2), (.ref a1)])) (fun t9 k9 => XS.iloadN X1.here hx rfl (hb hby d1_5) rfl k9) ?_
  obtain ⟨T2, h2, X2, e2, W2, st2⟩ := putF X1 hx hZ hown (host := "") (Or.inl (hw _ (List.mem_of_getElem? (i := 11) rfl))) Via.refl e1 U1 E1 (Or.inr ⟨(hw _ (List.mem_of_getElem? (i := 12) rfl)), rfl, hnm⟩) (hw _ (List.mem_of_getElem? (i := 3) rfl)) (ty := .int) (by decide) rfl rfl (g := (mkF m 6 #[.val (.ref a1), .val (.ref a2), .val (.int p2), .unset, .unset, .unset] [(.int p2), (.ref a1)])) rfl rfl (hb hby d1_6)
  have Fw2 := U1.same W2
  have E1_3 := E1.wr W2
  have V2_4 := V2.other W2 hne
  have U2_5 := U2.other W2 (Or.inr (slot_ne (Or.inr (hw _ (List.mem_of_getElem? (i := 22) rfl))) (Or.inr (hw _ (List.mem_of_getElem? (i := 12) rfl))) (by decide) (t := .int) (t' := .int) (by decide) (by decide)))
  have U3_6 := U3.other W2 (Or.inr (slot_ne (Or.inr (hw _ (List.mem_of_getElem? (i := 27) rfl))) (Or.inr (hw _ (List.mem_of_getElem? (i := 12) rfl))) (by decide) (t := (.array (.array .long))) (t' := .int) (by decide) (by decide)))
  have U4_7 := U4.other W2 (Or.inr (slot_ne (Or.inr (hw _ (List.mem_of_getElem? (i := 31) rfl))) (Or.inr (hw _ (List.mem_of_getElem? (i := 12) rfl))) (by decide) (t := (.array (.array .int))) (t' := .int) (by decide) (by decide)))
  have U5_8 := U5.other W2 (Or.inr (slot_ne (Or.inr (hw _ (List.mem_of_getElem? (i := 33) rfl))) (Or.inr (hw _ (List.mem_of_getElem? (i := 12) rfl))) (by decide) (t := (.array .int)) (t' := .int) (by decide) (by decide)))
  have K2 := K0.wr W2 (Or.inl (by simp))
  have N2 := Fr.snoc X2 N0 g_a1
  have Z2 : n0 ≤ h2.size := by rw [W2.size]; exact Z0
  refine own_st (T' := T2) (g' := (mkF m 9 #[.val (.ref a1), .val (.ref a2), .val (.int p2), .unset, .unset, .unset] [])) (fun t9 k9 => st2 t9 k9) ?_
  refine own_st (T' := T2) (g' := (mkF m 10 #[.val (.ref a1), .val (.ref a2), .val (.int p2), .unset, .unset, .unset] [(.ref a1)])) (fun t9 k9 => XS.aloadN X2.here hx rfl (hb hby d1_9) rfl rfl k9) ?_
  refine own_st (T' := T2) (g' := (mkF m 11 #[.val (.ref a1), .val (.ref a2), .val (.int p2), .unset, .unset, .unset] [(.int (1 : Int32)), (.ref a1)])) (fun t9 k9 => XS.iconst X2.here hx rfl (hb hby d1_10) k9) ?_
  refine own_st (T' := T2) (g' := (mkF m 13 #[.val (.ref a1), .val (.ref a2), .val (.int p2), .unset, .unset, .unset] [(.int (32 : Int32)), (.int (1 : Int32)), (.ref a1)])) (fun t9 k9 => XS.bipush X2.here hx rfl (hb hby d1_11) k9) ?_
  refine own_st (T' := T2) (g' := (mkF m 14 #[.val (.ref a1), .val (.ref a2), .val (.int p2), .unset, .unset, .unset] [(.int p2), (.int (32 : Int32)), (.int (1 : Int32)), (.ref a1)])) (fun t9 k9 => XS.iloadN X2.here hx rfl (hb hby d1_13) rfl k9) ?_
  obtain ⟨_, _, ⟨T9, L9, k9, n9⟩, -, X9, ⟨Lc9, hQ9, l9, y9, z9⟩, st9⟩ := Jvm.LawKit.callS X2 hx (y := (⟨"java/lang/Integer", "numberOfLeadingZeros", "(I)I"⟩ : MethodName)) hown (mvT hZ (hw _ (List.mem_of_getElem? (i := 13) rfl))) (mvT hZ (hw _ (List.mem_of_getElem? (i := 14) rfl))) (mvT hZ (hw _ (List.mem_of_getElem? (i := 15) rfl))) (mvT hZ (hw _ (List.mem_of_getElem? (i := 16) rfl))) (by decide) (own_back (W := 3) (rm3 l Z a0 hw p2 h2 n0 Z2 hr) hZ (hw _ (List.mem_of_getElem? (i := 16) rfl)) (hw _ (List.mem_of_getElem? (i := 15) rfl)) (by decide) (by decide)) (g := (mkF m 14 #[.val (.ref a1), .val (.ref a2), .val (.int p2), .unset, .unset, .unset] [(.int p2), (.int (32 : Int32)), (.int (1 : Int32)), (.ref a1)])) rfl (by rw [hml]; rfl) (argsL := [(.int p2)]) (rest := [(.int (32 : Int32)), (.int (1 : Int32)), (.ref a1)]) (lenOf pd_2 rfl) rfl (by show 2 * 0 + _ ≤ _; exact Nat.le_of_eq rfl) (hb hby d1_14) (fun _ _ => ⟨rfl, e2, (Nat.le_of_ble_eq_true rfl), (Nat.le_of_ble_eq_true rfl)⟩)
  dsimp only [Pt.U, Pt.locs, Pt.cells, Pt.slots] at X9 l9 y9 z9 st9 hQ9
  subst l9 y9 z9
  obtain ⟨z9, rfl, Nq9, he9, hz9⟩ := hQ9
  have N9 := Fr.app N2 Nq9
  have e9 : T9.heap = h2 := he9
  refine own_st (T' := T9) (g' := (mkF m 17 #[.val (.ref a1), .val (.ref a2), .val (.int p2), .unset, .unset, .unset] [(.int z9), (.int (32 : Int32)), (.int (1 : Int32)), (.ref a1)])) (fun t9 k9 => st9 t9 k9) ?_
  refine own_st (T' := T9) (g' := (mkF m 18 #[.val (.ref a1), .val (.ref a2), .val (.int p2), .unset, .unset, .unset] [(.int ((32 : Int32) - z9)), (.int (1 : Int32)), (.ref a1)])) (fun t9 k9 => XS.isub X9.here hx rfl (hb hby d1_17) rfl k9) ?_
  obtain ⟨_, _, ⟨T10, L10, k10, n10⟩, -, X10, ⟨Lc10, hQ10, l10, y10, z10⟩, st10⟩ := Jvm.LawKit.callS X9 hx (y := (⟨"java/lang/Math", "max", "(II)I"⟩ : MethodName)) hown (mvT hZ (hw _ (List.mem_of_getElem? (i := 17) rfl))) (mvT hZ (hw _ (List.mem_of_getElem? (i := 18) rfl))) (mvT hZ (hw _ (List.mem_of_getElem? (i := 19) rfl))) (mvT hZ (hw _ (List.mem_of_getElem? (i := 20) rfl))) (by decide) (own_back (W := 1) (rm4 l Z a0 hw (1 : Int32) ((32 : Int32) - z9) h2 n0 Z2) hZ (hw _ (List.mem_of_getElem? (i := 20) rfl)) (hw _ (List.mem_of_getElem? (i := 19) rfl)) (by decide) (by decide)) (g := (mkF m 18 #[.val (.ref a1), .val (.ref a2), .val (.int p2), .unset, .unset, .unset] [(.int ((32 : Int32) - z9)), (.int (1 : Int32)), (.ref a1)])) rfl (by rw [hml]; rfl) (argsL := [(.int (1 : Int32)), (.int ((32 : Int32) - z9))]) (rest := [(.ref a1)]) (lenOf pd_3 rfl) rfl (by show 2 * 0 + _ ≤ _; exact Nat.le_of_eq rfl) (hb hby d1_18) (fun _ _ => ⟨rfl, e9, (Nat.le_of_ble_eq_true rfl), (Nat.le_of_ble_eq_true rfl)⟩)
  dsimp only [Pt.U, Pt.locs, Pt.cells, Pt.slots] at X10 l10 y10 z10 st10 hQ10
  subst l10 y10 z10
  obtain ⟨z10, rfl, Nq10, he10, hz10⟩ := hQ10
  have N10 := Fr.app N9 Nq10
  have e10 : T10.heap = h2 := he10
  refine own_st (T' := T10) (g' := (mkF m 21 #[.val (.ref a1), .val (.ref a2), .val (.int p2), .unset, .unset, .unset] [(.int z10), (.ref a1)])) (fun t9 k9 => st10 t9 k9) ?_
  have hy10 := own_lev hr hz9 hz10
  rw [elv] at hy10
  subst hy10
  show own_Go p e below F T10 (mkF m 21 #[.val (.ref a1), .val (.ref a2), .val (.int p2), .unset, .unset, .unset] [(.int (Int32.ofNat lv)), (.ref a1)])
  obtain ⟨T11, h11, X11, e11, W11, st11⟩ := putF X10 hx hZ hown (host := "") (Or.inl (hw _ (List.mem_of_getElem? (i := 21) rfl))) Via.refl e10 U2_5 E1_3 (Or.inr ⟨(hw _ (List.mem_of_getElem? (i := 22) rfl)), rfl, hnm⟩) (hw _ (List.mem_of_getElem? (i := 3) rfl)) (ty := .int) (by decide) rfl rfl (g := (mkF m 21 #[.val (.ref a1), .val (.ref a2), .val (.int p2), .unset, .unset, .unset] [(.int (Int32.ofNat lv)), (.ref a1)])) rfl rfl (hb hby d1_21)
  have Fw11 := U2_5.same W11
  have E1_12 := E1_3.wr W11
  have V2_13 := V2_4.other W11 hne
  have Fw2_14 := Fw2.other W11 (Or.inr (slot_ne (Or.inr (hw _ (List.mem_of_getElem? (i := 12) rfl))) (Or.inr (hw _ (List.mem_of_getElem? (i := 22) rfl))) (by decide) (t := .int) (t' := .int) (by decide) (by decide)))
  have U3_15 := U3_6.other W11 (Or.inr (slot_ne (Or.inr (hw _ (List.mem_of_getElem? (i := 27) rfl))) (Or.inr (hw _ (List.mem_of_getElem? (i := 22) rfl))) (by decide) (t := (.array (.array .long))) (t' := .int) (by decide) (by decide)))
  have U4_16 := U4_7.other W11 (Or.inr (slot_ne (Or.inr (hw _ (List.mem_of_getElem? (i := 31) rfl))) (Or.inr (hw _ (List.mem_of_getElem? (i := 22) rfl))) (by decide) (t := (.array (.array .int))) (t' := .int) (by decide) (by decide)))
  have U5_17 := U5_8.other W11 (Or.inr (slot_ne (Or.inr (hw _ (List.mem_of_getElem? (i := 33) rfl))) (Or.inr (hw _ (List.mem_of_getElem? (i := 22) rfl))) (by decide) (t := (.array .int)) (t' := .int) (by decide) (by decide)))
  have K11 := K2.wr W11 (Or.inl (by simp))
  have N11 := Fr.snoc X11 N10 g_a1
  have Z11 : n0 ≤ h11.size := by rw [W11.size]; exact Z2
  refine own_st (T' := T11) (g' := (mkF m 24 #[.val (.ref a1), .val (.ref a2), .val (.int p2), .unset, .unset, .unset] [])) (fun t9 k9 => st11 t9 k9) ?_
  refine own_st (T' := T11) (g' := (mkF m 25 #[.val (.ref a1), .val (.ref a2), .val (.int p2), .unset, .unset, .unset] [(.ref a2)])) (fun t9 k9 => XS.aloadN X11.here hx rfl (hb hby d1_24) rfl rfl k9) ?_
  obtain ⟨clu18, Aru18, qu18, Su18, Nu18, Hu18, Gu18⟩ := (id V2_13)
  refine own_st (T' := T11) (g' := (mkF m 26 #[.val (.ref a1), .val (.ref a2), .val (.int p2), .unset, .unset, .unset] [(.int (Int32.ofNat ln))])) (fun t9 k9 => X11.arraylength hx (by rw [e11]; exact Aru18.1) (State.isArrayOf_alike hZ.alike Aru18.2.1) (g := (mkF m 25 #[.val (.ref a1), .val (.ref a2), .val (.int p2), .unset, .unset, .unset] [(.ref a2)])) rfl rfl (hb hby d1_25) t9 (by rw [len_of Su18 Nu18]; exact k9)) ?_
  refine own_st (T' := T11) (g' := (mkF m 28 #[.val (.ref a1), .val (.ref a2), .val (.int p2), .unset, .unset, .unset] [(.int (6 : Int32)), (.int (Int32.ofNat ln))])) (fun t9 k9 => XS.bipush X11.here hx rfl (hb hby d1_26) k9) ?_
  refine own_st (T' := T11) (g' := (mkF m 29 #[.val (.ref a1), .val (.ref a2), .val (.int p2), .unset, .unset, .unset] [(.int (((Int32.ofNat ln).toUInt32 >>> ((6 : Int32) &&& 31).toUInt32).toInt32))])) (fun t9 k9 => XS.iushr X11.here hx rfl (hb hby d1_28) rfl k9) ?_
  refine own_st (T' := T11) (g' := (mkF m 30 #[.val (.ref a1), .val (.ref a2), .val (.int p2), .unset, .unset, .unset] [(.int (1 : Int32)), (.int (((Int32.ofNat ln).toUInt32 >>> ((6 : Int32) &&& 31).toUInt32).toInt32))])) (fun t9 k9 => XS.iconst X11.here hx rfl (hb hby d1_29) k9) ?_
  refine own_st (T' := T11) (g' := (mkF m 31 #[.val (.ref a1), .val (.ref a2), .val (.int p2), .unset, .unset, .unset] [(.int ((((Int32.ofNat ln).toUInt32 >>> ((6 : Int32) &&& 31).toUInt32).toInt32) + (1 : Int32)))])) (fun t9 k9 => XS.iadd X11.here hx rfl (hb hby d1_30) rfl k9) ?_
  rw [hN.words]
  refine own_st (T' := T11) (g' := (mkF m 32 #[.val (.ref a1), .val (.ref a2), .val (.int p2), .val (.int (Int32.ofNat wn)), .unset, .unset] [])) (fun t9 k9 => XS.istoreN X11.here hx rfl (hb hby d1_31) rfl (l' := #[.val (.ref a1), .val (.ref a2), .val (.int p2), .val (.int (Int32.ofNat wn)), .unset, .unset]) rfl k9) ?_
  refine own_st (T' := T11) (g' := (mkF m 33 #[.val (.ref a1), .val (.ref a2), .val (.int p2), .val (.int (Int32.ofNat wn)), .unset, .unset] [(.ref a1)])) (fun t9 k9 => XS.aloadN X11.here hx rfl (hb hby d1_32) rfl rfl k9) ?_
  refine own_st (T' := T11) (g' := (mkF m 34 #[.val (.ref a1), .val (.ref a2), .val (.int p2), .val (.int (Int32.ofNat wn)), .unset, .unset] [(.ref a1), (.ref a1)])) (fun t9 k9 => XS.aloadN X11.here hx rfl (hb hby d1_33) rfl rfl k9) ?_
  obtain ⟨T19, X19, e19, st19⟩ := getF X11 hx hZ hown (host := "") (Or.inl (hw _ (List.mem_of_getElem? (i := 21) rfl))) Via.refl e11 Fw11 (g := (mkF m 34 #[.val (.ref a1), .val (.ref a2), .val (.int p2), .val (.int (Int32.ofNat wn)), .unset, .unset] [(.ref a1), (.ref a1)])) rfl rfl (hb hby d1_34)
  refine own_st (T' := T19) (g' := (mkF m 37 #[.val (.ref a1), .val (.ref a2), .val (.int p2), .val (.int (Int32.ofNat wn)), .unset, .unset] [(.int (Int32.ofNat lv)), (.ref a1)])) (fun t9 k9 => st19 t9 k9) ?_
  refine own_st (T' := T19) (g' := (mkF m 38 #[.val (.ref a1), .val (.ref a2), .val (.int p2), .val (.int (Int32.ofNat wn)), .unset, .unset] [(.int (Int32.ofNat wn)), (.int (Int32.ofNat lv)), (.ref a1)])) (fun t9 k9 => XS.iloadN X19.here hx rfl (hb hby d1_37) rfl k9) ?_
  have la1 := E1_12.lt
  have hH0 := K11.1
  have lta1 : a1 < h11.size := E1_12.lt
  obtain ⟨T20, h20, cA20, cB20, X20, e20, Ex20, V20, -, -, G20, st20⟩ := gridM X19 hx hZ hown (C := "[J") (ad := "[[J") (ty := .long) (by decide +kernel) (by decide +kernel) (hw _ (List.mem_of_getElem? (i := 23) rfl)) (hw _ (List.mem_of_getElem? (i := 24) rfl)) (hw _ (List.mem_of_getElem? (i := 25) rfl)) e19 (g := (mkF m 38 #[.val (.ref a1), .val (.ref a2), .val (.int p2), .val (.int (Int32.ofNat wn)), .unset, .unset] [(.int (Int32.ofNat wn)), (.int (Int32.ofNat lv)), (.ref a1)])) rfl (hb hby d1_38) rfl l2 v2 (N := lv) l1 rfl (cap := 2) (by rw [v1]; exact hw2) (by decide) (by omega) (by decide) (by decide) (by show _ ≤ 100; omega) (by show _ ≤ 2336; omega)
  obtain ⟨b20, gb20⟩ : ∃ z, z = h11.size := ⟨_, rfl⟩
  have ne_a1_b20 : a1 ≠ b20 := own_ne gb20 E1_12.lt
  have ne_a2_b20 : a2 ≠ b20 := own_ne gb20 V2_13.lt
  have g_b20 : n0 ≤ b20 := gb20 ▸ Z11
  have sz_b20 : h0.size ≤ b20 := gb20 ▸ K11.1
  rw [← gb20] at V20 G20 st20
  have E1_21 := E1_12.ext Ex20
  have V2_22 := V2_13.ext Ex20
  have Fw2_23 := Fw2_14.ext Ex20
  have Fw11_24 := Fw11.ext Ex20
  have U3_25 := U3_15.ext Ex20
  have U4_26 := U4_16.ext Ex20
  have U5_27 := U5_17.ext Ex20
  have K20 := K11.ext Ex20
  have Z20 : n0 ≤ h20.size := Nat.le_trans Z11 Ex20.1
  have O20 : Arv Z h20 b20 cA20 (.array .long) (Int32.ofNat lv) ((own_xs b20 lv).map Value.ref) .null := V20
  have R20 : own_Rows Z h20 b20 lv .long wn (.long 0) 0 := fun i hi => ⟨cB20, List.replicate wn (.long 0), List.length_replicate, fun _ => rfl, (Arv.new (G20 i _ (own_xsI hi)).1 v2).pad (pad_rep [] _ wn)⟩
  have M20 := X20.more (cells' := 33) (slots' := 96) (by omega) (by omega)
  have sz20 : b20 + lv < h20.size := R20.size hl1
  refine own_st (T' := T20) (g' := (mkF m 42 #[.val (.ref a1), .val (.ref a2), .val (.int p2), .val (.int (Int32.ofNat wn)), .unset, .unset] [(.ref b20), (.ref a1)])) (fun t9 k9 => st20 t9 k9) ?_
  have oa : a1 < b20 := by rw [gb20]; exact lta1
  obtain ⟨T28, h28, X28, e28, W28, st28⟩ := putF M20 hx hZ hown (host := "") (Or.inl (hw _ (List.mem_of_getElem? (i := 26) rfl))) Via.refl e20 U3_25 E1_21 (Or.inr ⟨(hw _ (List.mem_of_getElem? (i := 27) rfl)), rfl, hnm⟩) (hw _ (List.mem_of_getElem? (i := 3) rfl)) (ty := (.array (.array .long))) (by decide) rfl rfl (g := (mkF m 42 #[.val (.ref a1), .val (.ref a2), .val (.int p2), .val (.int (Int32.ofNat wn)), .unset, .unset] [(.ref b20), (.ref a1)])) rfl rfl (hb hby d1_42)
  have Fw28 := U3_25.same W28
  have E1_29 := E1_21.wr W28
  have V2_30 := V2_22.other W28 hne
  have Fw2_31 := Fw2_23.other W28 (Or.inr (slot_ne (Or.inr (hw _ (List.mem_of_getElem? (i := 12) rfl))) (Or.inr (hw _ (List.mem_of_getElem? (i := 27) rfl))) (by decide) (t := .int) (t' := (.array (.array .long))) (by decide) (by decide)))
  have Fw11_32 := Fw11_24.other W28 (Or.inr (slot_ne (Or.inr (hw _ (List.mem_of_getElem? (i := 22) rfl))) (Or.inr (hw _ (List.mem_of_getElem? (i := 27) rfl))) (by decide) (t := .int) (t' := (.array (.array .long))) (by decide) (by decide)))
  have U4_33 := U4_26.other W28 (Or.inr (slot_ne (Or.inr (hw _ (List.mem_of_getElem? (i := 31) rfl))) (Or.inr (hw _ (List.mem_of_getElem? (i := 27) rfl))) (by decide) (t := (.array (.array .int))) (t' := (.array (.array .long))) (by decide) (by decide)))
  have U5_34 := U5_27.other W28 (Or.inr (slot_ne (Or.inr (hw _ (List.mem_of_getElem? (i := 33) rfl))) (Or.inr (hw _ (List.mem_of_getElem? (i := 27) rfl))) (by decide) (t := (.array .int)) (t' := (.array (.array .long))) (by decide) (by decide)))
  have O20_35 := O20.other W28 (Ne.symm ne_a1_b20)
  have R20_36 := R20.other W28 (fun i hi q => by omega)
  have K28 := K20.wr W28 (Or.inl (by simp))
  have N28 := Fr.snoc X28 N11 g_a1
  have Z28 : n0 ≤ h28.size := by rw [W28.size]; exact Z20
  refine own_st (T' := T28) (g' := (mkF m 45 #[.val (.ref a1), .val (.ref a2), .val (.int p2), .val (.int (Int32.ofNat wn)), .unset, .unset] [])) (fun t9 k9 => st28 t9 k9) ?_
  refine own_st (T' := T28) (g' := (mkF m 46 #[.val (.ref a1), .val (.ref a2), .val (.int p2), .val (.int (Int32.ofNat wn)), .unset, .unset] [(.ref a1)])) (fun t9 k9 => XS.aloadN X28.here hx rfl (hb hby d1_45) rfl rfl k9) ?_
  refine own_st (T' := T28) (g' := (mkF m 47 #[.val (.ref a1), .val (.ref a2), .val (.int p2), .val (.int (Int32.ofNat wn)), .unset, .unset] [(.ref a1), (.ref a1)])) (fun t9 k9 => XS.aloadN X28.here hx rfl (hb hby d1_46) rfl rfl k9) ?_
  obtain ⟨T37, X37, e37, st37⟩ := getF X28 hx hZ hown (host := "") (Or.inl (hw _ (List.mem_of_getElem? (i := 21) rfl))) Via.refl e28 Fw11_32 (g := (mkF m 47 #[.val (.ref a1), .val (.ref a2), .val (.int p2), .val (.int (Int32.ofNat wn)), .unset, .unset] [(.ref a1), (.ref a1)])) rfl rfl (hb hby d1_47)
  refine own_st (T' := T37) (g' := (mkF m 50 #[.val (.ref a1), .val (.ref a2), .val (.int p2), .val (.int (Int32.ofNat wn)), .unset, .unset] [(.int (Int32.ofNat lv)), (.ref a1)])) (fun t9 k9 => st37 t9 k9) ?_
  refine own_st (T' := T37) (g' := (mkF m 51 #[.val (.ref a1), .val (.ref a2), .val (.int p2), .val (.int (Int32.ofNat wn)), .unset, .unset] [(.int (Int32.ofNat wn)), (.int (Int32.ofNat lv)), (.ref a1)])) (fun t9 k9 => XS.iloadN X37.here hx rfl (hb hby d1_50) rfl k9) ?_
  have sza : b20 + lv < h28.size := R20_36.size hl1
  obtain ⟨T38, h38, cA38, cB38, X38, e38, Ex38, V38, -, -, G38, st38⟩ := gridM X37 hx hZ hown (C := "[I") (ad := "[[I") (ty := .int) (by decide +kernel) (by decide +kernel) (hw _ (List.mem_of_getElem? (i := 28) rfl)) (hw _ (List.mem_of_getElem? (i := 29) rfl)) (hw _ (List.mem_of_getElem? (i := 1) rfl)) e37 (g := (mkF m 51 #[.val (.ref a1), .val (.ref a2), .val (.int p2), .val (.int (Int32.ofNat wn)), .unset, .unset] [(.int (Int32.ofNat wn)), (.int (Int32.ofNat lv)), (.ref a1)])) rfl (hb hby d1_51) rfl l2 v2 (N := lv) l1 rfl (cap := 2) (by rw [v1]; exact hw2) (by decide) (by omega) (by decide) (by decide) (by show _ ≤ 100; omega) (by show _ ≤ 2336; omega)
  obtain ⟨b38, gb38⟩ : ∃ z, z = h28.size := ⟨_, rfl⟩
  have ne_a1_b38 : a1 ≠ b38 := own_ne gb38 E1_29.lt
  have ne_a2_b38 : a2 ≠ b38 := own_ne gb38 V2_30.lt
  have ne_b20_b38 : b20 ≠ b38 := own_ne gb38 O20_35.lt
  have g_b38 : n0 ≤ b38 := gb38 ▸ Z28
  have sz_b38 : h0.size ≤ b38 := gb38 ▸ K28.1
  rw [← gb38] at V38 G38 st38
  have E1_39 := E1_29.ext Ex38
  have V2_40 := V2_30.ext Ex38
  have Fw2_41 := Fw2_31.ext Ex38
  have Fw11_42 := Fw11_32.ext Ex38
  have Fw28_43 := Fw28.ext Ex38
  have U4_44 := U4_33.ext Ex38
  have U5_45 := U5_34.ext Ex38
  have O20_46 := O20_35.ext Ex38
  have R20_47 := R20_36.ext Ex38
  have K38 := K28.ext Ex38
  have Z38 : n0 ≤ h38.size := Nat.le_trans Z28 Ex38.1
  have O38 : Arv Z h38 b38 cA38 (.array .int) (Int32.ofNat lv) ((own_xs b38 lv).map Value.ref) .null := V38
  have R38 : own_Rows Z h38 b38 lv .int wn (.int 0) 0 := fun i hi => ⟨cB38, List.replicate wn (.int 0), List.length_replicate, fun _ => rfl, (Arv.new (G38 i _ (own_xsI hi)).1 v2).pad (pad_rep [] _ wn)⟩
  have M38 := X38.more (cells' := 66) (slots' := 192) (by omega) (by omega)
  have sz38 : b38 + lv < h38.size := R38.size hl1
  refine own_st (T' := T38) (g' := (mkF m 55 #[.val (.ref a1), .val (.ref a2), .val (.int p2), .val (.int (Int32.ofNat wn)), .unset, .unset] [(.ref b38), (.ref a1)])) (fun t9 k9 => st38 t9 k9) ?_
  have oo : b20 + lv < b38 := by rw [gb38]; exact sza
  obtain ⟨T48, h48, X48, e48, W48, st48⟩ := putF M38 hx hZ hown (host := "") (Or.inl (hw _ (List.mem_of_getElem? (i := 30) rfl))) Via.refl e38 U4_44 E1_39 (Or.inr ⟨(hw _ (List.mem_of_getElem? (i := 31) rfl)), rfl, hnm⟩) (hw _ (List.mem_of_getElem? (i := 3) rfl)) (ty := (.array (.array .int))) (by decide) rfl rfl (g := (mkF m 55 #[.val (.ref a1), .val (.ref a2), .val (.int p2), .val (.int (Int32.ofNat wn)), .unset, .unset] [(.ref b38), (.ref a1)])) rfl rfl (hb hby d1_55)
  have Fw48 := U4_44.same W48
  have E1_49 := E1_39.wr W48
  have V2_50 := V2_40.other W48 hne
  have Fw2_51 := Fw2_41.other W48 (Or.inr (slot_ne (Or.inr (hw _ (List.mem_of_getElem? (i := 12) rfl))) (Or.inr (hw _ (List.mem_of_getElem? (i := 31) rfl))) (by decide) (t := .int) (t' := (.array (.array .int))) (by decide) (by decide)))
  have Fw11_52 := Fw11_42.other W48 (Or.inr (slot_ne (Or.inr (hw _ (List.mem_of_getElem? (i := 22) rfl))) (Or.inr (hw _ (List.mem_of_getElem? (i := 31) rfl))) (by decide) (t := .int) (t' := (.array (.array .int))) (by decide) (by decide)))
  have Fw28_53 := Fw28_43.other W48 (Or.inr (slot_ne (Or.inr (hw _ (List.mem_of_getElem? (i := 27) rfl))) (Or.inr (hw _ (List.mem_of_getElem? (i := 31) rfl))) (by decide) (t := (.array (.array .long))) (t' := (.array (.array .int))) (by decide) (by decide)))
  have U5_54 := U5_45.other W48 (Or.inr (slot_ne (Or.inr (hw _ (List.mem_of_getElem? (i := 33) rfl))) (Or.inr (hw _ (List.mem_of_getElem? (i := 31) rfl))) (by decide) (t := (.array .int)) (t' := (.array (.array .int))) (by decide) (by decide)))
  have O20_55 := O20_46.other W48 (Ne.symm ne_a1_b20)
  have R20_56 := R20_47.other W48 (fun i hi q => by omega)
  have O38_57 := O38.other W48 (Ne.symm ne_a1_b38)
  have R38_58 := R38.other W48 (fun i hi q => by omega)
  have K48 := K38.wr W48 (Or.inl (by simp))
  have N48 := Fr.snoc X48 N28 g_a1
  have Z48 : n0 ≤ h48.size := by rw [W48.size]; exact Z38
  refine own_st (T' := T48) (g' := (mkF m 58 #[.val (.ref a1), .val (.ref a2), .val (.int p2), .val (.int (Int32.ofNat wn)), .unset, .unset] [])) (fun t9 k9 => st48 t9 k9) ?_
  refine own_st (T' := T48) (g' := (mkF m 59 #[.val (.ref a1), .val (.ref a2), .val (.int p2), .val (.int (Int32.ofNat wn)), .unset, .unset] [(.ref a1)])) (fun t9 k9 => XS.aloadN X48.here hx rfl (hb hby d1_58) rfl rfl k9) ?_
  refine own_st (T' := T48) (g' := (mkF m 60 #[.val (.ref a1), .val (.ref a2), .val (.int p2), .val (.int (Int32.ofNat wn)), .unset, .unset] [(.ref a1), (.ref a1)])) (fun t9 k9 => XS.aloadN X48.here hx rfl (hb hby d1_59) rfl rfl k9) ?_
  obtain ⟨T59, X59, e59, st59⟩ := getF X48 hx hZ hown (host := "") (Or.inl (hw _ (List.mem_of_getElem? (i := 21) rfl))) Via.refl e48 Fw11_52 (g := (mkF m 60 #[.val (.ref a1), .val (.ref a2), .val (.int p2), .val (.int (Int32.ofNat wn)), .unset, .unset] [(.ref a1), (.ref a1)])) rfl rfl (hb hby d1_60)
  refine own_st (T' := T59) (g' := (mkF m 63 #[.val (.ref a1), .val (.ref a2), .val (.int p2), .val (.int (Int32.ofNat wn)), .unset, .unset] [(.int (Int32.ofNat lv)), (.ref a1)])) (fun t9 k9 => st59 t9 k9) ?_
  have szo : b38 + lv < h48.size := R38_58.size hl1
  obtain ⟨T60, h60, k60, X60, e60, Ex60, A60, st60⟩ := newP X59 hx hZ (hw _ (List.mem_of_getElem? (i := 1) rfl)) e59 (g := (mkF m 63 #[.val (.ref a1), .val (.ref a2), .val (.int p2), .val (.int (Int32.ofNat wn)), .unset, .unset] [(.int (Int32.ofNat lv)), (.ref a1)])) rfl (hb hby d1_63) rfl l2 (cap := 32) (by rw [l1]; exact hlv) (by decide) (by decide) (by decide)
  obtain ⟨b60, gb60⟩ : ∃ z, z = h48.size := ⟨_, rfl⟩
  have ne_a1_b60 : a1 ≠ b60 := own_ne gb60 E1_49.lt
  have ne_a2_b60 : a2 ≠ b60 := own_ne gb60 V2_50.lt
  have ne_b20_b60 : b20 ≠ b60 := own_ne gb60 O20_55.lt
  have ne_b38_b60 : b38 ≠ b60 := own_ne gb60 O38_57.lt
  have g_b60 : n0 ≤ b60 := gb60 ▸ Z48
  have sz_b60 : h0.size ≤ b60 := gb60 ▸ K48.1
  rw [← gb60] at A60 st60
  have E1_61 := E1_49.ext Ex60
  have V2_62 := V2_50.ext Ex60
  have Fw2_63 := Fw2_51.ext Ex60
  have Fw11_64 := Fw11_52.ext Ex60
  have Fw28_65 := Fw28_53.ext Ex60
  have Fw48_66 := Fw48.ext Ex60
  have U5_67 := U5_54.ext Ex60
  have O20_68 := O20_55.ext Ex60
  have R20_69 := R20_56.ext Ex60
  have O38_70 := O38_57.ext Ex60
  have R38_71 := R38_58.ext Ex60
  have K60 := K48.ext Ex60
  have Z60 : n0 ≤ h60.size := Nat.le_trans Z48 Ex60.1
  have V_b60 : Arv Z h60 b60 k60 .int (Int32.ofNat lv) [] (.int (0 : Int32)) := Arv.new A60 l2
  refine own_st (T' := T60) (g' := (mkF m 65 #[.val (.ref a1), .val (.ref a2), .val (.int p2), .val (.int (Int32.ofNat wn)), .unset, .unset] [(.ref b60), (.ref a1)])) (fun t9 k9 => st60 t9 k9) ?_
  have oz : b38 + lv < b60 := by rw [gb60]; exact szo
  have Vz : Arv Z h60 b60 k60 .int (Int32.ofNat lv) (List.replicate lv (.int 0)) (.int 0) := V_b60.pad (pad_rep [] (.int 0) lv)
  obtain ⟨T72, h72, X72, e72, W72, st72⟩ := putF X60 hx hZ hown (host := "") (Or.inl (hw _ (List.mem_of_getElem? (i := 32) rfl))) Via.refl e60 U5_67 E1_61 (Or.inr ⟨(hw _ (List.mem_of_getElem? (i := 33) rfl)), rfl, hnm⟩) (hw _ (List.mem_of_getElem? (i := 3) rfl)) (ty := (.array .int)) (by decide) rfl rfl (g := (mkF m 65 #[.val (.ref a1), .val (.ref a2), .val (.int p2), .val (.int (Int32.ofNat wn)), .unset, .unset] [(.ref b60), (.ref a1)])) rfl rfl (hb hby d1_65)
  have Fw72 := U5_67.same W72
  have E1_73 := E1_61.wr W72
  have V2_74 := V2_62.other W72 hne
  have Fw2_75 := Fw2_63.other W72 (Or.inr (slot_ne (Or.inr (hw _ (List.mem_of_getElem? (i := 12) rfl))) (Or.inr (hw _ (List.mem_of_getElem? (i := 33) rfl))) (by decide) (t := .int) (t' := (.array .int)) (by decide) (by decide)))
  have Fw11_76 := Fw11_64.other W72 (Or.inr (slot_ne (Or.inr (hw _ (List.mem_of_getElem? (i := 22) rfl))) (Or.inr (hw _ (List.mem_of_getElem? (i := 33) rfl))) (by decide) (t := .int) (t' := (.array .int)) (by decide) (by decide)))
  have Fw28_77 := Fw28_65.other W72 (Or.inr (slot_ne (Or.inr (hw _ (List.mem_of_getElem? (i := 27) rfl))) (Or.inr (hw _ (List.mem_of_getElem? (i := 33) rfl))) (by decide) (t := (.array (.array .long))) (t' := (.array .int)) (by decide) (by decide)))
  have Fw48_78 := Fw48_66.other W72 (Or.inr (slot_ne (Or.inr (hw _ (List.mem_of_getElem? (i := 31) rfl))) (Or.inr (hw _ (List.mem_of_getElem? (i := 33) rfl))) (by decide) (t := (.array (.array .int))) (t' := (.array .int)) (by decide) (by decide)))
  have O20_79 := O20_68.other W72 (Ne.symm ne_a1_b20)
  have R20_80 := R20_69.other W72 (fun i hi q => by omega)
  have O38_81 := O38_70.other W72 (Ne.symm ne_a1_b38)
  have R38_82 := R38_71.other W72 (fun i hi q => by omega)
  have Vz_83 := Vz.other W72 (Ne.symm ne_a1_b60)
  have K72 := K60.wr W72 (Or.inl (by simp))
  have N72 := Fr.snoc X72 N48 g_a1
  have Z72 : n0 ≤ h72.size := by rw [W72.size]; exact Z60
  refine own_st (T' := T72) (g' := (mkF m 68 #[.val (.ref a1), .val (.ref a2), .val (.int p2), .val (.int (Int32.ofNat wn)), .unset, .unset] [])) (fun t9 k9 => st72 t9 k9) ?_
  refine own_st (T' := T72) (g' := (mkF m 69 #[.val (.ref a1), .val (.ref a2), .val (.int p2), .val (.int (Int32.ofNat wn)), .unset, .unset] [(.ref a2)])) (fun t9 k9 => XS.aloadN X72.here hx rfl (hb hby d1_68) rfl rfl k9) ?_
  obtain ⟨clu84, Aru84, qu84, Su84, Nu84, Hu84, Gu84⟩ := (id V2_74)
  refine own_st (T' := T72) (g' := (mkF m 70 #[.val (.ref a1), .val (.ref a2), .val (.int p2), .val (.int (Int32.ofNat wn)), .unset, .unset] [(.int (Int32.ofNat ln))])) (fun t9 k9 => X72.arraylength hx (by rw [e72]; exact Aru84.1) (State.isArrayOf_alike hZ.alike Aru84.2.1) (g := (mkF m 69 #[.val (.ref a1), .val (.ref a2), .val (.int p2), .val (.int (Int32.ofNat wn)), .unset, .unset] [(.ref a2)])) rfl rfl (hb hby d1_69) t9 (by rw [len_of Su84 Nu84]; exact k9)) ?_
  have szz : b60 < h72.size := Vz_83.lt
  obtain ⟨T85, h85, k85, X85, e85, Ex85, A85, st85⟩ := newP X72 hx hZ (hw _ (List.mem_of_getElem? (i := 1) rfl)) e72 (g := (mkF m 70 #[.val (.ref a1), .val (.ref a2), .val (.int p2), .val (.int (Int32.ofNat wn)), .unset, .unset] [(.int (Int32.ofNat ln))])) rfl (hb hby d1_70) rfl t2 (cap := 64) (by rw [t1]; exact hn64) (by decide) (by decide) (by decide)
  obtain ⟨b85, gb85⟩ : ∃ z, z = h72.size := ⟨_, rfl⟩
  have ne_a1_b85 : a1 ≠ b85 := own_ne gb85 E1_73.lt
  have ne_a2_b85 : a2 ≠ b85 := own_ne gb85 V2_74.lt
  have ne_b20_b85 : b20 ≠ b85 := own_ne gb85 O20_79.lt
  have ne_b38_b85 : b38 ≠ b85 := own_ne gb85 O38_81.lt
  have ne_b60_b85 : b60 ≠ b85 := own_ne gb85 Vz_83.lt
  have g_b85 : n0 ≤ b85 := gb85 ▸ Z72
  have sz_b85 : h0.size ≤ b85 := gb85 ▸ K72.1
  rw [← gb85] at A85 st85
  have E1_86 := E1_73.ext Ex85
  have V2_87 := V2_74.ext Ex85
  have Fw2_88 := Fw2_75.ext Ex85
  have Fw11_89 := Fw11_76.ext Ex85
  have Fw28_90 := Fw28_77.ext Ex85
  have Fw48_91 := Fw48_78.ext Ex85
  have Fw72_92 := Fw72.ext Ex85
  have O20_93 := O20_79.ext Ex85
  have R20_94 := R20_80.ext Ex85
  have O38_95 := O38_81.ext Ex85
  have R38_96 := R38_82.ext Ex85
  have Vz_97 := Vz_83.ext Ex85
  have K85 := K72.ext Ex85
  have Z85 : n0 ≤ h85.size := Nat.le_trans Z72 Ex85.1
  have V_b85 : Arv Z h85 b85 k85 .int (Int32.ofNat ln) [] (.int (0 : Int32)) := Arv.new A85 t2
  refine own_st (T' := T85) (g' := (mkF m 72 #[.val (.ref a1), .val (.ref a2), .val (.int p2), .val (.int (Int32.ofNat wn)), .unset, .unset] [(.ref b85)])) (fun t9 k9 => st85 t9 k9) ?_
  have ou : b60 < b85 := by rw [gb85]; exact szz
  have Vn : Arv Z h85 b85 k85 .int (Int32.ofNat ln) (List.replicate ln (.int 0)) (.int 0) := V_b85.pad (pad_rep [] (.int 0) ln)
  refine own_st (T' := T85) (g' := (mkF m 74 #[.val (.ref a1), .val (.ref a2), .val (.int p2), .val (.int (Int32.ofNat wn)), .val (.ref b85), .unset] [])) (fun t9 k9 => XS.astore X85.here hx rfl (hb hby d1_72) rfl rfl (l' := #[.val (.ref a1), .val (.ref a2), .val (.int p2), .val (.int (Int32.ofNat wn)), .val (.ref b85), .unset]) rfl k9) ?_
  refine own_st (T' := T85) (g' := (mkF m 75 #[.val (.ref a1), .val (.ref a2), .val (.int p2), .val (.int (Int32.ofNat wn)), .val (.ref b85), .unset] [(.int (0 : Int32))])) (fun t9 k9 => XS.iconst X85.here hx rfl (hb hby d1_74) k9) ?_
  refine own_st (T' := T85) (g' := (mkF m 77 #[.val (.ref a1), .val (.ref a2), .val (.int p2), .val (.int (Int32.ofNat wn)), .val (.ref b85), .val (.int (0 : Int32))] [])) (fun t9 k9 => XS.istore X85.here hx rfl (hb hby d1_75) rfl (l' := #[.val (.ref a1), .val (.ref a2), .val (.int p2), .val (.int (Int32.ofNat wn)), .val (.ref b85), .val (.int (0 : Int32))]) rfl k9) ?_
  have lv9 : ∀ (k : Nat) (T98 : State) (L98 : List Loc) (h98 : Heap) (j9 : Nat) (nu9 : Nat) (kn9 : ClassId) (vz9 : List Value), Stand p l e ({ frames := 2, cells := 100, slots := 2336, locals := 80 } : Room) s m #[(.ref a1), (.ref a2), (.int p2)] below meth c T98 L98 (68 + j9) (288 + 64 * j9) → T98.heap = h98 → Fr n0 L98 → (n0 ≤ h98.size) → (Keep h0 h98 [a1]) → (Exa Z h98 a1 "com/example/newsweave/newsweave/nas/PlaceRecords") → (Fld Z h98 a1 "com/example/newsweave/newsweave/nas/PlaceRecords" "levels" "I" (.int (Int32.ofNat lv))) → (Fld Z h98 a1 "com/example/newsweave/newsweave/nas/PlaceRecords" "rows" "[[J" (.ref b20)) → (Fld Z h98 a1 "com/example/newsweave/newsweave/nas/PlaceRecords" "onesBefore" "[[I" (.ref b38)) → (Fld Z h98 a1 "com/example/newsweave/newsweave/nas/PlaceRecords" "zeros" "[I" (.ref b60)) → (Arv Z h98 b20 cA20 (.array .long) (Int32.ofNat lv) ((own_xs b20 lv).map Value.ref) .null) → (Arv Z h98 b38 cA38 (.array .int) (Int32.ofNat lv) ((own_xs b38 lv).map Value.ref) .null) → (own_Rows Z h98 b20 lv .long wn (.long 0) j9) → (own_Rows Z h98 b38 lv .int wn (.int 0) lv) → (Arv Z h98 b60 k60 .int (Int32.ofNat lv) vz9 (.int 0)) → (Arv Z h98 nu9 kn9 .int (Int32.ofNat ln) (List.replicate ln (.int (own_w p2 q2))) (.int 0)) → (j9 + k = lv) → (b60 < nu9) → (vz9.length = lv) → own_Go p e below F T98 (mkF m 114 #[.val (.ref a1), .val (.ref a2), .val (.int p2), .val (.int (Int32.ofNat wn)), .val (.ref nu9), .val (.int (Int32.ofNat j9))] []) := by
    intro k
    induction k with
    | zero =>
      intro T98 L98 h98 j9 nu9 kn9 vz9 X98 e98 N98 Z98 K98 E1e Flevelse Frowse FonesBeforee Fzerose Vroe Vobe Gxe Gye Vze Vne hj9 on9 hz9
      obtain rfl : lv = j9 := by omega
      show own_Go p e below F T98 (mkF m 114 #[.val (.ref a1), .val (.ref a2), .val (.int p2), .val (.int (Int32.ofNat wn)), .val (.ref nu9), .val (.int (Int32.ofNat lv))] [])
      refine own_st (T' := T98) (g' := (mkF m 116 #[.val (.ref a1), .val (.ref a2), .val (.int p2), .val (.int (Int32.ofNat wn)), .val (.ref nu9), .val (.int (Int32.ofNat lv))] [(.int (Int32.ofNat lv))])) (fun t9 k9 => XS.iload X98.here hx rfl (hb hby d1_114) rfl k9) ?_
      refine own_st (T' := T98) (g' := (mkF m 117 #[.val (.ref a1), .val (.ref a2), .val (.int p2), .val (.int (Int32.ofNat wn)), .val (.ref nu9), .val (.int (Int32.ofNat lv))] [(.ref a1), (.int (Int32.ofNat lv))])) (fun t9 k9 => XS.aloadN X98.here hx rfl (hb hby d1_116) rfl rfl k9) ?_
      obtain ⟨T99, X99, e99, st99⟩ := getF X98 hx hZ hown (host := "") (Or.inl (hw _ (List.mem_of_getElem? (i := 21) rfl))) Via.refl e98 Flevelse (g := (mkF m 117 #[.val (.ref a1), .val (.ref a2), .val (.int p2), .val (.int (Int32.ofNat wn)), .val (.ref nu9), .val (.int (Int32.ofNat lv))] [(.ref a1), (.int (Int32.ofNat lv))])) rfl rfl (hb hby d1_117)
      refine own_st (T' := T99) (g' := (mkF m 120 #[.val (.ref a1), .val (.ref a2), .val (.int p2), .val (.int (Int32.ofNat wn)), .val (.ref nu9), .val (.int (Int32.ofNat lv))] [(.int (Int32.ofNat lv)), (.int (Int32.ofNat lv))])) (fun t9 k9 => st99 t9 k9) ?_
      refine own_st (T' := T99) (g' := (mkF m 139 #[.val (.ref a1), .val (.ref a2), .val (.int p2), .val (.int (Int32.ofNat wn)), .val (.ref nu9), .val (.int (Int32.ofNat lv))] [])) (fun t9 k9 => XS.icmpYes X99.here hx rfl (pc0 := 120) (pc' := 139) rfl (hb hby d1_120) rfl (flt (Int32.lt_irrefl)).2.1 (by decide) (by decide) k9) ?_
      refine own_ret (v := none) hF X99 (fun _ => rfl) hlk (fun fs hr => X99.returnOut hx hret (hb hby d1_139) hr) ?_ (by show _ ≤ 100; omega) (by show _ ≤ 2336; omega)
      try rw [e99]
      exact ⟨b20, b38, _, _, rfl, N98, K98, E1e, Flevelse, Frowse, FonesBeforee, Vroe, Vobe, Gxe, Gye⟩
    | succ k ih =>
      intro T98 L98 h98 j9 nu9 kn9 vz9 X98 e98 N98 Z98 K98 E1e Flevelse Frowse FonesBeforee Fzerose Vroe Vobe Gxe Gye Vze Vne hj9 on9 hz9
      refine own_st (T' := T98) (g' := (mkF m 116 #[.val (.ref a1), .val (.ref a2), .val (.int p2), .val (.int (Int32.ofNat wn)), .val (.ref nu9), .val (.int (Int32.ofNat j9))] [(.int (Int32.ofNat j9))])) (fun t9 k9 => XS.iload X98.here hx rfl (hb hby d1_114) rfl k9) ?_
      refine own_st (T' := T98) (g' := (mkF m 117 #[.val (.ref a1), .val (.ref a2), .val (.int p2), .val (.int (Int32.ofNat wn)), .val (.ref nu9), .val (.int (Int32.ofNat j9))] [(.ref a1), (.int (Int32.ofNat j9))])) (fun t9 k9 => XS.aloadN X98.here hx rfl (hb hby d1_116) rfl rfl k9) ?_
      obtain ⟨T100, X100, e100, st100⟩ := getF X98 hx hZ hown (host := "") (Or.inl (hw _ (List.mem_of_getElem? (i := 21) rfl))) Via.refl e98 Flevelse (g := (mkF m 117 #[.val (.ref a1), .val (.ref a2), .val (.int p2), .val (.int (Int32.ofNat wn)), .val (.ref nu9), .val (.int (Int32.ofNat j9))] [(.ref a1), (.int (Int32.ofNat j9))])) rfl rfl (hb hby d1_117)
      refine own_st (T' := T100) (g' := (mkF m 120 #[.val (.ref a1), .val (.ref a2), .val (.int p2), .val (.int (Int32.ofNat wn)), .val (.ref nu9), .val (.int (Int32.ofNat j9))] [(.int (Int32.ofNat lv)), (.int (Int32.ofNat j9))])) (fun t9 k9 => st100 t9 k9) ?_
      refine own_st (T' := T100) (g' := (mkF m 123 #[.val (.ref a1), .val (.ref a2), .val (.int p2), .val (.int (Int32.ofNat wn)), .val (.ref nu9), .val (.int (Int32.ofNat j9))] [])) (fun t9 k9 => XS.icmpNo X100.here hx rfl (hb hby d1_120) rfl (tlt (own_lt (by omega) (by omega))).2.1 k9) ?_
      refine own_st (T' := T100) (g' := (mkF m 124 #[.val (.ref a1), .val (.ref a2), .val (.int p2), .val (.int (Int32.ofNat wn)), .val (.ref nu9), .val (.int (Int32.ofNat j9))] [(.ref a1)])) (fun t9 k9 => XS.aloadN X100.here hx rfl (hb hby d1_123) rfl rfl k9) ?_
      refine own_st (T' := T100) (g' := (mkF m 126 #[.val (.ref a1), .val (.ref a2), .val (.int p2), .val (.int (Int32.ofNat wn)), .val (.ref nu9), .val (.int (Int32.ofNat j9))] [(.int (Int32.ofNat j9)), (.ref a1)])) (fun t9 k9 => XS.iload X100.here hx rfl (hb hby d1_124) rfl k9) ?_
      refine own_st (T' := T100) (g' := (mkF m 128 #[.val (.ref a1), .val (.ref a2), .val (.int p2), .val (.int (Int32.ofNat wn)), .val (.ref nu9), .val (.int (Int32.ofNat j9))] [(.ref nu9), (.int (Int32.ofNat j9)), (.ref a1)])) (fun t9 k9 => XS.aload X100.here hx rfl (hb hby d1_126) rfl rfl k9) ?_
      obtain ⟨x1, ex⟩ : ∃ z, z = b20 + 1 + j9 := ⟨_, rfl⟩
      obtain ⟨y1, ey⟩ : ∃ z, z = b38 + 1 + j9 := ⟨_, rfl⟩
      obtain ⟨kx9, vx9, lx9, zx9, Vx9⟩ := Gxe j9 (by omega)
      obtain ⟨ky9, vy9, ly9, zy9, Vy9⟩ := Gye j9 (by omega)
      obtain rfl := zx9 (Nat.le_refl _)
      rw [← ex] at Vx9
      rw [← ey] at Vy9
      have nf_a1_x1 : a1 ≠ x1 := by omega
      have nf_a1_y1 : a1 ≠ y1 := by omega
      have nf_b20_x1 : b20 ≠ x1 := by omega
      have nf_b20_y1 : b20 ≠ y1 := by omega
      have nf_b38_x1 : b38 ≠ x1 := by omega
      have nf_b38_y1 : b38 ≠ y1 := by omega
      have nf_nu9_x1 : nu9 ≠ x1 := by omega
      have nf_nu9_y1 : nu9 ≠ y1 := by omega
      have nf_nu9_b60 : nu9 ≠ b60 := by omega
      have nf_x1_y1 : x1 ≠ y1 := by omega
      have nf_x1_b60 : x1 ≠ b60 := by omega
      have nf_y1_b60 : y1 ≠ b60 := by omega
      have g_x1 : n0 ≤ x1 := by have := g_b20; omega
      have g_y1 : n0 ≤ y1 := by have := g_b38; omega
      have s_x1 : h0.size ≤ x1 := by have := sz_b20; omega
      have s_y1 : h0.size ≤ y1 := by have := sz_b38; omega
      have szh : b60 < h98.size := Vze.lt
      obtain ⟨cq101, qa101, qb101⟩ := E1e.cell
      obtain ⟨_, _, ⟨T101, L101, k101, n101⟩, -, X101, ⟨Lc101, hQ101, l101, y101, z101⟩, st101⟩ := X100.privateBack hx (y := (⟨"com/example/newsweave/newsweave/nas/PlaceRecords", "fill", "(I[I)[I"⟩ : MethodName)) hown (mvT hZ (hw _ (List.mem_of_getElem? (i := 34) rfl))) (mvT hZ (hw _ (List.mem_of_getElem? (i := 35) rfl))) (own_selP hZ (hw _ (List.mem_of_getElem? (i := 3) rfl)) (Cond.privateMethod_at (mvP hZ (hw _ (List.mem_of_getElem? (i := 36) rfl)) (args := #[]))) (mvT hZ (hw _ (List.mem_of_getElem? (i := 35) rfl))) (by decide)) (Cond.privateMethod_at (mvP hZ (hw _ (List.mem_of_getElem? (i := 36) rfl)) (args := #[]))) (mvT hZ (hw _ (List.mem_of_getElem? (i := 37) rfl))) (by decide) (own_back (W := 0) (rm5 l Z a0 hw a1 nu9 b20 b38 b60 x1 y1 cA20 cA38 k60 kn9 kx9 ky9 lv j9 ln wn (own_w p2 q2) _ _ vy9 vz9 h98 n0 Z98 Flevelse Frowse FonesBeforee Fzerose Vroe Vobe (by rw [ex]; exact own_xsD (by omega)) (by rw [ey]; exact own_xsD (by omega)) Vx9 Vy9 ly9 Vze hz9 Vne (by omega) hlv hN g_x1 g_y1 g_b60 nf_a1_x1 nf_a1_y1 ne_a1_b60 nf_b20_x1 nf_b20_y1 ne_b20_b60 nf_b38_x1 nf_b38_y1 ne_b38_b60 nf_nu9_x1 nf_nu9_y1 nf_nu9_b60 nf_x1_y1 nf_x1_b60 nf_y1_b60) hZ (hw _ (List.mem_of_getElem? (i := 37) rfl)) (hw _ (List.mem_of_getElem? (i := 4) rfl)) (by decide) (by decide)) (g := (mkF m 128 #[.val (.ref a1), .val (.ref a2), .val (.int p2), .val (.int (Int32.ofNat wn)), .val (.ref nu9), .val (.int (Int32.ofNat j9))] [(.ref nu9), (.int (Int32.ofNat j9)), (.ref a1)])) rfl (by rw [hml]; rfl) (Steps.refl _) (a := a1) (by rw [e100]; exact qa101) qb101 (argsL := [(.int (Int32.ofNat j9)), (.ref nu9)]) (rest := []) (lenOf pd_4 rfl) rfl (by show 2 * 0 + _ ≤ _; exact Nat.le_of_eq rfl) (hb hby d1_128) (fun _ _ => ⟨rfl, e100, (by first | (show 68 + j9 + 1 ≤ 100; omega) | (show 288 + 64 * j9 + 64 ≤ 2336; omega)), (by first | (show 68 + j9 + 1 ≤ 100; omega) | (show 288 + 64 * j9 + 64 ≤ 2336; omega))⟩)
      dsimp only [Pt.U, Pt.locs, Pt.cells, Pt.slots] at X101 l101 y101 z101 st101 hQ101
      subst l101 y101 z101
      obtain ⟨b101, kb101, vx101, vy101, vz101, rfl, Nq101, Kq101, sz101, Vb101, lx101, Vx101, ly101, Vy101, lz101, Vz101⟩ := hQ101
      have N101 := Fr.app N98 Nq101
      obtain ⟨h101, e101⟩ : ∃ z, T101.heap = z := ⟨_, rfl⟩
      rw [e101] at Kq101 Vb101 Vx101 Vy101 Vz101
      have E1e_102 := E1e.keep Kq101
      have Flevelse_103 := Flevelse.keep Kq101 (ninS nf_a1_x1 (ninS nf_a1_y1 (ninS ne_a1_b60 nin0)))
      have Frowse_104 := Frowse.keep Kq101 (ninS nf_a1_x1 (ninS nf_a1_y1 (ninS ne_a1_b60 nin0)))
      have FonesBeforee_105 := FonesBeforee.keep Kq101 (ninS nf_a1_x1 (ninS nf_a1_y1 (ninS ne_a1_b60 nin0)))
      have Fzerose_106 := Fzerose.keep Kq101 (ninS nf_a1_x1 (ninS nf_a1_y1 (ninS ne_a1_b60 nin0)))
      have Vroe_107 := Vroe.keep Kq101 (ninS nf_b20_x1 (ninS nf_b20_y1 (ninS ne_b20_b60 nin0)))
      have Vobe_108 := Vobe.keep Kq101 (ninS nf_b38_x1 (ninS nf_b38_y1 (ninS ne_b38_b60 nin0)))
      have Vne_109 := Vne.keep Kq101 (ninS nf_nu9_x1 (ninS nf_nu9_y1 (ninS nf_nu9_b60 nin0)))
      have K101 := K98.trans Kq101 (allS (Or.inr s_x1) (allS (Or.inr s_y1) (allS (Or.inr sz_b60) all0)))
      have Z101 : n0 ≤ h101.size := Nat.le_trans Z98 Kq101.1
      refine own_st (T' := T101) (g' := (mkF m 131 #[.val (.ref a1), .val (.ref a2), .val (.int p2), .val (.int (Int32.ofNat wn)), .val (.ref nu9), .val (.int (Int32.ofNat j9))] [(.ref b101)])) (fun t9 k9 => st101.trans k9) ?_
      have G_b20 : own_Rows Z h101 b20 lv .long wn (.long 0) (j9 + 1) := Gxe.step (x1 := x1) (y1 := x1) (z1 := x1) Kq101 (q := j9) ex (fun i hi hij q => by
        simp only [List.mem_cons, List.not_mem_nil, or_false] at q
        omega) (by omega) (by omega) lx101 Vx101
      have G_b38 : own_Rows Z h101 b38 lv .int wn (.int 0) lv := Gye.step (x1 := y1) (y1 := x1) (z1 := x1) Kq101 (q := j9) ey (fun i hi hij q => by
        simp only [List.mem_cons, List.not_mem_nil, or_false] at q
        omega) (by omega) (by omega) ly101 Vy101
      have on101 : b60 < b101 := by omega
      refine own_st (T' := T101) (g' := (mkF m 133 #[.val (.ref a1), .val (.ref a2), .val (.int p2), .val (.int (Int32.ofNat wn)), .val (.ref b101), .val (.int (Int32.ofNat j9))] [])) (fun t9 k9 => XS.astore X101.here hx rfl (hb hby d1_131) rfl rfl (l' := #[.val (.ref a1), .val (.ref a2), .val (.int p2), .val (.int (Int32.ofNat wn)), .val (.ref b101), .val (.int (Int32.ofNat j9))]) rfl k9) ?_
      refine own_st (T' := T101) (g' := (mkF m 136 #[.val (.ref a1), .val (.ref a2), .val (.int p2), .val (.int (Int32.ofNat wn)), .val (.ref b101), .val (.int ((Int32.ofNat j9) + (1 : Int32)))] [])) (fun t9 k9 => XS.iinc X101.here hx rfl (hb hby d1_133) rfl (l' := #[.val (.ref a1), .val (.ref a2), .val (.int p2), .val (.int (Int32.ofNat wn)), .val (.ref b101), .val (.int ((Int32.ofNat j9) + (1 : Int32)))]) rfl k9) ?_
      rw [own_one j9]
      refine own_st (T' := T101) (g' := (mkF m 114 #[.val (.ref a1), .val (.ref a2), .val (.int p2), .val (.int (Int32.ofNat wn)), .val (.ref b101), .val (.int (Int32.ofNat (j9 + 1)))] [])) (fun t9 k9 => XS.goto X101.here hx rfl (pc0 := 136) (pc' := 114) rfl (hb hby d1_136) (by decide) (by decide) k9) ?_
      exact ih _ _ _ (j9 + 1) _ _ _ X101 e101 N101 Z101 K101 E1e_102 Flevelse_103 Frowse_104 FonesBeforee_105 Fzerose_106 Vroe_107 Vobe_108 G_b20 G_b38 Vz101 Vb101 (by omega) on101 lz101
  have lp9 : ∀ (k : Nat) (T110 : State) (L110 : List Loc) (h110 : Heap) (i : Nat) (vn : List Value), Stand p l e ({ frames := 2, cells := 100, slots := 2336, locals := 80 } : Room) s m #[(.ref a1), (.ref a2), (.int p2)] below meth c T110 L110 (68) (288) → T110.heap = h110 → Fr n0 L110 → (n0 ≤ h110.size) → (Keep h0 h110 [a1]) → (Exa Z h110 a1 "com/example/newsweave/newsweave/nas/PlaceRecords") → (Fld Z h110 a1 "com/example/newsweave/newsweave/nas/PlaceRecords" "levels" "I" (.int (Int32.ofNat lv))) → (Fld Z h110 a1 "com/example/newsweave/newsweave/nas/PlaceRecords" "rows" "[[J" (.ref b20)) → (Fld Z h110 a1 "com/example/newsweave/newsweave/nas/PlaceRecords" "onesBefore" "[[I" (.ref b38)) → (Fld Z h110 a1 "com/example/newsweave/newsweave/nas/PlaceRecords" "zeros" "[I" (.ref b60)) → (Arv Z h110 b20 cA20 (.array .long) (Int32.ofNat lv) ((own_xs b20 lv).map Value.ref) .null) → (Arv Z h110 b38 cA38 (.array .int) (Int32.ofNat lv) ((own_xs b38 lv).map Value.ref) .null) → (own_Rows Z h110 b20 lv .long wn (.long 0) 0) → (own_Rows Z h110 b38 lv .int wn (.int 0) 0) → (Arv Z h110 b60 k60 .int (Int32.ofNat lv) (List.replicate lv (.int 0)) (.int 0)) → (Arv Z h110 a2 k2 .int (Int32.ofNat ln) (List.replicate ln (.int q2)) (.int 0)) → (Arv Z h110 b85 k85 .int (Int32.ofNat ln) vn (.int 0)) → (i + k = ln) → (own_U vn ln i (own_w p2 q2)) → own_Go p e below F T110 (mkF m 77 #[.val (.ref a1), .val (.ref a2), .val (.int p2), .val (.int (Int32.ofNat wn)), .val (.ref b85), .val (.int (Int32.ofNat i))] []) := by
    intro k
    induction k with
    | zero =>
      intro T110 L110 h110 i vn X110 e110 N110 Z110 K110 E1f Flevelsf Frowsf FonesBeforef Fzerosf Vrof Vobf Gxf Gyf Vzf V2f Vnf hi hU
      obtain rfl : ln = i := by omega
      show own_Go p e below F T110 (mkF m 77 #[.val (.ref a1), .val (.ref a2), .val (.int p2), .val (.int (Int32.ofNat wn)), .val (.ref b85), .val (.int (Int32.ofNat ln))] [])
      refine own_st (T' := T110) (g' := (mkF m 79 #[.val (.ref a1), .val (.ref a2), .val (.int p2), .val (.int (Int32.ofNat wn)), .val (.ref b85), .val (.int (Int32.ofNat ln))] [(.int (Int32.ofNat ln))])) (fun t9 k9 => XS.iload X110.here hx rfl (hb hby d1_77) rfl k9) ?_
      refine own_st (T' := T110) (g' := (mkF m 81 #[.val (.ref a1), .val (.ref a2), .val (.int p2), .val (.int (Int32.ofNat wn)), .val (.ref b85), .val (.int (Int32.ofNat ln))] [(.ref b85), (.int (Int32.ofNat ln))])) (fun t9 k9 => XS.aload X110.here hx rfl (hb hby d1_79) rfl rfl k9) ?_
      obtain ⟨clu111, Aru111, qu111, Su111, Nu111, Hu111, Gu111⟩ := (id Vnf)
      refine own_st (T' := T110) (g' := (mkF m 82 #[.val (.ref a1), .val (.ref a2), .val (.int p2), .val (.int (Int32.ofNat wn)), .val (.ref b85), .val (.int (Int32.ofNat ln))] [(.int (Int32.ofNat ln)), (.int (Int32.ofNat ln))])) (fun t9 k9 => X110.arraylength hx (by rw [e110]; exact Aru111.1) (State.isArrayOf_alike hZ.alike Aru111.2.1) (g := (mkF m 81 #[.val (.ref a1), .val (.ref a2), .val (.int p2), .val (.int (Int32.ofNat wn)), .val (.ref b85), .val (.int (Int32.ofNat ln))] [(.ref b85), (.int (Int32.ofNat ln))])) rfl rfl (hb hby d1_81) t9 (by rw [len_of Su111 Nu111]; exact k9)) ?_
      refine own_st (T' := T110) (g' := (mkF m 111 #[.val (.ref a1), .val (.ref a2), .val (.int p2), .val (.int (Int32.ofNat wn)), .val (.ref b85), .val (.int (Int32.ofNat ln))] [])) (fun t9 k9 => XS.icmpYes X110.here hx rfl (pc0 := 82) (pc' := 111) rfl (hb hby d1_82) rfl (flt (Int32.lt_irrefl)).2.1 (by decide) (by decide) k9) ?_
      refine own_st (T' := T110) (g' := (mkF m 112 #[.val (.ref a1), .val (.ref a2), .val (.int p2), .val (.int (Int32.ofNat wn)), .val (.ref b85), .val (.int (Int32.ofNat ln))] [(.int (0 : Int32))])) (fun t9 k9 => XS.iconst X110.here hx rfl (hb hby d1_111) k9) ?_
      refine own_st (T' := T110) (g' := (mkF m 114 #[.val (.ref a1), .val (.ref a2), .val (.int p2), .val (.int (Int32.ofNat wn)), .val (.ref b85), .val (.int (0 : Int32))] [])) (fun t9 k9 => XS.istore X110.here hx rfl (hb hby d1_112) rfl (l' := #[.val (.ref a1), .val (.ref a2), .val (.int p2), .val (.int (Int32.ofNat wn)), .val (.ref b85), .val (.int (0 : Int32))]) rfl k9) ?_
      have hall := hU.all
      subst hall
      have Gyl : own_Rows Z h110 b38 lv .int wn (.int 0) lv := fun i hi => by
        obtain ⟨k, vs, a, b, c⟩ := Gyf i hi
        exact ⟨k, vs, a, fun q => b (Nat.zero_le _), c⟩
      exact lv9 lv _ _ _ 0 _ _ _ X110 e110 N110 Z110 K110 E1f Flevelsf Frowsf FonesBeforef Fzerosf Vrof Vobf Gxf Gyl Vzf Vnf (Nat.zero_add lv) ou List.length_replicate
    | succ k ih =>
      intro T110 L110 h110 i vn X110 e110 N110 Z110 K110 E1f Flevelsf Frowsf FonesBeforef Fzerosf Vrof Vobf Gxf Gyf Vzf V2f Vnf hi hU
      obtain ⟨r1, r2⟩ := own_nat (i := i) (by omega)
      refine own_st (T' := T110) (g' := (mkF m 79 #[.val (.ref a1), .val (.ref a2), .val (.int p2), .val (.int (Int32.ofNat wn)), .val (.ref b85), .val (.int (Int32.ofNat i))] [(.int (Int32.ofNat i))])) (fun t9 k9 => XS.iload X110.here hx rfl (hb hby d1_77) rfl k9) ?_
      refine own_st (T' := T110) (g' := (mkF m 81 #[.val (.ref a1), .val (.ref a2), .val (.int p2), .val (.int (Int32.ofNat wn)), .val (.ref b85), .val (.int (Int32.ofNat i))] [(.ref b85), (.int (Int32.ofNat i))])) (fun t9 k9 => XS.aload X110.here hx rfl (hb hby d1_79) rfl rfl k9) ?_
      obtain ⟨clu112, Aru112, qu112, Su112, Nu112, Hu112, Gu112⟩ := (id Vnf)
      refine own_st (T' := T110) (g' := (mkF m 82 #[.val (.ref a1), .val (.ref a2), .val (.int p2), .val (.int (Int32.ofNat wn)), .val (.ref b85), .val (.int (Int32.ofNat i))] [(.int (Int32.ofNat ln)), (.int (Int32.ofNat i))])) (fun t9 k9 => X110.arraylength hx (by rw [e110]; exact Aru112.1) (State.isArrayOf_alike hZ.alike Aru112.2.1) (g := (mkF m 81 #[.val (.ref a1), .val (.ref a2), .val (.int p2), .val (.int (Int32.ofNat wn)), .val (.ref b85), .val (.int (Int32.ofNat i))] [(.ref b85), (.int (Int32.ofNat i))])) rfl rfl (hb hby d1_81) t9 (by rw [len_of Su112 Nu112]; exact k9)) ?_
      refine own_st (T' := T110) (g' := (mkF m 85 #[.val (.ref a1), .val (.ref a2), .val (.int p2), .val (.int (Int32.ofNat wn)), .val (.ref b85), .val (.int (Int32.ofNat i))] [])) (fun t9 k9 => XS.icmpNo X110.here hx rfl (hb hby d1_82) rfl (tlt (own_lt (by omega) (by omega))).2.1 k9) ?_
      refine own_st (T' := T110) (g' := (mkF m 87 #[.val (.ref a1), .val (.ref a2), .val (.int p2), .val (.int (Int32.ofNat wn)), .val (.ref b85), .val (.int (Int32.ofNat i))] [(.ref b85)])) (fun t9 k9 => XS.aload X110.here hx rfl (hb hby d1_85) rfl rfl k9) ?_
      refine own_st (T' := T110) (g' := (mkF m 89 #[.val (.ref a1), .val (.ref a2), .val (.int p2), .val (.int (Int32.ofNat wn)), .val (.ref b85), .val (.int (Int32.ofNat i))] [(.int (Int32.ofNat i)), (.ref b85)])) (fun t9 k9 => XS.iload X110.here hx rfl (hb hby d1_87) rfl k9) ?_
      refine own_st (T' := T110) (g' := (mkF m 90 #[.val (.ref a1), .val (.ref a2), .val (.int p2), .val (.int (Int32.ofNat wn)), .val (.ref b85), .val (.int (Int32.ofNat i))] [(.ref a2), (.int (Int32.ofNat i)), (.ref b85)])) (fun t9 k9 => XS.aloadN X110.here hx rfl (hb hby d1_89) rfl rfl k9) ?_
      refine own_st (T' := T110) (g' := (mkF m 92 #[.val (.ref a1), .val (.ref a2), .val (.int p2), .val (.int (Int32.ofNat wn)), .val (.ref b85), .val (.int (Int32.ofNat i))] [(.int (Int32.ofNat i)), (.ref a2), (.int (Int32.ofNat i)), (.ref b85)])) (fun t9 k9 => XS.iload X110.here hx rfl (hb hby d1_90) rfl k9) ?_
      obtain ⟨clu113, Aru113, qu113, Su113, Nu113, Hu113, Gu113⟩ := (id V2f)
      have hinu113 := inb_of Su113 (j := (Int32.ofNat i)) ⟨r2, own_lt (by omega) (by omega)⟩
      refine own_st (T' := T110) (g' := (mkF m 93 #[.val (.ref a1), .val (.ref a2), .val (.int p2), .val (.int (Int32.ofNat wn)), .val (.ref b85), .val (.int (Int32.ofNat i))] [(.int q2), (.int (Int32.ofNat i)), (.ref b85)])) (fun t9 k9 => X110.iaload hx (j := (Int32.ofNat i)) (v := (.int q2)) (by rw [e110]; exact Aru113.1) (State.isArrayOf_alike hZ.alike Aru113.2.1) Aru113.2.2 hinu113 (Hu113.at hinu113 (by rw [r1]; exact own_repD (by omega))) (g := (mkF m 92 #[.val (.ref a1), .val (.ref a2), .val (.int p2), .val (.int (Int32.ofNat wn)), .val (.ref b85), .val (.int (Int32.ofNat i))] [(.int (Int32.ofNat i)), (.ref a2), (.int (Int32.ofNat i)), (.ref b85)])) rfl rfl (hb hby d1_92) t9 k9) ?_
      by_cases hq : q2 < (0 : Int32)
      · refine own_st (T' := T110) (g' := (mkF m 96 #[.val (.ref a1), .val (.ref a2), .val (.int p2), .val (.int (Int32.ofNat wn)), .val (.ref b85), .val (.int (Int32.ofNat i))] [(.int (Int32.ofNat i)), (.ref b85)])) (fun t9 k9 => XS.ifNo X110.here hx rfl (hb hby d1_93) rfl ((if0 _ _).trans (tlt hq).2.1) k9) ?_
        refine own_st (T' := T110) (g' := (mkF m 97 #[.val (.ref a1), .val (.ref a2), .val (.int p2), .val (.int (Int32.ofNat wn)), .val (.ref b85), .val (.int (Int32.ofNat i))] [(.int p2), (.int (Int32.ofNat i)), (.ref b85)])) (fun t9 k9 => XS.iloadN X110.here hx rfl (hb hby d1_96) rfl k9) ?_
        refine own_st (T' := T110) (g' := (mkF m 104 #[.val (.ref a1), .val (.ref a2), .val (.int p2), .val (.int (Int32.ofNat wn)), .val (.ref b85), .val (.int (Int32.ofNat i))] [(.int p2), (.int (Int32.ofNat i)), (.ref b85)])) (fun t9 k9 => XS.goto X110.here hx rfl (pc0 := 97) (pc' := 104) rfl (hb hby d1_97) (by decide) (by decide) k9) ?_
        have hwv : own_w p2 q2 = p2 := if_pos hq
        obtain ⟨clu114, Aru114, qu114, Su114, Nu114, Hu114, Gu114⟩ := (id Vnf)
        obtain ⟨T115, h115, X115, e115, W115, st115⟩ := stI X110 hx hZ e110 Aru114 (j := (Int32.ofNat i)) (inb_of Su114 ⟨r2, own_lt (by omega) (by omega)⟩) (g := (mkF m 104 #[.val (.ref a1), .val (.ref a2), .val (.int p2), .val (.int (Int32.ofNat wn)), .val (.ref b85), .val (.int (Int32.ofNat i))] [(.int p2), (.int (Int32.ofNat i)), (.ref b85)])) rfl rfl (hb hby d1_104)
        have Va115 := Arv.set Aru114 qu114 Su114 Nu114 Hu114 Gu114 rfl W115 i r1 (by rw [hU.1]; omega)
        have E1f_116 := E1f.wr W115
        have Flevelsf_117 := Flevelsf.other W115 (Or.inl ne_a1_b85)
        have Frowsf_118 := Frowsf.other W115 (Or.inl ne_a1_b85)
        have FonesBeforef_119 := FonesBeforef.other W115 (Or.inl ne_a1_b85)
        have Fzerosf_120 := Fzerosf.other W115 (Or.inl ne_a1_b85)
        have Vrof_121 := Vrof.other W115 ne_b20_b85
        have Vobf_122 := Vobf.other W115 ne_b38_b85
        have Gxf_123 := Gxf.other W115 (fun i hi q => by omega)
        have Gyf_124 := Gyf.other W115 (fun i hi q => by omega)
        have Vzf_125 := Vzf.other W115 ne_b60_b85
        have V2f_126 := V2f.other W115 ne_a2_b85
        have K115 := K110.wr W115 (Or.inr sz_b85)
        have N115 := Fr.snoc X115 N110 g_b85
        have Z115 : n0 ≤ h115.size := by rw [W115.size]; exact Z110
        refine own_st (T' := T115) (g' := (mkF m 105 #[.val (.ref a1), .val (.ref a2), .val (.int p2), .val (.int (Int32.ofNat wn)), .val (.ref b85), .val (.int (Int32.ofNat i))] [])) (fun t9 k9 => st115 t9 k9) ?_
        refine own_st (T' := T115) (g' := (mkF m 108 #[.val (.ref a1), .val (.ref a2), .val (.int p2), .val (.int (Int32.ofNat wn)), .val (.ref b85), .val (.int ((Int32.ofNat i) + (1 : Int32)))] [])) (fun t9 k9 => XS.iinc X115.here hx rfl (hb hby d1_105) rfl (l' := #[.val (.ref a1), .val (.ref a2), .val (.int p2), .val (.int (Int32.ofNat wn)), .val (.ref b85), .val (.int ((Int32.ofNat i) + (1 : Int32)))]) rfl k9) ?_
        rw [own_one i]
        refine own_st (T' := T115) (g' := (mkF m 77 #[.val (.ref a1), .val (.ref a2), .val (.int p2), .val (.int (Int32.ofNat wn)), .val (.ref b85), .val (.int (Int32.ofNat (i + 1)))] [])) (fun t9 k9 => XS.goto X115.here hx rfl (pc0 := 108) (pc' := 77) rfl (hb hby d1_108) (by decide) (by decide) k9) ?_
        exact ih _ _ _ (i + 1) _ X115 e115 N115 Z115 K115 E1f_116 Flevelsf_117 Frowsf_118 FonesBeforef_119 Fzerosf_120 Vrof_121 Vobf_122 Gxf_123 Gyf_124 Vzf_125 V2f_126 Va115 (by omega) (by have q := hU.step (i := i) (by omega); rw [hwv] at q; rw [hwv]; exact q)
      · refine own_st (T' := T110) (g' := (mkF m 100 #[.val (.ref a1), .val (.ref a2), .val (.int p2), .val (.int (Int32.ofNat wn)), .val (.ref b85), .val (.int (Int32.ofNat i))] [(.int (Int32.ofNat i)), (.ref b85)])) (fun t9 k9 => XS.ifYes X110.here hx rfl (pc0 := 93) (pc' := 100) rfl (hb hby d1_93) rfl ((if0 _ _).trans (flt hq).2.1) (by decide) (by decide) k9) ?_
        refine own_st (T' := T110) (g' := (mkF m 101 #[.val (.ref a1), .val (.ref a2), .val (.int p2), .val (.int (Int32.ofNat wn)), .val (.ref b85), .val (.int (Int32.ofNat i))] [(.ref a2), (.int (Int32.ofNat i)), (.ref b85)])) (fun t9 k9 => XS.aloadN X110.here hx rfl (hb hby d1_100) rfl rfl k9) ?_
        refine own_st (T' := T110) (g' := (mkF m 103 #[.val (.ref a1), .val (.ref a2), .val (.int p2), .val (.int (Int32.ofNat wn)), .val (.ref b85), .val (.int (Int32.ofNat i))] [(.int (Int32.ofNat i)), (.ref a2), (.int (Int32.ofNat i)), (.ref b85)])) (fun t9 k9 => XS.iload X110.here hx rfl (hb hby d1_101) rfl k9) ?_
        obtain ⟨clu127, Aru127, qu127, Su127, Nu127, Hu127, Gu127⟩ := (id V2f)
        have hinu127 := inb_of Su127 (j := (Int32.ofNat i)) ⟨r2, own_lt (by omega) (by omega)⟩
        refine own_st (T' := T110) (g' := (mkF m 104 #[.val (.ref a1), .val (.ref a2), .val (.int p2), .val (.int (Int32.ofNat wn)), .val (.ref b85), .val (.int (Int32.ofNat i))] [(.int q2), (.int (Int32.ofNat i)), (.ref b85)])) (fun t9 k9 => X110.iaload hx (j := (Int32.ofNat i)) (v := (.int q2)) (by rw [e110]; exact Aru127.1) (State.isArrayOf_alike hZ.alike Aru127.2.1) Aru127.2.2 hinu127 (Hu127.at hinu127 (by rw [r1]; exact own_repD (by omega))) (g := (mkF m 103 #[.val (.ref a1), .val (.ref a2), .val (.int p2), .val (.int (Int32.ofNat wn)), .val (.ref b85), .val (.int (Int32.ofNat i))] [(.int (Int32.ofNat i)), (.ref a2), (.int (Int32.ofNat i)), (.ref b85)])) rfl rfl (hb hby d1_103) t9 k9) ?_
        have hwv : own_w p2 q2 = q2 := if_neg hq
        obtain ⟨clu128, Aru128, qu128, Su128, Nu128, Hu128, Gu128⟩ := (id Vnf)
        obtain ⟨T129, h129, X129, e129, W129, st129⟩ := stI X110 hx hZ e110 Aru128 (j := (Int32.ofNat i)) (inb_of Su128 ⟨r2, own_lt (by omega) (by omega)⟩) (g := (mkF m 104 #[.val (.ref a1), .val (.ref a2), .val (.int p2), .val (.int (Int32.ofNat wn)), .val (.ref b85), .val (.int (Int32.ofNat i))] [(.int q2), (.int (Int32.ofNat i)), (.ref b85)])) rfl rfl (hb hby d1_104)
        have Va129 := Arv.set Aru128 qu128 Su128 Nu128 Hu128 Gu128 rfl W129 i r1 (by rw [hU.1]; omega)
        have E1f_130 := E1f.wr W129
        have Flevelsf_131 := Flevelsf.other W129 (Or.inl ne_a1_b85)
        have Frowsf_132 := Frowsf.other W129 (Or.inl ne_a1_b85)
        have FonesBeforef_133 := FonesBeforef.other W129 (Or.inl ne_a1_b85)
        have Fzerosf_134 := Fzerosf.other W129 (Or.inl ne_a1_b85)
        have Vrof_135 := Vrof.other W129 ne_b20_b85
        have Vobf_136 := Vobf.other W129 ne_b38_b85
        have Gxf_137 := Gxf.other W129 (fun i hi q => by omega)
        have Gyf_138 := Gyf.other W129 (fun i hi q => by omega)
        have Vzf_139 := Vzf.other W129 ne_b60_b85
        have V2f_140 := V2f.other W129 ne_a2_b85
        have K129 := K110.wr W129 (Or.inr sz_b85)
        have N129 := Fr.snoc X129 N110 g_b85
        have Z129 : n0 ≤ h129.size := by rw [W129.size]; exact Z110
        refine own_st (T' := T129) (g' := (mkF m 105 #[.val (.ref a1), .val (.ref a2), .val (.int p2), .val (.int (Int32.ofNat wn)), .val (.ref b85), .val (.int (Int32.ofNat i))] [])) (fun t9 k9 => st129 t9 k9) ?_
        refine own_st (T' := T129) (g' := (mkF m 108 #[.val (.ref a1), .val (.ref a2), .val (.int p2), .val (.int (Int32.ofNat wn)), .val (.ref b85), .val (.int ((Int32.ofNat i) + (1 : Int32)))] [])) (fun t9 k9 => XS.iinc X129.here hx rfl (hb hby d1_105) rfl (l' := #[.val (.ref a1), .val (.ref a2), .val (.int p2), .val (.int (Int32.ofNat wn)), .val (.ref b85), .val (.int ((Int32.ofNat i) + (1 : Int32)))]) rfl k9) ?_
        rw [own_one i]
        refine own_st (T' := T129) (g' := (mkF m 77 #[.val (.ref a1), .val (.ref a2), .val (.int p2), .val (.int (Int32.ofNat wn)), .val (.ref b85), .val (.int (Int32.ofNat (i + 1)))] [])) (fun t9 k9 => XS.goto X129.here hx rfl (pc0 := 108) (pc' := 77) rfl (hb hby d1_108) (by decide) (by decide) k9) ?_
        exact ih _ _ _ (i + 1) _ X129 e129 N129 Z129 K129 E1f_130 Flevelsf_131 Frowsf_132 FonesBeforef_133 Fzerosf_134 Vrof_135 Vobf_136 Gxf_137 Gyf_138 Vzf_139 V2f_140 Va129 (by omega) (by have q := hU.step (i := i) (by omega); rw [hwv] at q; rw [hwv]; exact q)
  exact lp9 ln _ _ _ 0 _ X85 e85 N72 Z85 K85 E1_86 Fw11_89 Fw28_90 Fw48_91 Fw72_92 O20_93 O38_95 R20_94 R38_96 Vz_97 V2_87 Vn (Nat.zero_add ln) own_U.zero
theorem pn_0 : plainFor (⟨"com/example/newsweave/newsweave/nas/PlaceRecordsHeapPinLaw", "law", "(III)Z"⟩ : MethodName) = true := plainFor_of_name (by first | (simp [plainName, overriddenIn]; done) | decide +kernel)
set_option maxRecDepth 65536 in
set_option maxHeartbeats 40000000 in
theorem rm0 (l : Launch) (Z : State) (a0 : Array Value) (hw : ∀ d ∈ tables_1, d.before a0 Z = true) (p1 p2 p3 : Int32) (h0 : Heap) (n0 : Nat) (Z0 : n0 ≤ h0.size)  :
    own_Met l Z x code maxLocals ret room_1 #[(.int p1), (.int p2), (.int p3)] h0 (fun v h L => v = some (.int (1 : Int32)) ∧ Fr n0 L) := by
  refine own_body pn_0 ?_
  intro p e s m below meth c T0 hZ hx hby hml hown hnm hret hlk X0 e0 F hF
  have N0 := Fr.nil n0
  have K0 := Keep.refl h0 []
  refine own_cast (g' := (mkF m 0 #[.val (.int p1), .val (.int p2), .val (.int p3), .unset, .unset, .unset, .unset, .unset, .unset, .unset, .unset, .unset] [])) (by first | (simp [entryFrame, mkF, argsToLocals, Value.category, maxLocals]; done) | rfl) ?_
  refine own_st (T' := T0) (g' := (mkF m 1 #[.val (.int p1), .val (.int p2), .val (.int p3), .unset, .unset, .unset, .unset, .unset, .unset, .unset, .unset, .unset] [(.int p1)])) (fun t9 k9 => XS.iloadN X0.here hx rfl (hb hby at_0) rfl k9) ?_
  refine own_st (T' := T0) (g' := (mkF m 3 #[.val (.int p1), .val (.int p2), .val (.int p3), .unset, .unset, .unset, .unset, .unset, .unset, .unset, .unset, .unset] [(.int (2147483647 : Int32)), (.int p1)])) (fun t9 k9 => X0.ldcInt hx hown (mvT hZ (hw _ (List.mem_of_getElem? (i := 0) rfl))) (g := (mkF m 1 #[.val (.int p1), .val (.int p2), .val (.int p3), .unset, .unset, .unset, .unset, .unset, .unset, .unset, .unset, .unset] [(.int p1)])) rfl (hb hby at_1) t9 k9) ?_
  refine own_st (T' := T0) (g' := (mkF m 4 #[.val (.int p1), .val (.int p2), .val (.int p3), .unset, .unset, .unset, .unset, .unset, .unset, .unset, .unset, .unset] [(.int (p1 &&& (2147483647 : Int32)))])) (fun t9 k9 => XS.iand X0.here hx rfl (hb hby at_3) rfl k9) ?_
  refine own_st (T' := T0) (g' := (mkF m 5 #[.val (.int p1), .val (.int p2), .val (.int p3), .val (.int (p1 &&& (2147483647 : Int32))), .unset, .unset, .unset, .unset, .unset, .unset, .unset, .unset] [])) (fun t9 k9 => XS.istoreN X0.here hx rfl (hb hby at_4) rfl (l' := #[.val (.int p1), .val (.int p2), .val (.int p3), .val (.int (p1 &&& (2147483647 : Int32))), .unset, .unset, .unset, .unset, .unset, .unset, .unset, .unset]) rfl k9) ?_
  refine own_st (T' := T0) (g' := (mkF m 6 #[.val (.int p1), .val (.int p2), .val (.int p3), .val (.int (p1 &&& (2147483647 : Int32))), .unset, .unset, .unset, .unset, .unset, .unset, .unset, .unset] [(.int p2)])) (fun t9 k9 => XS.iloadN X0.here hx rfl (hb hby at_5) rfl k9) ?_
  refine own_st (T' := T0) (g' := (mkF m 8 #[.val (.int p1), .val (.int p2), .val (.int p3), .val (.int (p1 &&& (2147483647 : Int32))), .unset, .unset, .unset, .unset, .unset, .unset, .unset, .unset] [(.int (2147483647 : Int32)), (.int p2)])) (fun t9 k9 => X0.ldcInt hx hown (mvT hZ (hw _ (List.mem_of_getElem? (i := 0) rfl))) (g := (mkF m 6 #[.val (.int p1), .val (.int p2), .val (.int p3), .val (.int (p1 &&& (2147483647 : Int32))), .unset, .unset, .unset, .unset, .unset, .unset, .unset, .unset] [(.int p2)])) rfl (hb hby at_6) t9 k9) ?_
  refine own_st (T' := T0) (g' := (mkF m 9 #[.val (.int p1), .val (.int p2), .val (.int p3), .val (.int (p1 &&& (2147483647 : Int32))), .unset, .unset, .unset, .unset, .unset, .unset, .unset, .unset] [(.int (p2 &&& (2147483647 : Int32)))])) (fun t9 k9 => XS.iand X0.here hx rfl (hb hby at_8) rfl k9) ?_
  refine own_st (T' := T0) (g' := (mkF m 10 #[.val (.int p1), .val (.int p2), .val (.int p3), .val (.int (p1 &&& (2147483647 : Int32))), .unset, .unset, .unset, .unset, .unset, .unset, .unset, .unset] [(.int (3 : Int32)), (.int (p2 &&& (2147483647 : Int32)))])) (fun t9 k9 => XS.iconst X0.here hx rfl (hb hby at_9) k9) ?_
  refine own_st (T' := T0) (g' := (mkF m 11 #[.val (.int p1), .val (.int p2), .val (.int p3), .val (.int (p1 &&& (2147483647 : Int32))), .unset, .unset, .unset, .unset, .unset, .unset, .unset, .unset] [(.int ((p2 &&& (2147483647 : Int32)) % (3 : Int32)))])) (fun t9 k9 => iremM X0 hx (g := (mkF m 10 #[.val (.int p1), .val (.int p2), .val (.int p3), .val (.int (p1 &&& (2147483647 : Int32))), .unset, .unset, .unset, .unset, .unset, .unset, .unset, .unset] [(.int (3 : Int32)), (.int (p2 &&& (2147483647 : Int32)))])) rfl (hb hby at_10) rfl (by decide) k9) ?_
  refine own_st (T' := T0) (g' := (mkF m 13 #[.val (.int p1), .val (.int p2), .val (.int p3), .val (.int (p1 &&& (2147483647 : Int32))), .val (.int ((p2 &&& (2147483647 : Int32)) % (3 : Int32))), .unset, .unset, .unset, .unset, .unset, .unset, .unset] [])) (fun t9 k9 => XS.istore X0.here hx rfl (hb hby at_11) rfl (l' := #[.val (.int p1), .val (.int p2), .val (.int p3), .val (.int (p1 &&& (2147483647 : Int32))), .val (.int ((p2 &&& (2147483647 : Int32)) % (3 : Int32))), .unset, .unset, .unset, .unset, .unset, .unset, .unset]) rfl k9) ?_
  refine own_st (T' := T0) (g' := (mkF m 15 #[.val (.int p1), .val (.int p2), .val (.int p3), .val (.int (p1 &&& (2147483647 : Int32))), .val (.int ((p2 &&& (2147483647 : Int32)) % (3 : Int32))), .unset, .unset, .unset, .unset, .unset, .unset, .unset] [(.int ((p2 &&& (2147483647 : Int32)) % (3 : Int32)))])) (fun t9 k9 => XS.iload X0.here hx rfl (hb hby at_13) rfl k9) ?_
  have j79 : ∀ (T1 : State) (L1 : List Loc) (h1 : Heap) (pa : Nat) (kp : ClassId) (ln : Nat) (wn : Nat) (q2 : Int32) (s7 : Slot), Stand p l e room_1 s m #[(.int p1), (.int p2), (.int p3)] below meth c T1 L1 (1) (64) → T1.heap = h1 → Fr n0 L1 → (n0 ≤ h1.size) → (Keep h0 h1 []) → (Arv Z h1 pa kp .int (Int32.ofNat ln) (List.replicate ln (.int q2)) (.int 0)) → (own_N ln wn) → (One s7) → own_Go p e below F T1 (mkF m 79 #[.val (.int p1), .val (.int p2), .val (.int p3), .val (.int (p1 &&& (2147483647 : Int32))), .val (.int ((p2 &&& (2147483647 : Int32)) % (3 : Int32))), .val (.ref pa), .val (.int (Int32.ofNat wn)), s7, .unset, .unset, .unset, .unset] []) := by
    intro T1 L1 h1 pa kp ln wn q2 s7 X1 e1 N1 Z1 K1 Vpa hN ho_s7
    obtain ⟨lv, hl1, hlv, elv⟩ := own_blN (p1 &&& (2147483647 : Int32))
    obtain ⟨hn64, hw2, hw1⟩ := hN.le
    obtain ⟨T2, h2, X2, e2, Ex2, A2, D2, -, st2⟩ := newO X1 hx hZ hown (hw _ (List.mem_of_getElem? (i := 2) rfl)) (hw _ (List.mem_of_getElem? (i := 3) rfl)) (hw _ (List.mem_of_getElem? (i := 4) rfl)) e1 (g := (mkF m 79 #[.val (.int p1), .val (.int p2), .val (.int p3), .val (.int (p1 &&& (2147483647 : Int32))), .val (.int ((p2 &&& (2147483647 : Int32)) % (3 : Int32))), .val (.ref pa), .val (.int (Int32.ofNat wn)), s7, .unset, .unset, .unset, .unset] [])) rfl (hb hby at_79) (by decide) (by decide)
    obtain ⟨b2, gb2⟩ : ∃ z, z = h1.size := ⟨_, rfl⟩
    have ne_pa_b2 : pa ≠ b2 := own_ne gb2 Vpa.lt
    have g_b2 : n0 ≤ b2 := gb2 ▸ Z1
    have sz_b2 : h0.size ≤ b2 := gb2 ▸ K1.1
    rw [← gb2] at A2 D2 st2
    have Vpa_3 := Vpa.ext Ex2
    have K2 := K1.ext Ex2
    have Z2 : n0 ≤ h2.size := Nat.le_trans Z1 Ex2.1
    have F_records_b2 : Fld Z h2 b2 "com/example/newsweave/newsweave/nas/PlaceRecords" "records" "I" (.int (0 : Int32)) := D2 (Or.inr (hw _ (List.mem_of_getElem? (i := 12) rfl))) (ty := .int) (by decide)
    have F_levels_b2 : Fld Z h2 b2 "com/example/newsweave/newsweave/nas/PlaceRecords" "levels" "I" (.int (0 : Int32)) := D2 (Or.inr (hw _ (List.mem_of_getElem? (i := 22) rfl))) (ty := .int) (by decide)
    have F_rows_b2 : Fld Z h2 b2 "com/example/newsweave/newsweave/nas/PlaceRecords" "rows" "[[J" .null := D2 (Or.inr (hw _ (List.mem_of_getElem? (i := 27) rfl))) (ty := (.array (.array .long))) (by decide)
    have F_onesBefore_b2 : Fld Z h2 b2 "com/example/newsweave/newsweave/nas/PlaceRecords" "onesBefore" "[[I" .null := D2 (Or.inr (hw _ (List.mem_of_getElem? (i := 31) rfl))) (ty := (.array (.array .int))) (by decide)
    have F_zeros_b2 : Fld Z h2 b2 "com/example/newsweave/newsweave/nas/PlaceRecords" "zeros" "[I" .null := D2 (Or.inr (hw _ (List.mem_of_getElem? (i := 33) rfl))) (ty := (.array .int)) (by decide)
    refine own_st (T' := T2) (g' := (mkF m 82 #[.val (.int p1), .val (.int p2), .val (.int p3), .val (.int (p1 &&& (2147483647 : Int32))), .val (.int ((p2 &&& (2147483647 : Int32)) % (3 : Int32))), .val (.ref pa), .val (.int (Int32.ofNat wn)), s7, .unset, .unset, .unset, .unset] [(.ref b2)])) (fun t9 k9 => st2 t9 k9) ?_
    refine own_st (T' := T2) (g' := (mkF m 83 #[.val (.int p1), .val (.int p2), .val (.int p3), .val (.int (p1 &&& (2147483647 : Int32))), .val (.int ((p2 &&& (2147483647 : Int32)) % (3 : Int32))), .val (.ref pa), .val (.int (Int32.ofNat wn)), s7, .unset, .unset, .unset, .unset] [(.ref b2), (.ref b2)])) (fun t9 k9 => XS.dup X2.here hx rfl (hb hby at_82) rfl rfl k9) ?_
    refine own_st (T' := T2) (g' := (mkF m 85 #[.val (.int p1), .val (.int p2), .val (.int p3), .val (.int (p1 &&& (2147483647 : Int32))), .val (.int ((p2 &&& (2147483647 : Int32)) % (3 : Int32))), .val (.ref pa), .val (.int (Int32.ofNat wn)), s7, .unset, .unset, .unset, .unset] [(.ref pa), (.ref b2), (.ref b2)])) (fun t9 k9 => XS.aload X2.here hx rfl (hb hby at_83) rfl rfl k9) ?_
    refine own_st (T' := T2) (g' := (mkF m 86 #[.val (.int p1), .val (.int p2), .val (.int p3), .val (.int (p1 &&& (2147483647 : Int32))), .val (.int ((p2 &&& (2147483647 : Int32)) % (3 : Int32))), .val (.ref pa), .val (.int (Int32.ofNat wn)), s7, .unset, .unset, .unset, .unset] [(.int (p1 &&& (2147483647 : Int32))), (.ref pa), (.ref b2), (.ref b2)])) (fun t9 k9 => XS.iloadN X2.here hx rfl (hb hby at_85) rfl k9) ?_
    obtain ⟨_, _, ⟨T4, L4, k4, n4⟩, -, X4, ⟨Lc4, hQ4, l4, y4, z4⟩, st4⟩ := X2.specialBack hx (y := (⟨"com/example/newsweave/newsweave/nas/PlaceRecords", "<init>", "([II)V"⟩ : MethodName)) rfl hown (mvT hZ (hw _ (List.mem_of_getElem? (i := 5) rfl))) (mvT hZ (hw _ (List.mem_of_getElem? (i := 6) rfl))) (mvT hZ (hw _ (List.mem_of_getElem? (i := 7) rfl))) (by decide) (own_back (W := 1) (rm1 l Z a0 hw b2 pa kp (p1 &&& (2147483647 : Int32)) q2 lv ln wn (.int 0) (.int 0) .null .null .null h2 n0 Z2 A2 F_records_b2 F_levels_b2 F_rows_b2 F_onesBefore_b2 F_zeros_b2 Vpa_3 g_b2 ne_pa_b2 (own_msk p1) elv hl1 hlv hN) hZ (hw _ (List.mem_of_getElem? (i := 7) rfl)) (hw _ (List.mem_of_getElem? (i := 4) rfl)) (by decide) (by decide)) (g := (mkF m 86 #[.val (.int p1), .val (.int p2), .val (.int p3), .val (.int (p1 &&& (2147483647 : Int32))), .val (.int ((p2 &&& (2147483647 : Int32)) % (3 : Int32))), .val (.ref pa), .val (.int (Int32.ofNat wn)), s7, .unset, .unset, .unset, .unset] [(.int (p1 &&& (2147483647 : Int32))), (.ref pa), (.ref b2), (.ref b2)])) rfl (by rw [hml]; rfl) (Steps.refl _) (a := b2) (argsL := [(.ref pa), (.int (p1 &&& (2147483647 : Int32)))]) (rest := [(.ref b2)]) (lenOf pd_0 rfl) rfl (by show 2 * 0 + _ ≤ _; exact Nat.le_of_eq rfl) (hb hby at_86) (fun _ _ => ⟨rfl, e2, (Nat.le_of_ble_eq_true rfl), (Nat.le_of_ble_eq_true rfl)⟩)
    dsimp only [Pt.U, Pt.locs, Pt.cells, Pt.slots] at X4 l4 y4 z4 st4 hQ4
    subst l4 y4 z4
    obtain ⟨ro4, ob4, kr4, ko4, rfl, Nq4, Kq4, Eq4, Fl4, Fr4, Fo4, Vr4, Vo4, Gx4, Gy4⟩ := hQ4
    have N4 := Fr.app N1 Nq4
    obtain ⟨h4, e4⟩ : ∃ z, T4.heap = z := ⟨_, rfl⟩
    rw [e4] at Kq4 Eq4 Fl4 Fr4 Fo4 Vr4 Vo4 Gx4 Gy4
    have Vpa_5 := Vpa_3.keep Kq4 (ninS ne_pa_b2 nin0)
    have A2_6 := A2.keep Kq4
    have K4 := K2.trans Kq4 (allS (Or.inr sz_b2) all0)
    have Z4 : n0 ≤ h4.size := Nat.le_trans Z2 Kq4.1
    refine own_st (T' := T4) (g' := (mkF m 89 #[.val (.int p1), .val (.int p2), .val (.int p3), .val (.int (p1 &&& (2147483647 : Int32))), .val (.int ((p2 &&& (2147483647 : Int32)) % (3 : Int32))), .val (.ref pa), .val (.int (Int32.ofNat wn)), s7, .unset, .unset, .unset, .unset] [(.ref b2)])) (fun t9 k9 => st4.trans k9) ?_
    refine own_st (T' := T4) (g' := (mkF m 91 #[.val (.int p1), .val (.int p2), .val (.int p3), .val (.int (p1 &&& (2147483647 : Int32))), .val (.int ((p2 &&& (2147483647 : Int32)) % (3 : Int32))), .val (.ref pa), .val (.int (Int32.ofNat wn)), .val (.ref b2), .unset, .unset, .unset, .unset] [])) (fun t9 k9 => XS.astore X4.here hx rfl (hb hby at_89) rfl rfl (l' := #[.val (.int p1), .val (.int p2), .val (.int p3), .val (.int (p1 &&& (2147483647 : Int32))), .val (.int ((p2 &&& (2147483647 : Int32)) % (3 : Int32))), .val (.ref pa), .val (.int (Int32.ofNat wn)), .val (.ref b2), .unset, .unset, .unset, .unset]) (by rcases ho_s7 with rfl | ⟨w9, rfl, hw9⟩ <;> first | rfl | (cases w9 <;> first | rfl | (simp [Value.category] at hw9))) k9) ?_
    refine own_st (T' := T4) (g' := (mkF m 92 #[.val (.int p1), .val (.int p2), .val (.int p3), .val (.int (p1 &&& (2147483647 : Int32))), .val (.int ((p2 &&& (2147483647 : Int32)) % (3 : Int32))), .val (.ref pa), .val (.int (Int32.ofNat wn)), .val (.ref b2), .unset, .unset, .unset, .unset] [(.int (p1 &&& (2147483647 : Int32)))])) (fun t9 k9 => XS.iloadN X4.here hx rfl (hb hby at_91) rfl k9) ?_
    obtain ⟨_, _, ⟨T7, L7, k7, n7⟩, -, X7, ⟨Lc7, hQ7, l7, y7, z7⟩, st7⟩ := Jvm.LawKit.callS X4 hx (y := (⟨"com/example/newsweave/newsweave/nas/PlaceRecordsHeapPinLaw", "bitLengthAtLeastOne", "(I)I"⟩ : MethodName)) hown (mvT hZ (hw _ (List.mem_of_getElem? (i := 45) rfl))) (mvT hZ (hw _ (List.mem_of_getElem? (i := 46) rfl))) (mvT hZ (hw _ (List.mem_of_getElem? (i := 47) rfl))) (mvT hZ (hw _ (List.mem_of_getElem? (i := 48) rfl))) (by decide) (own_back (W := 0) (rm7 l Z a0 hw (p1 &&& (2147483647 : Int32)) lv h4 n0 Z4 elv) hZ (hw _ (List.mem_of_getElem? (i := 48) rfl)) (hw _ (List.mem_of_getElem? (i := 47) rfl)) (by decide) (by decide)) (g := (mkF m 92 #[.val (.int p1), .val (.int p2), .val (.int p3), .val (.int (p1 &&& (2147483647 : Int32))), .val (.int ((p2 &&& (2147483647 : Int32)) % (3 : Int32))), .val (.ref pa), .val (.int (Int32.ofNat wn)), .val (.ref b2), .unset, .unset, .unset, .unset] [(.int (p1 &&& (2147483647 : Int32)))])) rfl (by rw [hml]; rfl) (argsL := [(.int (p1 &&& (2147483647 : Int32)))]) (rest := []) (lenOf pd_2 rfl) rfl (by show 2 * 0 + _ ≤ _; exact Nat.le_of_eq rfl) (hb hby at_92) (fun _ _ => ⟨rfl, e4, (Nat.le_of_ble_eq_true rfl), (Nat.le_of_ble_eq_true rfl)⟩)
    dsimp only [Pt.U, Pt.locs, Pt.cells, Pt.slots] at X7 l7 y7 z7 st7 hQ7
    subst l7 y7 z7
    obtain ⟨rfl, Nq7, he7⟩ := hQ7
    have N7 := Fr.app N4 Nq7
    have e7 : T7.heap = h4 := he7
    refine own_st (T' := T7) (g' := (mkF m 95 #[.val (.int p1), .val (.int p2), .val (.int p3), .val (.int (p1 &&& (2147483647 : Int32))), .val (.int ((p2 &&& (2147483647 : Int32)) % (3 : Int32))), .val (.ref pa), .val (.int (Int32.ofNat wn)), .val (.ref b2), .unset, .unset, .unset, .unset] [(.int (Int32.ofNat lv))])) (fun t9 k9 => st7 t9 k9) ?_
    refine own_st (T' := T7) (g' := (mkF m 96 #[.val (.int p1), .val (.int p2), .val (.int p3), .val (.int (p1 &&& (2147483647 : Int32))), .val (.int ((p2 &&& (2147483647 : Int32)) % (3 : Int32))), .val (.ref pa), .val (.int (Int32.ofNat wn)), .val (.ref b2), .unset, .unset, .unset, .unset] [(.long ((Int32.ofNat lv).toInt64))])) (fun t9 k9 => XS.i2l X7.here hx rfl (hb hby at_95) rfl k9) ?_
    refine own_st (T' := T7) (g' := (mkF m 98 #[.val (.int p1), .val (.int p2), .val (.int p3), .val (.int (p1 &&& (2147483647 : Int32))), .val (.int ((p2 &&& (2147483647 : Int32)) % (3 : Int32))), .val (.ref pa), .val (.int (Int32.ofNat wn)), .val (.ref b2), .val (.long ((Int32.ofNat lv).toInt64)), .second, .unset, .unset] [])) (fun t9 k9 => XS.lstore X7.here hx rfl (hb hby at_96) rfl (l' := #[.val (.int p1), .val (.int p2), .val (.int p3), .val (.int (p1 &&& (2147483647 : Int32))), .val (.int ((p2 &&& (2147483647 : Int32)) % (3 : Int32))), .val (.ref pa), .val (.int (Int32.ofNat wn)), .val (.ref b2), .val (.long ((Int32.ofNat lv).toInt64)), .second, .unset, .unset]) rfl k9) ?_
    refine own_st (T' := T7) (g' := (mkF m 101 #[.val (.int p1), .val (.int p2), .val (.int p3), .val (.int (p1 &&& (2147483647 : Int32))), .val (.int ((p2 &&& (2147483647 : Int32)) % (3 : Int32))), .val (.ref pa), .val (.int (Int32.ofNat wn)), .val (.ref b2), .val (.long ((Int32.ofNat lv).toInt64)), .second, .unset, .unset] [(.long (3 : Int64))])) (fun t9 k9 => X7.ldc2Long hx hown (mvT hZ (hw _ (List.mem_of_getElem? (i := 50) rfl))) (g := (mkF m 98 #[.val (.int p1), .val (.int p2), .val (.int p3), .val (.int (p1 &&& (2147483647 : Int32))), .val (.int ((p2 &&& (2147483647 : Int32)) % (3 : Int32))), .val (.ref pa), .val (.int (Int32.ofNat wn)), .val (.ref b2), .val (.long ((Int32.ofNat lv).toInt64)), .second, .unset, .unset] [])) rfl (hb hby at_98) t9 k9) ?_
    refine own_st (T' := T7) (g' := (mkF m 104 #[.val (.int p1), .val (.int p2), .val (.int p3), .val (.int (p1 &&& (2147483647 : Int32))), .val (.int ((p2 &&& (2147483647 : Int32)) % (3 : Int32))), .val (.ref pa), .val (.int (Int32.ofNat wn)), .val (.ref b2), .val (.long ((Int32.ofNat lv).toInt64)), .second, .unset, .unset] [(.long (4 : Int64)), (.long (3 : Int64))])) (fun t9 k9 => X7.ldc2Long hx hown (mvT hZ (hw _ (List.mem_of_getElem? (i := 51) rfl))) (g := (mkF m 101 #[.val (.int p1), .val (.int p2), .val (.int p3), .val (.int (p1 &&& (2147483647 : Int32))), .val (.int ((p2 &&& (2147483647 : Int32)) % (3 : Int32))), .val (.ref pa), .val (.int (Int32.ofNat wn)), .val (.ref b2), .val (.long ((Int32.ofNat lv).toInt64)), .second, .unset, .unset] [(.long (3 : Int64))])) rfl (hb hby at_101) t9 k9) ?_
    refine own_st (T' := T7) (g' := (mkF m 106 #[.val (.int p1), .val (.int p2), .val (.int p3), .val (.int (p1 &&& (2147483647 : Int32))), .val (.int ((p2 &&& (2147483647 : Int32)) % (3 : Int32))), .val (.ref pa), .val (.int (Int32.ofNat wn)), .val (.ref b2), .val (.long ((Int32.ofNat lv).toInt64)), .second, .unset, .unset] [(.long ((Int32.ofNat lv).toInt64)), (.long (4 : Int64)), (.long (3 : Int64))])) (fun t9 k9 => XS.lload X7.here hx rfl (hb hby at_104) rfl k9) ?_
    refine own_st (T' := T7) (g' := (mkF m 107 #[.val (.int p1), .val (.int p2), .val (.int p3), .val (.int (p1 &&& (2147483647 : Int32))), .val (.int ((p2 &&& (2147483647 : Int32)) % (3 : Int32))), .val (.ref pa), .val (.int (Int32.ofNat wn)), .val (.ref b2), .val (.long ((Int32.ofNat lv).toInt64)), .second, .unset, .unset] [(.long ((4 : Int64) * ((Int32.ofNat lv).toInt64))), (.long (3 : Int64))])) (fun t9 k9 => XS.lmul X7.here hx rfl (hb hby at_106) rfl k9) ?_
    obtain ⟨_, _, ⟨T8, L8, k8, n8⟩, -, X8, ⟨Lc8, hQ8, l8, y8, z8⟩, st8⟩ := Jvm.LawKit.callS X7 hx (y := (⟨"com/example/newsweave/newsweave/nas/PlaceRecordsHeapPinLaw", "pad", "(J)J"⟩ : MethodName)) hown (mvT hZ (hw _ (List.mem_of_getElem? (i := 52) rfl))) (mvT hZ (hw _ (List.mem_of_getElem? (i := 53) rfl))) (mvT hZ (hw _ (List.mem_of_getElem? (i := 47) rfl))) (mvT hZ (hw _ (List.mem_of_getElem? (i := 54) rfl))) (by decide) (own_back (W := 2) (rm8 l Z a0 hw ((4 : Int64) * ((Int32.ofNat lv).toInt64)) h4 n0 Z4) hZ (hw _ (List.mem_of_getElem? (i := 54) rfl)) (hw _ (List.mem_of_getElem? (i := 47) rfl)) (by decide) (by decide)) (g := (mkF m 107 #[.val (.int p1), .val (.int p2), .val (.int p3), .val (.int (p1 &&& (2147483647 : Int32))), .val (.int ((p2 &&& (2147483647 : Int32)) % (3 : Int32))), .val (.ref pa), .val (.int (Int32.ofNat wn)), .val (.ref b2), .val (.long ((Int32.ofNat lv).toInt64)), .second, .unset, .unset] [(.long ((4 : Int64) * ((Int32.ofNat lv).toInt64))), (.long (3 : Int64))])) rfl (by rw [hml]; rfl) (argsL := [(.long ((4 : Int64) * ((Int32.ofNat lv).toInt64)))]) (rest := [(.long (3 : Int64))]) (lenOf pd_6 rfl) rfl (by show 2 * 0 + _ ≤ _; exact Nat.le_of_eq rfl) (hb hby at_107) (fun _ _ => ⟨rfl, e7, (Nat.le_of_ble_eq_true rfl), (Nat.le_of_ble_eq_true rfl)⟩)
    dsimp only [Pt.U, Pt.locs, Pt.cells, Pt.slots] at X8 l8 y8 z8 st8 hQ8
    subst l8 y8 z8
    obtain ⟨rfl, Nq8, he8⟩ := hQ8
    have N8 := Fr.app N7 Nq8
    have e8 : T8.heap = h4 := he8
    refine own_st (T' := T8) (g' := (mkF m 110 #[.val (.int p1), .val (.int p2), .val (.int p3), .val (.int (p1 &&& (2147483647 : Int32))), .val (.int ((p2 &&& (2147483647 : Int32)) % (3 : Int32))), .val (.ref pa), .val (.int (Int32.ofNat wn)), .val (.ref b2), .val (.long ((Int32.ofNat lv).toInt64)), .second, .unset, .unset] [(.long (own_pd ((4 : Int64) * ((Int32.ofNat lv).toInt64)))), (.long (3 : Int64))])) (fun t9 k9 => st8 t9 k9) ?_
    refine own_st (T' := T8) (g' := (mkF m 111 #[.val (.int p1), .val (.int p2), .val (.int p3), .val (.int (p1 &&& (2147483647 : Int32))), .val (.int ((p2 &&& (2147483647 : Int32)) % (3 : Int32))), .val (.ref pa), .val (.int (Int32.ofNat wn)), .val (.ref b2), .val (.long ((Int32.ofNat lv).toInt64)), .second, .unset, .unset] [(.long ((3 : Int64) * (own_pd ((4 : Int64) * ((Int32.ofNat lv).toInt64)))))])) (fun t9 k9 => XS.lmul X8.here hx rfl (hb hby at_110) rfl k9) ?_
    refine own_st (T' := T8) (g' := (mkF m 113 #[.val (.int p1), .val (.int p2), .val (.int p3), .val (.int (p1 &&& (2147483647 : Int32))), .val (.int ((p2 &&& (2147483647 : Int32)) % (3 : Int32))), .val (.ref pa), .val (.int (Int32.ofNat wn)), .val (.ref b2), .val (.long ((Int32.ofNat lv).toInt64)), .second, .unset, .unset] [(.long ((Int32.ofNat lv).toInt64)), (.long ((3 : Int64) * (own_pd ((4 : Int64) * ((Int32.ofNat lv).toInt64)))))])) (fun t9 k9 => XS.lload X8.here hx rfl (hb hby at_111) rfl k9) ?_
    refine own_st (T' := T8) (g' := (mkF m 116 #[.val (.int p1), .val (.int p2), .val (.int p3), .val (.int (p1 &&& (2147483647 : Int32))), .val (.int ((p2 &&& (2147483647 : Int32)) % (3 : Int32))), .val (.ref pa), .val (.int (Int32.ofNat wn)), .val (.ref b2), .val (.long ((Int32.ofNat lv).toInt64)), .second, .unset, .unset] [(.long (8 : Int64)), (.long ((Int32.ofNat lv).toInt64)), (.long ((3 : Int64) * (own_pd ((4 : Int64) * ((Int32.ofNat lv).toInt64)))))])) (fun t9 k9 => X8.ldc2Long hx hown (mvT hZ (hw _ (List.mem_of_getElem? (i := 57) rfl))) (g := (mkF m 113 #[.val (.int p1), .val (.int p2), .val (.int p3), .val (.int (p1 &&& (2147483647 : Int32))), .val (.int ((p2 &&& (2147483647 : Int32)) % (3 : Int32))), .val (.ref pa), .val (.int (Int32.ofNat wn)), .val (.ref b2), .val (.long ((Int32.ofNat lv).toInt64)), .second, .unset, .unset] [(.long ((Int32.ofNat lv).toInt64)), (.long ((3 : Int64) * (own_pd ((4 : Int64) * ((Int32.ofNat lv).toInt64)))))])) rfl (hb hby at_113) t9 k9) ?_
    refine own_st (T' := T8) (g' := (mkF m 118 #[.val (.int p1), .val (.int p2), .val (.int p3), .val (.int (p1 &&& (2147483647 : Int32))), .val (.int ((p2 &&& (2147483647 : Int32)) % (3 : Int32))), .val (.ref pa), .val (.int (Int32.ofNat wn)), .val (.ref b2), .val (.long ((Int32.ofNat lv).toInt64)), .second, .unset, .unset] [(.int (Int32.ofNat wn)), (.long (8 : Int64)), (.long ((Int32.ofNat lv).toInt64)), (.long ((3 : Int64) * (own_pd ((4 : Int64) * ((Int32.ofNat lv).toInt64)))))])) (fun t9 k9 => XS.iload X8.here hx rfl (hb hby at_116) rfl k9) ?_
    refine own_st (T' := T8) (g' := (mkF m 119 #[.val (.int p1), .val (.int p2), .val (.int p3), .val (.int (p1 &&& (2147483647 : Int32))), .val (.int ((p2 &&& (2147483647 : Int32)) % (3 : Int32))), .val (.ref pa), .val (.int (Int32.ofNat wn)), .val (.ref b2), .val (.long ((Int32.ofNat lv).toInt64)), .second, .unset, .unset] [(.long ((Int32.ofNat wn).toInt64)), (.long (8 : Int64)), (.long ((Int32.ofNat lv).toInt64)), (.long ((3 : Int64) * (own_pd ((4 : Int64) * ((Int32.ofNat lv).toInt64)))))])) (fun t9 k9 => XS.i2l X8.here hx rfl (hb hby at_118) rfl k9) ?_
    refine own_st (T' := T8) (g' := (mkF m 120 #[.val (.int p1), .val (.int p2), .val (.int p3), .val (.int (p1 &&& (2147483647 : Int32))), .val (.int ((p2 &&& (2147483647 : Int32)) % (3 : Int32))), .val (.ref pa), .val (.int (Int32.ofNat wn)), .val (.ref b2), .val (.long ((Int32.ofNat lv).toInt64)), .second, .unset, .unset] [(.long ((8 : Int64) * ((Int32.ofNat wn).toInt64))), (.long ((Int32.ofNat lv).toInt64)), (.long ((3 : Int64) * (own_pd ((4 : Int64) * ((Int32.ofNat lv).toInt64)))))])) (fun t9 k9 => XS.lmul X8.here hx rfl (hb hby at_119) rfl k9) ?_
    obtain ⟨_, _, ⟨T9, L9, k9, n9⟩, -, X9, ⟨Lc9, hQ9, l9, y9, z9⟩, st9⟩ := Jvm.LawKit.callS X8 hx (y := (⟨"com/example/newsweave/newsweave/nas/PlaceRecordsHeapPinLaw", "pad", "(J)J"⟩ : MethodName)) hown (mvT hZ (hw _ (List.mem_of_getElem? (i := 52) rfl))) (mvT hZ (hw _ (List.mem_of_getElem? (i := 53) rfl))) (mvT hZ (hw _ (List.mem_of_getElem? (i := 47) rfl))) (mvT hZ (hw _ (List.mem_of_getElem? (i := 54) rfl))) (by decide) (own_back (W := 4) (rm8 l Z a0 hw ((8 : Int64) * ((Int32.ofNat wn).toInt64)) h4 n0 Z4) hZ (hw _ (List.mem_of_getElem? (i := 54) rfl)) (hw _ (List.mem_of_getElem? (i := 47) rfl)) (by decide) (by decide)) (g := (mkF m 120 #[.val (.int p1), .val (.int p2), .val (.int p3), .val (.int (p1 &&& (2147483647 : Int32))), .val (.int ((p2 &&& (2147483647 : Int32)) % (3 : Int32))), .val (.ref pa), .val (.int (Int32.ofNat wn)), .val (.ref b2), .val (.long ((Int32.ofNat lv).toInt64)), .second, .unset, .unset] [(.long ((8 : Int64) * ((Int32.ofNat wn).toInt64))), (.long ((Int32.ofNat lv).toInt64)), (.long ((3 : Int64) * (own_pd ((4 : Int64) * ((Int32.ofNat lv).toInt64)))))])) rfl (by rw [hml]; rfl) (argsL := [(.long ((8 : Int64) * ((Int32.ofNat wn).toInt64)))]) (rest := [(.long ((Int32.ofNat lv).toInt64)), (.long ((3 : Int64) * (own_pd ((4 : Int64) * ((Int32.ofNat lv).toInt64)))))]) (lenOf pd_6 rfl) rfl (by show 2 * 0 + _ ≤ _; exact Nat.le_of_eq rfl) (hb hby at_120) (fun _ _ => ⟨rfl, e8, (Nat.le_of_ble_eq_true rfl), (Nat.le_of_ble_eq_true rfl)⟩)
    dsimp only [Pt.U, Pt.locs, Pt.cells, Pt.slots] at X9 l9 y9 z9 st9 hQ9
    subst l9 y9 z9
    obtain ⟨rfl, Nq9, he9⟩ := hQ9
    have N9 := Fr.app N8 Nq9
    have e9 : T9.heap = h4 := he9
    refine own_st (T' := T9) (g' := (mkF m 123 #[.val (.int p1), .val (.int p2), .val (.int p3), .val (.int (p1 &&& (2147483647 : Int32))), .val (.int ((p2 &&& (2147483647 : Int32)) % (3 : Int32))), .val (.ref pa), .val (.int (Int32.ofNat wn)), .val (.ref b2), .val (.long ((Int32.ofNat lv).toInt64)), .second, .unset, .unset] [(.long (own_pd ((8 : Int64) * ((Int32.ofNat wn).toInt64)))), (.long ((Int32.ofNat lv).toInt64)), (.long ((3 : Int64) * (own_pd ((4 : Int64) * ((Int32.ofNat lv).toInt64)))))])) (fun t9 k9 => st9 t9 k9) ?_
    refine own_st (T' := T9) (g' := (mkF m 126 #[.val (.int p1), .val (.int p2), .val (.int p3), .val (.int (p1 &&& (2147483647 : Int32))), .val (.int ((p2 &&& (2147483647 : Int32)) % (3 : Int32))), .val (.ref pa), .val (.int (Int32.ofNat wn)), .val (.ref b2), .val (.long ((Int32.ofNat lv).toInt64)), .second, .unset, .unset] [(.long (4 : Int64)), (.long (own_pd ((8 : Int64) * ((Int32.ofNat wn).toInt64)))), (.long ((Int32.ofNat lv).toInt64)), (.long ((3 : Int64) * (own_pd ((4 : Int64) * ((Int32.ofNat lv).toInt64)))))])) (fun t9 k9 => X9.ldc2Long hx hown (mvT hZ (hw _ (List.mem_of_getElem? (i := 51) rfl))) (g := (mkF m 123 #[.val (.int p1), .val (.int p2), .val (.int p3), .val (.int (p1 &&& (2147483647 : Int32))), .val (.int ((p2 &&& (2147483647 : Int32)) % (3 : Int32))), .val (.ref pa), .val (.int (Int32.ofNat wn)), .val (.ref b2), .val (.long ((Int32.ofNat lv).toInt64)), .second, .unset, .unset] [(.long (own_pd ((8 : Int64) * ((Int32.ofNat wn).toInt64)))), (.long ((Int32.ofNat lv).toInt64)), (.long ((3 : Int64) * (own_pd ((4 : Int64) * ((Int32.ofNat lv).toInt64)))))])) rfl (hb hby at_123) t9 k9) ?_
    refine own_st (T' := T9) (g' := (mkF m 128 #[.val (.int p1), .val (.int p2), .val (.int p3), .val (.int (p1 &&& (2147483647 : Int32))), .val (.int ((p2 &&& (2147483647 : Int32)) % (3 : Int32))), .val (.ref pa), .val (.int (Int32.ofNat wn)), .val (.ref b2), .val (.long ((Int32.ofNat lv).toInt64)), .second, .unset, .unset] [(.int (Int32.ofNat wn)), (.long (4 : Int64)), (.long (own_pd ((8 : Int64) * ((Int32.ofNat wn).toInt64)))), (.long ((Int32.ofNat lv).toInt64)), (.long ((3 : Int64) * (own_pd ((4 : Int64) * ((Int32.ofNat lv).toInt64)))))])) (fun t9 k9 => XS.iload X9.here hx rfl (hb hby at_126) rfl k9) ?_
    refine own_st (T' := T9) (g' := (mkF m 129 #[.val (.int p1), .val (.int p2), .val (.int p3), .val (.int (p1 &&& (2147483647 : Int32))), .val (.int ((p2 &&& (2147483647 : Int32)) % (3 : Int32))), .val (.ref pa), .val (.int (Int32.ofNat wn)), .val (.ref b2), .val (.long ((Int32.ofNat lv).toInt64)), .second, .unset, .unset] [(.long ((Int32.ofNat wn).toInt64)), (.long (4 : Int64)), (.long (own_pd ((8 : Int64) * ((Int32.ofNat wn).toInt64)))), (.long ((Int32.ofNat lv).toInt64)), (.long ((3 : Int64) * (own_pd ((4 : Int64) * ((Int32.ofNat lv).toInt64)))))])) (fun t9 k9 => XS.i2l X9.here hx rfl (hb hby at_128) rfl k9) ?_
    refine own_st (T' := T9) (g' := (mkF m 130 #[.val (.int p1), .val (.int p2), .val (.int p3), .val (.int (p1 &&& (2147483647 : Int32))), .val (.int ((p2 &&& (2147483647 : Int32)) % (3 : Int32))), .val (.ref pa), .val (.int (Int32.ofNat wn)), .val (.ref b2), .val (.long ((Int32.ofNat lv).toInt64)), .second, .unset, .unset] [(.long ((4 : Int64) * ((Int32.ofNat wn).toInt64))), (.long (own_pd ((8 : Int64) * ((Int32.ofNat wn).toInt64)))), (.long ((Int32.ofNat lv).toInt64)), (.long ((3 : Int64) * (own_pd ((4 : Int64) * ((Int32.ofNat lv).toInt64)))))])) (fun t9 k9 => XS.lmul X9.here hx rfl (hb hby at_129) rfl k9) ?_
    obtain ⟨_, _, ⟨T10, L10, k10, n10⟩, -, X10, ⟨Lc10, hQ10, l10, y10, z10⟩, st10⟩ := Jvm.LawKit.callS X9 hx (y := (⟨"com/example/newsweave/newsweave/nas/PlaceRecordsHeapPinLaw", "pad", "(J)J"⟩ : MethodName)) hown (mvT hZ (hw _ (List.mem_of_getElem? (i := 52) rfl))) (mvT hZ (hw _ (List.mem_of_getElem? (i := 53) rfl))) (mvT hZ (hw _ (List.mem_of_getElem? (i := 47) rfl))) (mvT hZ (hw _ (List.mem_of_getElem? (i := 54) rfl))) (by decide) (own_back (W := 6) (rm8 l Z a0 hw ((4 : Int64) * ((Int32.ofNat wn).toInt64)) h4 n0 Z4) hZ (hw _ (List.mem_of_getElem? (i := 54) rfl)) (hw _ (List.mem_of_getElem? (i := 47) rfl)) (by decide) (by decide)) (g := (mkF m 130 #[.val (.int p1), .val (.int p2), .val (.int p3), .val (.int (p1 &&& (2147483647 : Int32))), .val (.int ((p2 &&& (2147483647 : Int32)) % (3 : Int32))), .val (.ref pa), .val (.int (Int32.ofNat wn)), .val (.ref b2), .val (.long ((Int32.ofNat lv).toInt64)), .second, .unset, .unset] [(.long ((4 : Int64) * ((Int32.ofNat wn).toInt64))), (.long (own_pd ((8 : Int64) * ((Int32.ofNat wn).toInt64)))), (.long ((Int32.ofNat lv).toInt64)), (.long ((3 : Int64) * (own_pd ((4 : Int64) * ((Int32.ofNat lv).toInt64)))))])) rfl (by rw [hml]; rfl) (argsL := [(.long ((4 : Int64) * ((Int32.ofNat wn).toInt64)))]) (rest := [(.long (own_pd ((8 : Int64) * ((Int32.ofNat wn).toInt64)))), (.long ((Int32.ofNat lv).toInt64)), (.long ((3 : Int64) * (own_pd ((4 : Int64) * ((Int32.ofNat lv).toInt64)))))]) (lenOf pd_6 rfl) rfl (by show 2 * 0 + _ ≤ _; exact Nat.le_of_eq rfl) (hb hby at_130) (fun _ _ => ⟨rfl, e9, (Nat.le_of_ble_eq_true rfl), (Nat.le_of_ble_eq_true rfl)⟩)
    dsimp only [Pt.U, Pt.locs, Pt.cells, Pt.slots] at X10 l10 y10 z10 st10 hQ10
    subst l10 y10 z10
    obtain ⟨rfl, Nq10, he10⟩ := hQ10
    have N10 := Fr.app N9 Nq10
    have e10 : T10.heap = h4 := he10
    refine own_st (T' := T10) (g' := (mkF m 133 #[.val (.int p1), .val (.int p2), .val (.int p3), .val (.int (p1 &&& (2147483647 : Int32))), .val (.int ((p2 &&& (2147483647 : Int32)) % (3 : Int32))), .val (.ref pa), .val (.int (Int32.ofNat wn)), .val (.ref b2), .val (.long ((Int32.ofNat lv).toInt64)), .second, .unset, .unset] [(.long (own_pd ((4 : Int64) * ((Int32.ofNat wn).toInt64)))), (.long (own_pd ((8 : Int64) * ((Int32.ofNat wn).toInt64)))), (.long ((Int32.ofNat lv).toInt64)), (.long ((3 : Int64) * (own_pd ((4 : Int64) * ((Int32.ofNat lv).toInt64)))))])) (fun t9 k9 => st10 t9 k9) ?_
    refine own_st (T' := T10) (g' := (mkF m 134 #[.val (.int p1), .val (.int p2), .val (.int p3), .val (.int (p1 &&& (2147483647 : Int32))), .val (.int ((p2 &&& (2147483647 : Int32)) % (3 : Int32))), .val (.ref pa), .val (.int (Int32.ofNat wn)), .val (.ref b2), .val (.long ((Int32.ofNat lv).toInt64)), .second, .unset, .unset] [(.long ((own_pd ((8 : Int64) * ((Int32.ofNat wn).toInt64))) + (own_pd ((4 : Int64) * ((Int32.ofNat wn).toInt64))))), (.long ((Int32.ofNat lv).toInt64)), (.long ((3 : Int64) * (own_pd ((4 : Int64) * ((Int32.ofNat lv).toInt64)))))])) (fun t9 k9 => XS.ladd X10.here hx rfl (hb hby at_133) rfl k9) ?_
    refine own_st (T' := T10) (g' := (mkF m 135 #[.val (.int p1), .val (.int p2), .val (.int p3), .val (.int (p1 &&& (2147483647 : Int32))), .val (.int ((p2 &&& (2147483647 : Int32)) % (3 : Int32))), .val (.ref pa), .val (.int (Int32.ofNat wn)), .val (.ref b2), .val (.long ((Int32.ofNat lv).toInt64)), .second, .unset, .unset] [(.long (((Int32.ofNat lv).toInt64) * ((own_pd ((8 : Int64) * ((Int32.ofNat wn).toInt64))) + (own_pd ((4 : Int64) * ((Int32.ofNat wn).toInt64)))))), (.long ((3 : Int64) * (own_pd ((4 : Int64) * ((Int32.ofNat lv).toInt64)))))])) (fun t9 k9 => XS.lmul X10.here hx rfl (hb hby at_134) rfl k9) ?_
    refine own_st (T' := T10) (g' := (mkF m 136 #[.val (.int p1), .val (.int p2), .val (.int p3), .val (.int (p1 &&& (2147483647 : Int32))), .val (.int ((p2 &&& (2147483647 : Int32)) % (3 : Int32))), .val (.ref pa), .val (.int (Int32.ofNat wn)), .val (.ref b2), .val (.long ((Int32.ofNat lv).toInt64)), .second, .unset, .unset] [(.long (((3 : Int64) * (own_pd ((4 : Int64) * ((Int32.ofNat lv).toInt64)))) + (((Int32.ofNat lv).toInt64) * ((own_pd ((8 : Int64) * ((Int32.ofNat wn).toInt64))) + (own_pd ((4 : Int64) * ((Int32.ofNat wn).toInt64)))))))])) (fun t9 k9 => XS.ladd X10.here hx rfl (hb hby at_135) rfl k9) ?_
    refine own_st (T' := T10) (g' := (mkF m 138 #[.val (.int p1), .val (.int p2), .val (.int p3), .val (.int (p1 &&& (2147483647 : Int32))), .val (.int ((p2 &&& (2147483647 : Int32)) % (3 : Int32))), .val (.ref pa), .val (.int (Int32.ofNat wn)), .val (.ref b2), .val (.long ((Int32.ofNat lv).toInt64)), .second, .val (.long (((3 : Int64) * (own_pd ((4 : Int64) * ((Int32.ofNat lv).toInt64)))) + (((Int32.ofNat lv).toInt64) * ((own_pd ((8 : Int64) * ((Int32.ofNat wn).toInt64))) + (own_pd ((4 : Int64) * ((Int32.ofNat wn).toInt64))))))), .second] [])) (fun t9 k9 => XS.lstore X10.here hx rfl (hb hby at_136) rfl (l' := #[.val (.int p1), .val (.int p2), .val (.int p3), .val (.int (p1 &&& (2147483647 : Int32))), .val (.int ((p2 &&& (2147483647 : Int32)) % (3 : Int32))), .val (.ref pa), .val (.int (Int32.ofNat wn)), .val (.ref b2), .val (.long ((Int32.ofNat lv).toInt64)), .second, .val (.long (((3 : Int64) * (own_pd ((4 : Int64) * ((Int32.ofNat lv).toInt64)))) + (((Int32.ofNat lv).toInt64) * ((own_pd ((8 : Int64) * ((Int32.ofNat wn).toInt64))) + (own_pd ((4 : Int64) * ((Int32.ofNat wn).toInt64))))))), .second]) rfl k9) ?_
    refine own_st (T' := T10) (g' := (mkF m 140 #[.val (.int p1), .val (.int p2), .val (.int p3), .val (.int (p1 &&& (2147483647 : Int32))), .val (.int ((p2 &&& (2147483647 : Int32)) % (3 : Int32))), .val (.ref pa), .val (.int (Int32.ofNat wn)), .val (.ref b2), .val (.long ((Int32.ofNat lv).toInt64)), .second, .val (.long (((3 : Int64) * (own_pd ((4 : Int64) * ((Int32.ofNat lv).toInt64)))) + (((Int32.ofNat lv).toInt64) * ((own_pd ((8 : Int64) * ((Int32.ofNat wn).toInt64))) + (own_pd ((4 : Int64) * ((Int32.ofNat wn).toInt64))))))), .second] [(.ref b2)])) (fun t9 k9 => XS.aload X10.here hx rfl (hb hby at_138) rfl rfl k9) ?_
    obtain ⟨cq11, kq11, qa11, qb11, qc11⟩ := isOf hZ e10 Eq4
    obtain ⟨_, _, ⟨T11, L11, k11, n11⟩, -, X11, ⟨Lc11, hQ11, l11, y11, z11⟩, st11⟩ := X10.virtualBack hx (y := (⟨"com/example/newsweave/newsweave/nas/PlaceRecords", "heap", "()J"⟩ : MethodName)) (z := (⟨"com/example/newsweave/newsweave/nas/PlaceRecords", "heap", "()J"⟩ : MethodName)) hown (mvT hZ (hw _ (List.mem_of_getElem? (i := 58) rfl))) (mvT hZ (hw _ (List.mem_of_getElem? (i := 59) rfl))) (notFace_of_selects (args := #[]) (mvT hZ (hw _ (List.mem_of_getElem? (i := 61) rfl)))) (mvT hZ (hw _ (List.mem_of_getElem? (i := 61) rfl))) (mvT hZ (hw _ (List.mem_of_getElem? (i := 60) rfl))) (by decide) (own_back (W := 0) (rm9 l Z a0 hw b2 ro4 ob4 kr4 ko4 lv wn h4 n0 Z4 Fl4 Fr4 Fo4 Vr4 Vo4 Gx4 Gy4 hlv hw2) hZ (hw _ (List.mem_of_getElem? (i := 62) rfl)) (hw _ (List.mem_of_getElem? (i := 4) rfl)) (by decide) (by decide)) qa11 qc11 (g := (mkF m 140 #[.val (.int p1), .val (.int p2), .val (.int p3), .val (.int (p1 &&& (2147483647 : Int32))), .val (.int ((p2 &&& (2147483647 : Int32)) % (3 : Int32))), .val (.ref pa), .val (.int (Int32.ofNat wn)), .val (.ref b2), .val (.long ((Int32.ofNat lv).toInt64)), .second, .val (.long (((3 : Int64) * (own_pd ((4 : Int64) * ((Int32.ofNat lv).toInt64)))) + (((Int32.ofNat lv).toInt64) * ((own_pd ((8 : Int64) * ((Int32.ofNat wn).toInt64))) + (own_pd ((4 : Int64) * ((Int32.ofNat wn).toInt64))))))), .second] [(.ref b2)])) rfl (by rw [hml]; rfl) (Steps.refl _) (argsL := []) (rest := []) (lenOf pd_7 rfl) rfl (by show 2 * 0 + _ ≤ _; exact Nat.le_of_eq rfl) (hb hby at_140) (fun _ _ => ⟨rfl, e10, (Nat.le_of_ble_eq_true rfl), (Nat.le_of_ble_eq_true rfl)⟩)
    dsimp only [Pt.U, Pt.locs, Pt.cells, Pt.slots] at X11 l11 y11 z11 st11 hQ11
    subst l11 y11 z11
    obtain ⟨rfl, Nq11, he11⟩ := hQ11
    have N11 := Fr.app N10 Nq11
    have e11 : T11.heap = h4 := he11
    refine own_st (T' := T11) (g' := (mkF m 143 #[.val (.int p1), .val (.int p2), .val (.int p3), .val (.int (p1 &&& (2147483647 : Int32))), .val (.int ((p2 &&& (2147483647 : Int32)) % (3 : Int32))), .val (.ref pa), .val (.int (Int32.ofNat wn)), .val (.ref b2), .val (.long ((Int32.ofNat lv).toInt64)), .second, .val (.long (((3 : Int64) * (own_pd ((4 : Int64) * ((Int32.ofNat lv).toInt64)))) + (((Int32.ofNat lv).toInt64) * ((own_pd ((8 : Int64) * ((Int32.ofNat wn).toInt64))) + (own_pd ((4 : Int64) * ((Int32.ofNat wn).toInt64))))))), .second] [(.long (own_acc lv wn lv))])) (fun t9 k9 => st11.trans k9) ?_
    refine own_st (T' := T11) (g' := (mkF m 145 #[.val (.int p1), .val (.int p2), .val (.int p3), .val (.int (p1 &&& (2147483647 : Int32))), .val (.int ((p2 &&& (2147483647 : Int32)) % (3 : Int32))), .val (.ref pa), .val (.int (Int32.ofNat wn)), .val (.ref b2), .val (.long ((Int32.ofNat lv).toInt64)), .second, .val (.long (((3 : Int64) * (own_pd ((4 : Int64) * ((Int32.ofNat lv).toInt64)))) + (((Int32.ofNat lv).toInt64) * ((own_pd ((8 : Int64) * ((Int32.ofNat wn).toInt64))) + (own_pd ((4 : Int64) * ((Int32.ofNat wn).toInt64))))))), .second] [(.long (((3 : Int64) * (own_pd ((4 : Int64) * ((Int32.ofNat lv).toInt64)))) + (((Int32.ofNat lv).toInt64) * ((own_pd ((8 : Int64) * ((Int32.ofNat wn).toInt64))) + (own_pd ((4 : Int64) * ((Int32.ofNat wn).toInt64))))))), (.long (own_acc lv wn lv))])) (fun t9 k9 => XS.lload X11.here hx rfl (hb hby at_143) rfl k9) ?_
    refine own_st (T' := T11) (g' := (mkF m 146 #[.val (.int p1), .val (.int p2), .val (.int p3), .val (.int (p1 &&& (2147483647 : Int32))), .val (.int ((p2 &&& (2147483647 : Int32)) % (3 : Int32))), .val (.ref pa), .val (.int (Int32.ofNat wn)), .val (.ref b2), .val (.long ((Int32.ofNat lv).toInt64)), .second, .val (.long (((3 : Int64) * (own_pd ((4 : Int64) * ((Int32.ofNat lv).toInt64)))) + (((Int32.ofNat lv).toInt64) * ((own_pd ((8 : Int64) * ((Int32.ofNat wn).toInt64))) + (own_pd ((4 : Int64) * ((Int32.ofNat wn).toInt64))))))), .second] [(.int (lcmpW (own_acc lv wn lv) (((3 : Int64) * (own_pd ((4 : Int64) * ((Int32.ofNat lv).toInt64)))) + (((Int32.ofNat lv).toInt64) * ((own_pd ((8 : Int64) * ((Int32.ofNat wn).toInt64))) + (own_pd ((4 : Int64) * ((Int32.ofNat wn).toInt64))))))))])) (fun t9 k9 => XS.lcmp X11.here hx rfl (hb hby at_145) rfl k9) ?_
    refine own_st (T' := T11) (g' := (mkF m 149 #[.val (.int p1), .val (.int p2), .val (.int p3), .val (.int (p1 &&& (2147483647 : Int32))), .val (.int ((p2 &&& (2147483647 : Int32)) % (3 : Int32))), .val (.ref pa), .val (.int (Int32.ofNat wn)), .val (.ref b2), .val (.long ((Int32.ofNat lv).toInt64)), .second, .val (.long (((3 : Int64) * (own_pd ((4 : Int64) * ((Int32.ofNat lv).toInt64)))) + (((Int32.ofNat lv).toInt64) * ((own_pd ((8 : Int64) * ((Int32.ofNat wn).toInt64))) + (own_pd ((4 : Int64) * ((Int32.ofNat wn).toInt64))))))), .second] [])) (fun t9 k9 => XS.ifNo X11.here hx rfl (hb hby at_146) rfl ((if0 _ _).trans (teq ((lw_eq _ _).mpr (own_fin hlv (by omega)) : (lcmpW (own_acc lv wn lv) (((3 : Int64) * (own_pd ((4 : Int64) * ((Int32.ofNat lv).toInt64)))) + (((Int32.ofNat lv).toInt64) * ((own_pd ((8 : Int64) * ((Int32.ofNat wn).toInt64))) + (own_pd ((4 : Int64) * ((Int32.ofNat wn).toInt64))))))) = (0 : Int32))).2) k9) ?_
    refine own_st (T' := T11) (g' := (mkF m 150 #[.val (.int p1), .val (.int p2), .val (.int p3), .val (.int (p1 &&& (2147483647 : Int32))), .val (.int ((p2 &&& (2147483647 : Int32)) % (3 : Int32))), .val (.ref pa), .val (.int (Int32.ofNat wn)), .val (.ref b2), .val (.long ((Int32.ofNat lv).toInt64)), .second, .val (.long (((3 : Int64) * (own_pd ((4 : Int64) * ((Int32.ofNat lv).toInt64)))) + (((Int32.ofNat lv).toInt64) * ((own_pd ((8 : Int64) * ((Int32.ofNat wn).toInt64))) + (own_pd ((4 : Int64) * ((Int32.ofNat wn).toInt64))))))), .second] [(.int (1 : Int32))])) (fun t9 k9 => XS.iconst X11.here hx rfl (hb hby at_149) k9) ?_
    refine own_st (T' := T11) (g' := (mkF m 154 #[.val (.int p1), .val (.int p2), .val (.int p3), .val (.int (p1 &&& (2147483647 : Int32))), .val (.int ((p2 &&& (2147483647 : Int32)) % (3 : Int32))), .val (.ref pa), .val (.int (Int32.ofNat wn)), .val (.ref b2), .val (.long ((Int32.ofNat lv).toInt64)), .second, .val (.long (((3 : Int64) * (own_pd ((4 : Int64) * ((Int32.ofNat lv).toInt64)))) + (((Int32.ofNat lv).toInt64) * ((own_pd ((8 : Int64) * ((Int32.ofNat wn).toInt64))) + (own_pd ((4 : Int64) * ((Int32.ofNat wn).toInt64))))))), .second] [(.int (1 : Int32))])) (fun t9 k9 => XS.goto X11.here hx rfl (pc0 := 150) (pc' := 154) rfl (hb hby at_150) (by decide) (by decide) k9) ?_
    refine own_ret (v := some (.int (1 : Int32))) hF X11 (own_some hret) hlk (fun fs hr => retN X11 hx (t := .boolean) hret (by simp) (hb hby at_154) hr) ?_ (by decide) (by decide)
    try rw [e11]
    exact ⟨rfl, N11⟩
  by_cases hk0 : ((p2 &&& (2147483647 : Int32)) % (3 : Int32)) = (0 : Int32)
  · refine own_st (T' := T0) (g' := (mkF m 18 #[.val (.int p1), .val (.int p2), .val (.int p3), .val (.int (p1 &&& (2147483647 : Int32))), .val (.int ((p2 &&& (2147483647 : Int32)) % (3 : Int32))), .unset, .unset, .unset, .unset, .unset, .unset, .unset] [])) (fun t9 k9 => XS.ifNo X0.here hx rfl (hb hby at_15) rfl ((if0 _ _).trans (teq hk0).2) k9) ?_
    refine own_st (T' := T0) (g' := (mkF m 19 #[.val (.int p1), .val (.int p2), .val (.int p3), .val (.int (p1 &&& (2147483647 : Int32))), .val (.int ((p2 &&& (2147483647 : Int32)) % (3 : Int32))), .unset, .unset, .unset, .unset, .unset, .unset, .unset] [(.int (0 : Int32))])) (fun t9 k9 => XS.iconst X0.here hx rfl (hb hby at_18) k9) ?_
    obtain ⟨T12, h12, k12, X12, e12, Ex12, A12, st12⟩ := newP X0 hx hZ (hw _ (List.mem_of_getElem? (i := 1) rfl)) e0 (g := (mkF m 19 #[.val (.int p1), .val (.int p2), .val (.int p3), .val (.int (p1 &&& (2147483647 : Int32))), .val (.int ((p2 &&& (2147483647 : Int32)) % (3 : Int32))), .unset, .unset, .unset, .unset, .unset, .unset, .unset] [(.int (0 : Int32))])) rfl (hb hby at_19) rfl (by decide) (cap := 0) (by decide) (by decide) (by decide) (by decide)
    obtain ⟨b12, gb12⟩ : ∃ z, z = h0.size := ⟨_, rfl⟩
    have g_b12 : n0 ≤ b12 := gb12 ▸ Z0
    have sz_b12 : h0.size ≤ b12 := gb12 ▸ K0.1
    rw [← gb12] at A12 st12
    have K12 := K0.ext Ex12
    have Z12 : n0 ≤ h12.size := Nat.le_trans Z0 Ex12.1
    have V_b12 : Arv Z h12 b12 k12 .int (0 : Int32) [] (.int (0 : Int32)) := (Arv.new A12 (by decide)).pad (pad_rep [] (.int (0 : Int32)) 0)
    refine own_st (T' := T12) (g' := (mkF m 21 #[.val (.int p1), .val (.int p2), .val (.int p3), .val (.int (p1 &&& (2147483647 : Int32))), .val (.int ((p2 &&& (2147483647 : Int32)) % (3 : Int32))), .unset, .unset, .unset, .unset, .unset, .unset, .unset] [(.ref b12)])) (fun t9 k9 => st12 t9 k9) ?_
    refine own_st (T' := T12) (g' := (mkF m 23 #[.val (.int p1), .val (.int p2), .val (.int p3), .val (.int (p1 &&& (2147483647 : Int32))), .val (.int ((p2 &&& (2147483647 : Int32)) % (3 : Int32))), .val (.ref b12), .unset, .unset, .unset, .unset, .unset, .unset] [])) (fun t9 k9 => XS.astore X12.here hx rfl (hb hby at_21) rfl rfl (l' := #[.val (.int p1), .val (.int p2), .val (.int p3), .val (.int (p1 &&& (2147483647 : Int32))), .val (.int ((p2 &&& (2147483647 : Int32)) % (3 : Int32))), .val (.ref b12), .unset, .unset, .unset, .unset, .unset, .unset]) rfl k9) ?_
    refine own_st (T' := T12) (g' := (mkF m 24 #[.val (.int p1), .val (.int p2), .val (.int p3), .val (.int (p1 &&& (2147483647 : Int32))), .val (.int ((p2 &&& (2147483647 : Int32)) % (3 : Int32))), .val (.ref b12), .unset, .unset, .unset, .unset, .unset, .unset] [(.int (1 : Int32))])) (fun t9 k9 => XS.iconst X12.here hx rfl (hb hby at_23) k9) ?_
    refine own_st (T' := T12) (g' := (mkF m 26 #[.val (.int p1), .val (.int p2), .val (.int p3), .val (.int (p1 &&& (2147483647 : Int32))), .val (.int ((p2 &&& (2147483647 : Int32)) % (3 : Int32))), .val (.ref b12), .val (.int (1 : Int32)), .unset, .unset, .unset, .unset, .unset] [])) (fun t9 k9 => XS.istore X12.here hx rfl (hb hby at_24) rfl (l' := #[.val (.int p1), .val (.int p2), .val (.int p3), .val (.int (p1 &&& (2147483647 : Int32))), .val (.int ((p2 &&& (2147483647 : Int32)) % (3 : Int32))), .val (.ref b12), .val (.int (1 : Int32)), .unset, .unset, .unset, .unset, .unset]) rfl k9) ?_
    refine own_st (T' := T12) (g' := (mkF m 79 #[.val (.int p1), .val (.int p2), .val (.int p3), .val (.int (p1 &&& (2147483647 : Int32))), .val (.int ((p2 &&& (2147483647 : Int32)) % (3 : Int32))), .val (.ref b12), .val (.int (1 : Int32)), .unset, .unset, .unset, .unset, .unset] [])) (fun t9 k9 => XS.goto X12.here hx rfl (pc0 := 26) (pc' := 79) rfl (hb hby at_26) (by decide) (by decide) k9) ?_
    have Mx := X12.more (cells' := 1) (slots' := 64) (by decide) (by decide)
    exact j79 _ _ _ b12 _ 0 1 0 _ Mx e12 N0 Z12 K12 V_b12 (Or.inl ⟨rfl, by decide⟩) One.u
  · refine own_st (T' := T0) (g' := (mkF m 29 #[.val (.int p1), .val (.int p2), .val (.int p3), .val (.int (p1 &&& (2147483647 : Int32))), .val (.int ((p2 &&& (2147483647 : Int32)) % (3 : Int32))), .unset, .unset, .unset, .unset, .unset, .unset, .unset] [])) (fun t9 k9 => XS.ifYes X0.here hx rfl (pc0 := 15) (pc' := 29) rfl (hb hby at_15) rfl ((if0 _ _).trans (feq hk0).2) (by decide) (by decide) k9) ?_
    refine own_st (T' := T0) (g' := (mkF m 31 #[.val (.int p1), .val (.int p2), .val (.int p3), .val (.int (p1 &&& (2147483647 : Int32))), .val (.int ((p2 &&& (2147483647 : Int32)) % (3 : Int32))), .unset, .unset, .unset, .unset, .unset, .unset, .unset] [(.int ((p2 &&& (2147483647 : Int32)) % (3 : Int32)))])) (fun t9 k9 => XS.iload X0.here hx rfl (hb hby at_29) rfl k9) ?_
    refine own_st (T' := T0) (g' := (mkF m 32 #[.val (.int p1), .val (.int p2), .val (.int p3), .val (.int (p1 &&& (2147483647 : Int32))), .val (.int ((p2 &&& (2147483647 : Int32)) % (3 : Int32))), .unset, .unset, .unset, .unset, .unset, .unset, .unset] [(.int (1 : Int32)), (.int ((p2 &&& (2147483647 : Int32)) % (3 : Int32)))])) (fun t9 k9 => XS.iconst X0.here hx rfl (hb hby at_31) k9) ?_
    by_cases hk1 : ((p2 &&& (2147483647 : Int32)) % (3 : Int32)) = (1 : Int32)
    · refine own_st (T' := T0) (g' := (mkF m 35 #[.val (.int p1), .val (.int p2), .val (.int p3), .val (.int (p1 &&& (2147483647 : Int32))), .val (.int ((p2 &&& (2147483647 : Int32)) % (3 : Int32))), .unset, .unset, .unset, .unset, .unset, .unset, .unset] [])) (fun t9 k9 => XS.icmpNo X0.here hx rfl (hb hby at_32) rfl (teq hk1).2 k9) ?_
      refine own_st (T' := T0) (g' := (mkF m 36 #[.val (.int p1), .val (.int p2), .val (.int p3), .val (.int (p1 &&& (2147483647 : Int32))), .val (.int ((p2 &&& (2147483647 : Int32)) % (3 : Int32))), .unset, .unset, .unset, .unset, .unset, .unset, .unset] [(.int (-1 : Int32))])) (fun t9 k9 => XS.iconst X0.here hx rfl (hb hby at_35) k9) ?_
      refine own_st (T' := T0) (g' := (mkF m 38 #[.val (.int p1), .val (.int p2), .val (.int p3), .val (.int (p1 &&& (2147483647 : Int32))), .val (.int ((p2 &&& (2147483647 : Int32)) % (3 : Int32))), .unset, .unset, .val (.int (-1 : Int32)), .unset, .unset, .unset, .unset] [])) (fun t9 k9 => XS.istore X0.here hx rfl (hb hby at_36) rfl (l' := #[.val (.int p1), .val (.int p2), .val (.int p3), .val (.int (p1 &&& (2147483647 : Int32))), .val (.int ((p2 &&& (2147483647 : Int32)) % (3 : Int32))), .unset, .unset, .val (.int (-1 : Int32)), .unset, .unset, .unset, .unset]) rfl k9) ?_
      have j55 : ∀ (q7 : Int32), own_Go p e below F T0 (mkF m 55 #[.val (.int p1), .val (.int p2), .val (.int p3), .val (.int (p1 &&& (2147483647 : Int32))), .val (.int ((p2 &&& (2147483647 : Int32)) % (3 : Int32))), .unset, .unset, .val (.int q7), .unset, .unset, .unset, .unset] []) := by
        intro q7
        refine own_st (T' := T0) (g' := (mkF m 56 #[.val (.int p1), .val (.int p2), .val (.int p3), .val (.int (p1 &&& (2147483647 : Int32))), .val (.int ((p2 &&& (2147483647 : Int32)) % (3 : Int32))), .unset, .unset, .val (.int q7), .unset, .unset, .unset, .unset] [(.int (1 : Int32))])) (fun t9 k9 => XS.iconst X0.here hx rfl (hb hby at_55) k9) ?_
        obtain ⟨T13, h13, k13, X13, e13, Ex13, A13, st13⟩ := newP X0 hx hZ (hw _ (List.mem_of_getElem? (i := 1) rfl)) e0 (g := (mkF m 56 #[.val (.int p1), .val (.int p2), .val (.int p3), .val (.int (p1 &&& (2147483647 : Int32))), .val (.int ((p2 &&& (2147483647 : Int32)) % (3 : Int32))), .unset, .unset, .val (.int q7), .unset, .unset, .unset, .unset] [(.int (1 : Int32))])) rfl (hb hby at_56) rfl (by decide) (cap := 1) (by decide) (by decide) (by decide) (by decide)
        obtain ⟨b13, gb13⟩ : ∃ z, z = h0.size := ⟨_, rfl⟩
        have g_b13 : n0 ≤ b13 := gb13 ▸ Z0
        have sz_b13 : h0.size ≤ b13 := gb13 ▸ K0.1
        rw [← gb13] at A13 st13
        have K13 := K0.ext Ex13
        have Z13 : n0 ≤ h13.size := Nat.le_trans Z0 Ex13.1
        have V_b13 : Arv Z h13 b13 k13 .int (1 : Int32) [(.int (0 : Int32))] (.int (0 : Int32)) := (Arv.new A13 (by decide)).pad (pad_rep [] (.int (0 : Int32)) 1)
        refine own_st (T' := T13) (g' := (mkF m 58 #[.val (.int p1), .val (.int p2), .val (.int p3), .val (.int (p1 &&& (2147483647 : Int32))), .val (.int ((p2 &&& (2147483647 : Int32)) % (3 : Int32))), .unset, .unset, .val (.int q7), .unset, .unset, .unset, .unset] [(.ref b13)])) (fun t9 k9 => st13 t9 k9) ?_
        refine own_st (T' := T13) (g' := (mkF m 59 #[.val (.int p1), .val (.int p2), .val (.int p3), .val (.int (p1 &&& (2147483647 : Int32))), .val (.int ((p2 &&& (2147483647 : Int32)) % (3 : Int32))), .unset, .unset, .val (.int q7), .unset, .unset, .unset, .unset] [(.ref b13), (.ref b13)])) (fun t9 k9 => XS.dup X13.here hx rfl (hb hby at_58) rfl rfl k9) ?_
        refine own_st (T' := T13) (g' := (mkF m 60 #[.val (.int p1), .val (.int p2), .val (.int p3), .val (.int (p1 &&& (2147483647 : Int32))), .val (.int ((p2 &&& (2147483647 : Int32)) % (3 : Int32))), .unset, .unset, .val (.int q7), .unset, .unset, .unset, .unset] [(.int (0 : Int32)), (.ref b13), (.ref b13)])) (fun t9 k9 => XS.iconst X13.here hx rfl (hb hby at_59) k9) ?_
        refine own_st (T' := T13) (g' := (mkF m 62 #[.val (.int p1), .val (.int p2), .val (.int p3), .val (.int (p1 &&& (2147483647 : Int32))), .val (.int ((p2 &&& (2147483647 : Int32)) % (3 : Int32))), .unset, .unset, .val (.int q7), .unset, .unset, .unset, .unset] [(.int q7), (.int (0 : Int32)), (.ref b13), (.ref b13)])) (fun t9 k9 => XS.iload X13.here hx rfl (hb hby at_60) rfl k9) ?_
        obtain ⟨clu14, Aru14, qu14, Su14, Nu14, Hu14, Gu14⟩ := (id V_b13)
        obtain ⟨T15, h15, X15, e15, W15, st15⟩ := stI X13 hx hZ e13 Aru14 (j := (0 : Int32)) (inb_of Su14 ⟨by decide, by decide⟩) (g := (mkF m 62 #[.val (.int p1), .val (.int p2), .val (.int p3), .val (.int (p1 &&& (2147483647 : Int32))), .val (.int ((p2 &&& (2147483647 : Int32)) % (3 : Int32))), .unset, .unset, .val (.int q7), .unset, .unset, .unset, .unset] [(.int q7), (.int (0 : Int32)), (.ref b13), (.ref b13)])) rfl rfl (hb hby at_62)
        have Va15 := Arv.set Aru14 qu14 Su14 Nu14 Hu14 Gu14 rfl W15 0 rfl (by first | (simp; done) | exact Nat.le_of_ble_eq_true rfl)
        have K15 := K13.wr W15 (Or.inr sz_b13)
        have N15 := Fr.snoc X15 N0 g_b13
        have Z15 : n0 ≤ h15.size := by rw [W15.size]; exact Z13
        refine own_st (T' := T15) (g' := (mkF m 63 #[.val (.int p1), .val (.int p2), .val (.int p3), .val (.int (p1 &&& (2147483647 : Int32))), .val (.int ((p2 &&& (2147483647 : Int32)) % (3 : Int32))), .unset, .unset, .val (.int q7), .unset, .unset, .unset, .unset] [(.ref b13)])) (fun t9 k9 => st15 t9 k9) ?_
        refine own_st (T' := T15) (g' := (mkF m 65 #[.val (.int p1), .val (.int p2), .val (.int p3), .val (.int (p1 &&& (2147483647 : Int32))), .val (.int ((p2 &&& (2147483647 : Int32)) % (3 : Int32))), .val (.ref b13), .unset, .val (.int q7), .unset, .unset, .unset, .unset] [])) (fun t9 k9 => XS.astore X15.here hx rfl (hb hby at_63) rfl rfl (l' := #[.val (.int p1), .val (.int p2), .val (.int p3), .val (.int (p1 &&& (2147483647 : Int32))), .val (.int ((p2 &&& (2147483647 : Int32)) % (3 : Int32))), .val (.ref b13), .unset, .val (.int q7), .unset, .unset, .unset, .unset]) rfl k9) ?_
        refine own_st (T' := T15) (g' := (mkF m 66 #[.val (.int p1), .val (.int p2), .val (.int p3), .val (.int (p1 &&& (2147483647 : Int32))), .val (.int ((p2 &&& (2147483647 : Int32)) % (3 : Int32))), .val (.ref b13), .unset, .val (.int q7), .unset, .unset, .unset, .unset] [(.int (1 : Int32))])) (fun t9 k9 => XS.iconst X15.here hx rfl (hb hby at_65) k9) ?_
        refine own_st (T' := T15) (g' := (mkF m 68 #[.val (.int p1), .val (.int p2), .val (.int p3), .val (.int (p1 &&& (2147483647 : Int32))), .val (.int ((p2 &&& (2147483647 : Int32)) % (3 : Int32))), .val (.ref b13), .val (.int (1 : Int32)), .val (.int q7), .unset, .unset, .unset, .unset] [])) (fun t9 k9 => XS.istore X15.here hx rfl (hb hby at_66) rfl (l' := #[.val (.int p1), .val (.int p2), .val (.int p3), .val (.int (p1 &&& (2147483647 : Int32))), .val (.int ((p2 &&& (2147483647 : Int32)) % (3 : Int32))), .val (.ref b13), .val (.int (1 : Int32)), .val (.int q7), .unset, .unset, .unset, .unset]) rfl k9) ?_
        refine own_st (T' := T15) (g' := (mkF m 79 #[.val (.int p1), .val (.int p2), .val (.int p3), .val (.int (p1 &&& (2147483647 : Int32))), .val (.int ((p2 &&& (2147483647 : Int32)) % (3 : Int32))), .val (.ref b13), .val (.int (1 : Int32)), .val (.int q7), .unset, .unset, .unset, .unset] [])) (fun t9 k9 => XS.goto X15.here hx rfl (pc0 := 68) (pc' := 79) rfl (hb hby at_68) (by decide) (by decide) k9) ?_
        have Mx := X15.more (cells' := 1) (slots' := 64) (by decide) (by decide)
        exact j79 _ _ _ b13 _ 1 1 q7 _ Mx e15 N15 Z15 K15 Va15 (Or.inl ⟨rfl, by decide⟩) (One.val rfl)
      refine own_st (T' := T0) (g' := (mkF m 39 #[.val (.int p1), .val (.int p2), .val (.int p3), .val (.int (p1 &&& (2147483647 : Int32))), .val (.int ((p2 &&& (2147483647 : Int32)) % (3 : Int32))), .unset, .unset, .val (.int (-1 : Int32)), .unset, .unset, .unset, .unset] [(.int (p1 &&& (2147483647 : Int32)))])) (fun t9 k9 => XS.iloadN X0.here hx rfl (hb hby at_38) rfl k9) ?_
      by_cases hr0 : (0 : Int32) < (p1 &&& (2147483647 : Int32))
      · refine own_st (T' := T0) (g' := (mkF m 42 #[.val (.int p1), .val (.int p2), .val (.int p3), .val (.int (p1 &&& (2147483647 : Int32))), .val (.int ((p2 &&& (2147483647 : Int32)) % (3 : Int32))), .unset, .unset, .val (.int (-1 : Int32)), .unset, .unset, .unset, .unset] [])) (fun t9 k9 => XS.ifNo X0.here hx rfl (hb hby at_39) rfl ((if0 _ _).trans (tlt hr0).2.2.2) k9) ?_
        refine own_st (T' := T0) (g' := (mkF m 43 #[.val (.int p1), .val (.int p2), .val (.int p3), .val (.int (p1 &&& (2147483647 : Int32))), .val (.int ((p2 &&& (2147483647 : Int32)) % (3 : Int32))), .unset, .unset, .val (.int (-1 : Int32)), .unset, .unset, .unset, .unset] [(.int p3)])) (fun t9 k9 => XS.iloadN X0.here hx rfl (hb hby at_42) rfl k9) ?_
        refine own_st (T' := T0) (g' := (mkF m 44 #[.val (.int p1), .val (.int p2), .val (.int p3), .val (.int (p1 &&& (2147483647 : Int32))), .val (.int ((p2 &&& (2147483647 : Int32)) % (3 : Int32))), .unset, .unset, .val (.int (-1 : Int32)), .unset, .unset, .unset, .unset] [(.int (1 : Int32)), (.int p3)])) (fun t9 k9 => XS.iconst X0.here hx rfl (hb hby at_43) k9) ?_
        refine own_st (T' := T0) (g' := (mkF m 45 #[.val (.int p1), .val (.int p2), .val (.int p3), .val (.int (p1 &&& (2147483647 : Int32))), .val (.int ((p2 &&& (2147483647 : Int32)) % (3 : Int32))), .unset, .unset, .val (.int (-1 : Int32)), .unset, .unset, .unset, .unset] [(.int (p3 &&& (1 : Int32)))])) (fun t9 k9 => XS.iand X0.here hx rfl (hb hby at_44) rfl k9) ?_
        by_cases hb1 : (p3 &&& (1 : Int32)) = (0 : Int32)
        · refine own_st (T' := T0) (g' := (mkF m 55 #[.val (.int p1), .val (.int p2), .val (.int p3), .val (.int (p1 &&& (2147483647 : Int32))), .val (.int ((p2 &&& (2147483647 : Int32)) % (3 : Int32))), .unset, .unset, .val (.int (-1 : Int32)), .unset, .unset, .unset, .unset] [])) (fun t9 k9 => XS.ifYes X0.here hx rfl (pc0 := 45) (pc' := 55) rfl (hb hby at_45) rfl ((if0 _ _).trans (teq hb1).1) (by decide) (by decide) k9) ?_
          exact j55 _
        · refine own_st (T' := T0) (g' := (mkF m 48 #[.val (.int p1), .val (.int p2), .val (.int p3), .val (.int (p1 &&& (2147483647 : Int32))), .val (.int ((p2 &&& (2147483647 : Int32)) % (3 : Int32))), .unset, .unset, .val (.int (-1 : Int32)), .unset, .unset, .unset, .unset] [])) (fun t9 k9 => XS.ifNo X0.here hx rfl (hb hby at_45) rfl ((if0 _ _).trans (feq hb1).1) k9) ?_
          refine own_st (T' := T0) (g' := (mkF m 49 #[.val (.int p1), .val (.int p2), .val (.int p3), .val (.int (p1 &&& (2147483647 : Int32))), .val (.int ((p2 &&& (2147483647 : Int32)) % (3 : Int32))), .unset, .unset, .val (.int (-1 : Int32)), .unset, .unset, .unset, .unset] [(.int p3)])) (fun t9 k9 => XS.iloadN X0.here hx rfl (hb hby at_48) rfl k9) ?_
          refine own_st (T' := T0) (g' := (mkF m 50 #[.val (.int p1), .val (.int p2), .val (.int p3), .val (.int (p1 &&& (2147483647 : Int32))), .val (.int ((p2 &&& (2147483647 : Int32)) % (3 : Int32))), .unset, .unset, .val (.int (-1 : Int32)), .unset, .unset, .unset, .unset] [(.int (1 : Int32)), (.int p3)])) (fun t9 k9 => XS.iconst X0.here hx rfl (hb hby at_49) k9) ?_
          refine own_st (T' := T0) (g' := (mkF m 51 #[.val (.int p1), .val (.int p2), .val (.int p3), .val (.int (p1 &&& (2147483647 : Int32))), .val (.int ((p2 &&& (2147483647 : Int32)) % (3 : Int32))), .unset, .unset, .val (.int (-1 : Int32)), .unset, .unset, .unset, .unset] [(.int ((p3.toUInt32 >>> ((1 : Int32) &&& 31).toUInt32).toInt32))])) (fun t9 k9 => XS.iushr X0.here hx rfl (hb hby at_50) rfl k9) ?_
          refine own_st (T' := T0) (g' := (mkF m 52 #[.val (.int p1), .val (.int p2), .val (.int p3), .val (.int (p1 &&& (2147483647 : Int32))), .val (.int ((p2 &&& (2147483647 : Int32)) % (3 : Int32))), .unset, .unset, .val (.int (-1 : Int32)), .unset, .unset, .unset, .unset] [(.int (p1 &&& (2147483647 : Int32))), (.int ((p3.toUInt32 >>> ((1 : Int32) &&& 31).toUInt32).toInt32))])) (fun t9 k9 => XS.iloadN X0.here hx rfl (hb hby at_51) rfl k9) ?_
          refine own_st (T' := T0) (g' := (mkF m 53 #[.val (.int p1), .val (.int p2), .val (.int p3), .val (.int (p1 &&& (2147483647 : Int32))), .val (.int ((p2 &&& (2147483647 : Int32)) % (3 : Int32))), .unset, .unset, .val (.int (-1 : Int32)), .unset, .unset, .unset, .unset] [(.int (((p3.toUInt32 >>> ((1 : Int32) &&& 31).toUInt32).toInt32) % (p1 &&& (2147483647 : Int32))))])) (fun t9 k9 => iremM X0 hx (g := (mkF m 52 #[.val (.int p1), .val (.int p2), .val (.int p3), .val (.int (p1 &&& (2147483647 : Int32))), .val (.int ((p2 &&& (2147483647 : Int32)) % (3 : Int32))), .unset, .unset, .val (.int (-1 : Int32)), .unset, .unset, .unset, .unset] [(.int (p1 &&& (2147483647 : Int32))), (.int ((p3.toUInt32 >>> ((1 : Int32) &&& 31).toUInt32).toInt32))])) rfl (hb hby at_52) rfl (fun q => absurd (q ▸ hr0 : (0 : Int32) < 0) (by decide)) k9) ?_
          refine own_st (T' := T0) (g' := (mkF m 55 #[.val (.int p1), .val (.int p2), .val (.int p3), .val (.int (p1 &&& (2147483647 : Int32))), .val (.int ((p2 &&& (2147483647 : Int32)) % (3 : Int32))), .unset, .unset, .val (.int (((p3.toUInt32 >>> ((1 : Int32) &&& 31).toUInt32).toInt32) % (p1 &&& (2147483647 : Int32)))), .unset, .unset, .unset, .unset] [])) (fun t9 k9 => XS.istore X0.here hx rfl (hb hby at_53) rfl (l' := #[.val (.int p1), .val (.int p2), .val (.int p3), .val (.int (p1 &&& (2147483647 : Int32))), .val (.int ((p2 &&& (2147483647 : Int32)) % (3 : Int32))), .unset, .unset, .val (.int (((p3.toUInt32 >>> ((1 : Int32) &&& 31).toUInt32).toInt32) % (p1 &&& (2147483647 : Int32)))), .unset, .unset, .unset, .unset]) rfl k9) ?_
          exact j55 _
      · refine own_st (T' := T0) (g' := (mkF m 55 #[.val (.int p1), .val (.int p2), .val (.int p3), .val (.int (p1 &&& (2147483647 : Int32))), .val (.int ((p2 &&& (2147483647 : Int32)) % (3 : Int32))), .unset, .unset, .val (.int (-1 : Int32)), .unset, .unset, .unset, .unset] [])) (fun t9 k9 => XS.ifYes X0.here hx rfl (pc0 := 39) (pc' := 55) rfl (hb hby at_39) rfl ((if0 _ _).trans (flt hr0).2.2.2) (by decide) (by decide) k9) ?_
        exact j55 _
    · refine own_st (T' := T0) (g' := (mkF m 71 #[.val (.int p1), .val (.int p2), .val (.int p3), .val (.int (p1 &&& (2147483647 : Int32))), .val (.int ((p2 &&& (2147483647 : Int32)) % (3 : Int32))), .unset, .unset, .unset, .unset, .unset, .unset, .unset] [])) (fun t9 k9 => XS.icmpYes X0.here hx rfl (pc0 := 32) (pc' := 71) rfl (hb hby at_32) rfl (feq hk1).2 (by decide) (by decide) k9) ?_
      obtain ⟨_, _, ⟨T16, L16, k16, n16⟩, -, X16, ⟨Lc16, hQ16, l16, y16, z16⟩, st16⟩ := Jvm.LawKit.callS X0 hx (y := (⟨"com/example/newsweave/newsweave/nas/PlaceRecordsHeapPinLaw", "sixtyFourNone", "()[I"⟩ : MethodName)) hown (mvT hZ (hw _ (List.mem_of_getElem? (i := 75) rfl))) (mvT hZ (hw _ (List.mem_of_getElem? (i := 76) rfl))) (mvT hZ (hw _ (List.mem_of_getElem? (i := 47) rfl))) (mvT hZ (hw _ (List.mem_of_getElem? (i := 77) rfl))) (by decide) (own_back (W := 0) (rm11 l Z a0 hw h0 n0 Z0) hZ (hw _ (List.mem_of_getElem? (i := 77) rfl)) (hw _ (List.mem_of_getElem? (i := 47) rfl)) (by decide) (by decide)) (g := (mkF m 71 #[.val (.int p1), .val (.int p2), .val (.int p3), .val (.int (p1 &&& (2147483647 : Int32))), .val (.int ((p2 &&& (2147483647 : Int32)) % (3 : Int32))), .unset, .unset, .unset, .unset, .unset, .unset, .unset] [])) rfl (by rw [hml]; rfl) (argsL := []) (rest := []) (lenOf pd_8 rfl) rfl (by show 2 * 0 + _ ≤ _; exact Nat.le_of_eq rfl) (hb hby at_71) (fun _ _ => ⟨rfl, e0, (Nat.le_of_ble_eq_true rfl), (Nat.le_of_ble_eq_true rfl)⟩)
      dsimp only [Pt.U, Pt.locs, Pt.cells, Pt.slots] at X16 l16 y16 z16 st16 hQ16
      subst l16 y16 z16
      obtain ⟨b16, kb16, rfl, Nq16, Kq16, sz16, g_b16, Vq16⟩ := hQ16
      have N16 := Fr.app N0 Nq16
      obtain ⟨h16, e16⟩ : ∃ z, T16.heap = z := ⟨_, rfl⟩
      rw [e16] at Kq16 Vq16
      have K16 := K0.trans Kq16 all0
      have Z16 : n0 ≤ h16.size := Nat.le_trans Z0 Kq16.1
      refine own_st (T' := T16) (g' := (mkF m 74 #[.val (.int p1), .val (.int p2), .val (.int p3), .val (.int (p1 &&& (2147483647 : Int32))), .val (.int ((p2 &&& (2147483647 : Int32)) % (3 : Int32))), .unset, .unset, .unset, .unset, .unset, .unset, .unset] [(.ref b16)])) (fun t9 k9 => st16 t9 k9) ?_
      refine own_st (T' := T16) (g' := (mkF m 76 #[.val (.int p1), .val (.int p2), .val (.int p3), .val (.int (p1 &&& (2147483647 : Int32))), .val (.int ((p2 &&& (2147483647 : Int32)) % (3 : Int32))), .val (.ref b16), .unset, .unset, .unset, .unset, .unset, .unset] [])) (fun t9 k9 => XS.astore X16.here hx rfl (hb hby at_74) rfl rfl (l' := #[.val (.int p1), .val (.int p2), .val (.int p3), .val (.int (p1 &&& (2147483647 : Int32))), .val (.int ((p2 &&& (2147483647 : Int32)) % (3 : Int32))), .val (.ref b16), .unset, .unset, .unset, .unset, .unset, .unset]) rfl k9) ?_
      refine own_st (T' := T16) (g' := (mkF m 77 #[.val (.int p1), .val (.int p2), .val (.int p3), .val (.int (p1 &&& (2147483647 : Int32))), .val (.int ((p2 &&& (2147483647 : Int32)) % (3 : Int32))), .val (.ref b16), .unset, .unset, .unset, .unset, .unset, .unset] [(.int (2 : Int32))])) (fun t9 k9 => XS.iconst X16.here hx rfl (hb hby at_76) k9) ?_
      refine own_st (T' := T16) (g' := (mkF m 79 #[.val (.int p1), .val (.int p2), .val (.int p3), .val (.int (p1 &&& (2147483647 : Int32))), .val (.int ((p2 &&& (2147483647 : Int32)) % (3 : Int32))), .val (.ref b16), .val (.int (2 : Int32)), .unset, .unset, .unset, .unset, .unset] [])) (fun t9 k9 => XS.istore X16.here hx rfl (hb hby at_77) rfl (l' := #[.val (.int p1), .val (.int p2), .val (.int p3), .val (.int (p1 &&& (2147483647 : Int32))), .val (.int ((p2 &&& (2147483647 : Int32)) % (3 : Int32))), .val (.ref b16), .val (.int (2 : Int32)), .unset, .unset, .unset, .unset, .unset]) rfl k9) ?_
      have Mx := X16.more (cells' := 1) (slots' := 64) (by decide) (by decide)
      exact j79 _ _ _ b16 _ 64 2 (-1) _ Mx e16 N16 Z16 K16 Vq16 (Or.inr ⟨rfl, rfl⟩) One.u
set_option maxRecDepth 65536 in
set_option maxHeartbeats 40000000 in
theorem comes_1 {Post : Tables → Env → Array Value → State → Outcome → State → Prop} (hpost : ∀ tb e args s v u, (limb_1_1.after args s (.returned v) u = true ∧ limb_1_2.after args s (.returned v) u = true ∧ True) → FrameEnd s (.returned v) u (Jvm.fieldLocs frame_1_writes args s ++ Jvm.arrayLocs frame_1_arrays args s ++ Jvm.staticLocs frame_1_statics s) 208 4736 → Post tb e args s (.returned v) u) :
    ArmFor flags0 classFile x code maxLocals ret World_1 tables_1 room_1 Calls_1 rest_1 Pre_1 Post := by
  intro l hfl _ _ p e ha hc hk s m args below hf hA hF happ hP
  obtain ⟨hcalls, hrest, hpre⟩ := hP
  obtain ⟨-, -, -, hnamed, -, -, -, hat⟩ := (Spec.applies_iff hf).mp happ
  obtain ⟨hg, hn⟩ := and_e (Cond.before_iff.mp (show (Jvm.Cond.and given_1 narrow_1).before args s = true from hpre))
  obtain ⟨ga0, gb0⟩ := and_e hg
  obtain ⟨ga1, gb1⟩ := and_e gb0
  obtain ⟨ga2, gb2⟩ := and_e gb1
  obtain ⟨w0, w1, w2, rfl⟩ : ∃ w0 w1 w2 : Value, args = #[w0, w1, w2] := by
    have hs : args.size = 3 := by simpa [Cond.value, given_1] using ga0
    obtain ⟨L⟩ := args
    match L, hs with
    | [w0, w1, w2], _ => exact ⟨w0, w1, w2, rfl⟩
  have hw := fun d (hd : d ∈ tables_1) => atoms_spec (ws := Jvm.Cond.code x code maxLocals ret :: tables_1) hat d (List.mem_cons_of_mem _ hd)
  have hfit : Fit s := fun {y c} hc i hi => by
    obtain ⟨ha, rfl⟩ := Array.getElem?_eq_some_iff.mp hc
    have q := List.all_eq_true.mp ((Array.all_eq_true_iff_forall_mem.mp hF) _ (Array.getElem_mem ha)) i (List.mem_range.mpr hi)
    simpa [Array.getElem?_eq_getElem hi] using q
  obtain ⟨i0, ei0⟩ := is_v ga1
  obtain rfl : w0 = (.int i0) := Option.some.inj ei0
  obtain ⟨i1, ei1⟩ := is_v ga2
  obtain rfl : w1 = (.int i1) := Option.some.inj ei1
  obtain ⟨i2, ei2⟩ := is_v gb2
  obtain rfl : w2 = (.int i2) := Option.some.inj ei2
  obtain ⟨n, o, h1, h2, h3, _, L, rfl, ⟨rfl, N⟩, hq⟩ := rm0 l s _ hw i0 i1 i2 s.heap s.heap.size (Nat.le_refl _)  tables_1 p e ha hc hk s m _ below hf ((Spec.applies_iff_loose hf).mp happ).1 ⟨rfl, State.Warmed39.refl s, rfl⟩ trivial
  refine ⟨n, _, h1, h2, h3, hpost _ _ _ _ _ _ ⟨Cond.after_iff.mpr rfl, Cond.after_iff.mpr (eq_i res_at (Term.int_eval (1)) rfl), trivial⟩ ⟨hq.1, hq.2.1, (hq.2.2.sift fun y hy => Or.inr (N y hy)).mono (by decide) (by decide)⟩⟩
theorem main_1_1 : Claimed_1_1 := comes_1 fun _ _ _ _ _ _ h hF => ⟨h.1, hF⟩
theorem main_1_2 : Claimed_1_2 := comes_1 fun _ _ _ _ _ _ h hF => ⟨h.2.1, hF⟩
end Jvm.Pilot.@@N@@
namespace Jvm.Pilot.@@N@@
open Jvm Jvm.ClassFile Sem Op Lib Jvm.Free Jvm.Stand Jvm.Pilot.@@N@@.Jvm.D
/-! MADE BY PROGRAM (witnessworld.py) out of the Statement's table words and the real class files: 19 classes; the members and pool entries that the words name. The judged class is class 1, her method 4. -/
namespace start1
open Jvm.ClassFile
def u (s : String) : CpInfo := .utf8 (stringToUtf16 s)
/-- a pool by its gaps: so many unusable entries, then the entry; so many at the end -/
def gap : Nat → List CpInfo → List CpInfo
  | 0, r => r
  | n + 1, r => .unusable :: gap n r
def poolList (es : List (Nat × CpInfo)) (last : Nat) : List CpInfo := es.foldr (fun e r => gap e.1 (e.2 :: r)) (gap last [])
def pool (es : List (Nat × CpInfo)) (last : Nat) : Array CpInfo := ⟨poolList es last⟩
def fileOf (pool : Array CpInfo) (this : Nat) (attrs : Array Attribute := #[]) (ms : Array MethodInfo := #[]) (fl : Nat := 33) (sup : Nat := 0) (ifs : Array Nat := #[]) (fds : Array FieldInfo := #[]) : ClassFile where
  minorVersion := 0
  majorVersion := 65
  constantPool := pool
  accessFlags := fl
  thisClass := this
  superClass := sup
  interfaces := ifs
  fields := fds
  methods := ms
  attributes := attrs
def plain (name : String) (sup : Option ClassId) : Class where
  name := name
  kind := .ordinary
  loader := none
  accessFlags := 33
  super := sup
  interfaces := #[]
  cf := none
  fields := #[]
  methods := #[]
  instanceTypes := #[]
  staticTypes := #[]
  resolved := #[]
  callSites := []
  init := .initialized
  statics := none
  mirror := none

def pool0 : Array CpInfo := pool [(5, u "<init>"), (0, u "()V"), (1, .class_ 10), (1, u "java/lang/Object")] 113

def k0c0 : Code := { maxStack := 0, maxLocals := 1, code := object_method_1_code, exceptionTable := #[], attributes := #[] }
def k0m0 : Method := { name := "<init>", desc := "()V", sig := { parameters := [], returnType := none }, accessFlags := 1, code := some k0c0 }
/-- java/lang/Object -/
def k0 : Class := { plain "java/lang/Object" none with
  accessFlags := 33
  interfaces := #[]
  cf := some (fileOf pool0 8 #[] #[{ accessFlags := 1, nameIndex := 5, descriptorIndex := 6, attributes := #[] }] 33 0 #[] #[])
  fields := #[]
  methods := #[k0m0]
  instanceTypes := #[]
  staticTypes := #[]
  resolved := Array.replicate 124 none
  statics := none }

def pool1 : Array CpInfo := pool [(2, .class_ 4), (1, u "java/lang/Object"), (0, u "<init>"), (0, u "()V"), (0, .long 16), (1, .long 7), (1, .long 8), (1, .integer 65536), (0, .integer 2147483647), (0, .methodref 16 17), (0, .class_ 18), (0, .nameAndType 19 20), (0, u "com/example/newsweave/newsweave/nas/PlaceRecordsHeapPinLaw"), (0, u "sixtyFourNone"), (0, u "()[I"), (0, .class_ 22), (0, u "com/example/newsweave/newsweave/nas/PlaceRecords"), (0, .methodref 21 24), (0, .nameAndType 5 25), (0, u "([II)V"), (0, .methodref 16 27), (0, .nameAndType 28 29), (0, u "bitLengthAtLeastOne"), (0, u "(I)I"), (0, .long 3), (1, .long 4), (1, .methodref 16 35), (0, .nameAndType 36 37), (0, u "pad"), (0, u "(J)J"), (0, .methodref 21 39), (0, .nameAndType 40 41), (0, u "heap"), (0, u "()J"), (3, u "law"), (0, u "(III)Z")] 4

def k1m0 : Method := { name := "<init>", desc := "()V", sig := { parameters := [], returnType := none }, accessFlags := 2, code := none }
def k1c1 : Code := { maxStack := 4, maxLocals := 2, code := method_2_code, exceptionTable := #[], attributes := #[] }
def k1m1 : Method := { name := "pad", desc := "(J)J", sig := { parameters := [.long], returnType := some .long }, accessFlags := 10, code := some k1c1 }
def k1c2 : Code := { maxStack := 2, maxLocals := 2, code := method_3_code, exceptionTable := #[], attributes := #[] }
def k1m2 : Method := { name := "bitLengthAtLeastOne", desc := "(I)I", sig := { parameters := [.int], returnType := some .int }, accessFlags := 10, code := some k1c2 }
def k1c3 : Code := { maxStack := 4, maxLocals := 0, code := method_4_code, exceptionTable := #[], attributes := #[] }
def k1m3 : Method := { name := "sixtyFourNone", desc := "()[I", sig := { parameters := [], returnType := some (.array .int) }, accessFlags := 10, code := some k1c3 }
def k1c4 : Code := { maxStack := 10, maxLocals := 12, code := code, exceptionTable := #[], attributes := #[] }
def k1m4 : Method := { name := "law", desc := "(III)Z", sig := { parameters := [.int, .int, .int], returnType := some .boolean }, accessFlags := 9, code := some k1c4 }
/-- com/example/newsweave/newsweave/nas/PlaceRecordsHeapPinLaw -/
def k1 : Class := { plain "com/example/newsweave/newsweave/nas/PlaceRecordsHeapPinLaw" (some 0) with
  accessFlags := 49
  interfaces := #[]
  cf := some (fileOf pool1 16 #[] #[{ accessFlags := 2, nameIndex := 5, descriptorIndex := 6, attributes := #[] }, { accessFlags := 10, nameIndex := 36, descriptorIndex := 37, attributes := #[] }, { accessFlags := 10, nameIndex := 28, descriptorIndex := 29, attributes := #[] }, { accessFlags := 10, nameIndex := 19, descriptorIndex := 20, attributes := #[] }, { accessFlags := 9, nameIndex := 45, descriptorIndex := 46, attributes := #[] }] 49 2 #[] #[])
  fields := #[]
  methods := #[k1m0, k1m1, k1m2, k1m3, k1m4]
  instanceTypes := #[]
  staticTypes := #[]
  resolved := Array.replicate 51 none
  statics := none }

def pool2 : Array CpInfo := pool [(1, .methodref 2 3), (0, .class_ 4), (0, .nameAndType 5 6), (0, u "java/lang/Object"), (0, u "<init>"), (0, u "()V"), (0, .fieldref 8 9), (0, .class_ 10), (0, .nameAndType 11 12), (0, u "com/example/newsweave/newsweave/nas/PlaceRecords"), (0, u "records"), (0, u "I"), (0, .class_ 14), (0, u "java/lang/Integer"), (0, .methodref 13 16), (0, .nameAndType 17 18), (0, u "numberOfLeadingZeros"), (0, u "(I)I"), (0, .methodref 20 21), (0, .class_ 22), (0, .nameAndType 23 24), (0, u "java/lang/Math"), (0, u "max"), (0, u "(II)I"), (0, .fieldref 8 26), (0, .nameAndType 27 12), (0, u "levels"), (0, .class_ 29), (0, u "[[J"), (0, .fieldref 8 31), (0, .nameAndType 32 29), (0, u "rows"), (0, .class_ 34), (0, u "[[I"), (0, .fieldref 8 36), (0, .nameAndType 37 34), (0, u "onesBefore"), (0, .fieldref 8 39), (0, .nameAndType 40 41), (0, u "zeros"), (0, u "[I"), (0, .methodref 8 43), (0, .nameAndType 44 45), (0, u "fill"), (0, u "(I[I)[I"), (0, .methodref 47 48), (0, .class_ 49), (0, .nameAndType 50 51), (0, u "java/lang/Long"), (0, u "bitCount"), (0, u "(J)I"), (6, .class_ 59), (0, u "com/example/newsweave/newsweave/nas/PlaceRecords$Cursor"), (4, .class_ 65), (0, u "com/example/newsweave/newsweave/nas/PlaceRecords$Run"), (3, .class_ 70), (0, u "com/example/newsweave/newsweave/nas/PlaceRecords$1"), (9, .long 2), (1, .class_ 83), (0, u "com/example/newsweave/newsweave/core/HeapSizes"), (0, .long 4), (1, .methodref 82 87), (0, .nameAndType 88 89), (0, u "ofArray"), (0, u "(J)J"), (0, .long 8), (1, u "WORD_SHIFT"), (2, u "([II)V"), (14, u "heap"), (0, u "()J")] 6

def k2c0 : Code := { maxStack := 4, maxLocals := 6, code := prog_89_method_1_code, exceptionTable := #[], attributes := #[] }
def k2m0 : Method := { name := "<init>", desc := "([II)V", sig := { parameters := [(.array .int), .int], returnType := none }, accessFlags := 0, code := some k2c0 }
def k2c1 : Code := { maxStack := 7, maxLocals := 13, code := prog_89_method_2_code, exceptionTable := #[], attributes := #[] }
def k2m1 : Method := { name := "fill", desc := "(I[I)[I", sig := { parameters := [.int, (.array .int)], returnType := some (.array .int) }, accessFlags := 2, code := some k2c1 }
def k2c2 : Code := { maxStack := 6, maxLocals := 4, code := prog_89_method_6_code, exceptionTable := #[], attributes := #[] }
def k2m2 : Method := { name := "heap", desc := "()J", sig := { parameters := [], returnType := some .long }, accessFlags := 0, code := some k2c2 }
/-- com/example/newsweave/newsweave/nas/PlaceRecords -/
def k2 : Class := { plain "com/example/newsweave/newsweave/nas/PlaceRecords" (some 0) with
  accessFlags := 48
  interfaces := #[]
  cf := some (fileOf pool2 8 #[.nestMembers #[58, 64, 69]] #[{ accessFlags := 0, nameIndex := 5, descriptorIndex := 95, attributes := #[] }, { accessFlags := 2, nameIndex := 44, descriptorIndex := 45, attributes := #[] }, { accessFlags := 0, nameIndex := 110, descriptorIndex := 111, attributes := #[] }] 48 2 #[] #[{ accessFlags := 26, nameIndex := 92, descriptorIndex := 12, attributes := #[] }, { accessFlags := 18, nameIndex := 11, descriptorIndex := 12, attributes := #[] }, { accessFlags := 18, nameIndex := 27, descriptorIndex := 12, attributes := #[] }, { accessFlags := 18, nameIndex := 32, descriptorIndex := 29, attributes := #[] }, { accessFlags := 18, nameIndex := 37, descriptorIndex := 34, attributes := #[] }, { accessFlags := 18, nameIndex := 40, descriptorIndex := 41, attributes := #[] }])
  fields := #[{ name := "WORD_SHIFT", type := .int, accessFlags := 26, slot := 0, constantValue := 0 }, { name := "records", type := .int, accessFlags := 18, slot := 0, constantValue := 0 }, { name := "levels", type := .int, accessFlags := 18, slot := 1, constantValue := 0 }, { name := "rows", type := (.array (.array .long)), accessFlags := 18, slot := 2, constantValue := 0 }, { name := "onesBefore", type := (.array (.array .int)), accessFlags := 18, slot := 3, constantValue := 0 }, { name := "zeros", type := (.array .int), accessFlags := 18, slot := 4, constantValue := 0 }]
  methods := #[k2m0, k2m1, k2m2]
  instanceTypes := #[.int, .int, (.array (.array .long)), (.array (.array .int)), (.array .int)]
  staticTypes := #[.int]
  resolved := Array.replicate 118 none
  statics := none }

def pool3 : Array CpInfo := pool [(1, .class_ 2), (0, u "java/io/Serializable"), (0, .class_ 4), (0, u "java/lang/Object")] 2

/-- java/io/Serializable -/
def k3 : Class := { plain "java/io/Serializable" (some 0) with
  accessFlags := 1537
  interfaces := #[]
  cf := some (fileOf pool3 1 #[] #[] 1537 3 #[] #[])
  fields := #[]
  methods := #[]
  instanceTypes := #[]
  staticTypes := #[]
  resolved := Array.replicate 7 none
  statics := none }

def pool4 : Array CpInfo := pool [(2, .class_ 4), (1, u "java/lang/Object"), (0, u "<init>"), (0, u "()V"), (1, .class_ 10), (1, u "java/lang/Number"), (2, .class_ 14), (0, u "java/io/Serializable"), (0, u "serialVersionUID"), (0, u "J")] 20

def k4m0 : Method := { name := "<init>", desc := "()V", sig := { parameters := [], returnType := none }, accessFlags := 1, code := none }
/-- java/lang/Number -/
def k4 : Class := { plain "java/lang/Number" (some 0) with
  accessFlags := 1057
  interfaces := #[3]
  cf := some (fileOf pool4 8 #[] #[{ accessFlags := 1, nameIndex := 5, descriptorIndex := 6, attributes := #[] }] 1057 2 #[13] #[{ accessFlags := 26, nameIndex := 15, descriptorIndex := 16, attributes := #[] }])
  fields := #[{ name := "serialVersionUID", type := .long, accessFlags := 26, slot := 0, constantValue := 0 }]
  methods := #[k4m0]
  instanceTypes := #[]
  staticTypes := #[.long]
  resolved := Array.replicate 37 none
  statics := none }

def pool5 : Array CpInfo := pool [(1, .class_ 2), (0, u "java/lang/Comparable"), (0, .class_ 4), (0, u "java/lang/Object")] 7

/-- java/lang/Comparable -/
def k5 : Class := { plain "java/lang/Comparable" (some 0) with
  accessFlags := 1537
  interfaces := #[]
  cf := some (fileOf pool5 1 #[] #[] 1537 3 #[] #[])
  fields := #[]
  methods := #[]
  instanceTypes := #[]
  staticTypes := #[]
  resolved := Array.replicate 12 none
  statics := none }

def pool6 : Array CpInfo := pool [(1, .class_ 2), (0, u "java/lang/constant/Constable"), (0, .class_ 4), (0, u "java/lang/Object")] 6

/-- java/lang/constant/Constable -/
def k6 : Class := { plain "java/lang/constant/Constable" (some 0) with
  accessFlags := 1537
  interfaces := #[]
  cf := some (fileOf pool6 1 #[] #[] 1537 3 #[] #[])
  fields := #[]
  methods := #[]
  instanceTypes := #[]
  staticTypes := #[]
  resolved := Array.replicate 11 none
  statics := none }

def pool7 : Array CpInfo := pool [(1, .class_ 2), (0, u "java/lang/constant/ConstantDesc"), (0, .class_ 4), (0, u "java/lang/Object")] 32

/-- java/lang/constant/ConstantDesc -/
def k7 : Class := { plain "java/lang/constant/ConstantDesc" (some 0) with
  accessFlags := 1537
  interfaces := #[]
  cf := some (fileOf pool7 1 #[] #[] 1537 3 #[] #[])
  fields := #[]
  methods := #[]
  instanceTypes := #[]
  staticTypes := #[]
  resolved := Array.replicate 37 none
  statics := none }

def pool8 : Array CpInfo := pool [(1, .class_ 2), (0, u "java/lang/Integer"), (16, u "digits"), (0, u "[C"), (32, u "numberOfLeadingZeros"), (0, u "(I)I"), (30, u "DigitOnes"), (0, u "[B"), (2, u "DigitTens"), (99, .class_ 190), (0, u "java/lang/Integer$IntegerCache"), (3, u "I"), (8, .class_ 204), (0, u "java/lang/Number"), (2, u "value"), (56, .integer 65536), (37, u "TYPE"), (0, u "Ljava/lang/Class;"), (0, .class_ 305), (0, u "java/lang/Comparable"), (0, .class_ 307), (0, u "java/lang/constant/Constable"), (0, .class_ 309), (0, u "java/lang/constant/ConstantDesc"), (0, u "MIN_VALUE"), (1, u "MAX_VALUE"), (3, u "SIZE"), (1, u "BYTES"), (1, u "serialVersionUID"), (0, u "J")] 131

def k8c0 : Code := { maxStack := 3, maxLocals := 2, code := jdk_33_method_47_code, exceptionTable := #[], attributes := #[] }
def k8m0 : Method := { name := "numberOfLeadingZeros", desc := "(I)I", sig := { parameters := [.int], returnType := some .int }, accessFlags := 9, code := some k8c0 }
/-- java/lang/Integer -/
def k8 : Class := { plain "java/lang/Integer" (some 4) with
  accessFlags := 49
  interfaces := #[5, 6, 7]
  cf := some (fileOf pool8 1 #[.nestMembers #[189]] #[{ accessFlags := 9, nameIndex := 53, descriptorIndex := 54, attributes := #[] }] 49 203 #[304, 306, 308] #[{ accessFlags := 25, nameIndex := 310, descriptorIndex := 194, attributes := #[] }, { accessFlags := 25, nameIndex := 312, descriptorIndex := 194, attributes := #[] }, { accessFlags := 25, nameIndex := 302, descriptorIndex := 303, attributes := #[] }, { accessFlags := 24, nameIndex := 19, descriptorIndex := 20, attributes := #[] }, { accessFlags := 24, nameIndex := 89, descriptorIndex := 86, attributes := #[] }, { accessFlags := 24, nameIndex := 85, descriptorIndex := 86, attributes := #[] }, { accessFlags := 18, nameIndex := 207, descriptorIndex := 194, attributes := #[] }, { accessFlags := 25, nameIndex := 316, descriptorIndex := 194, attributes := #[] }, { accessFlags := 25, nameIndex := 318, descriptorIndex := 194, attributes := #[] }, { accessFlags := 26, nameIndex := 320, descriptorIndex := 321, attributes := #[] }])
  fields := #[{ name := "MIN_VALUE", type := .int, accessFlags := 25, slot := 0, constantValue := 0 }, { name := "MAX_VALUE", type := .int, accessFlags := 25, slot := 1, constantValue := 0 }, { name := "TYPE", type := (.object "java/lang/Class"), accessFlags := 25, slot := 2, constantValue := 0 }, { name := "digits", type := (.array .char), accessFlags := 24, slot := 3, constantValue := 0 }, { name := "DigitTens", type := (.array .byte), accessFlags := 24, slot := 4, constantValue := 0 }, { name := "DigitOnes", type := (.array .byte), accessFlags := 24, slot := 5, constantValue := 0 }, { name := "value", type := .int, accessFlags := 18, slot := 0, constantValue := 0 }, { name := "SIZE", type := .int, accessFlags := 25, slot := 6, constantValue := 0 }, { name := "BYTES", type := .int, accessFlags := 25, slot := 7, constantValue := 0 }, { name := "serialVersionUID", type := .long, accessFlags := 26, slot := 8, constantValue := 0 }]
  methods := #[k8m0]
  instanceTypes := #[.int]
  staticTypes := #[.int, .int, (.object "java/lang/Class"), (.array .char), (.array .byte), (.array .byte), .int, .int, .long]
  resolved := Array.replicate 453 none
  statics := none }

def pool9 : Array CpInfo := pool [(1, .class_ 2), (0, u "java/lang/Math"), (1, .class_ 6), (1, u "java/lang/Object"), (0, u "<init>"), (0, u "()V"), (89, .class_ 100), (1, u "java/lang/Math$RandomNumberGeneratorHolder"), (71, u "negativeZeroFloatBits"), (0, u "J"), (2, u "negativeZeroDoubleBits"), (21, u "max"), (46, u "$assertionsDisabled"), (0, u "Z"), (88, u "(II)I"), (2, u "twoToTheDoubleScaleDown"), (0, u "D"), (4, u "twoToTheDoubleScaleUp"), (9, u "E"), (3, u "PI"), (2, u "TAU"), (2, u "DEGREES_TO_RADIANS"), (0, u "RADIANS_TO_DEGREES")] 94

def k9m0 : Method := { name := "<init>", desc := "()V", sig := { parameters := [], returnType := none }, accessFlags := 2, code := none }
def k9c1 : Code := { maxStack := 2, maxLocals := 2, code := jdk_29_method_65_code, exceptionTable := #[], attributes := #[] }
def k9m1 : Method := { name := "max", desc := "(II)I", sig := { parameters := [.int, .int], returnType := some .int }, accessFlags := 9, code := some k9c1 }
/-- java/lang/Math -/
def k9 : Class := { plain "java/lang/Math" (some 0) with
  accessFlags := 49
  interfaces := #[]
  cf := some (fileOf pool9 1 #[.nestMembers #[98]] #[{ accessFlags := 2, nameIndex := 7, descriptorIndex := 8, attributes := #[] }, { accessFlags := 9, nameIndex := 198, descriptorIndex := 335, attributes := #[] }] 49 4 #[] #[{ accessFlags := 25, nameIndex := 354, descriptorIndex := 339, attributes := #[] }, { accessFlags := 25, nameIndex := 358, descriptorIndex := 339, attributes := #[] }, { accessFlags := 25, nameIndex := 361, descriptorIndex := 339, attributes := #[] }, { accessFlags := 26, nameIndex := 364, descriptorIndex := 339, attributes := #[] }, { accessFlags := 26, nameIndex := 365, descriptorIndex := 339, attributes := #[] }, { accessFlags := 26, nameIndex := 172, descriptorIndex := 173, attributes := #[] }, { accessFlags := 26, nameIndex := 176, descriptorIndex := 173, attributes := #[] }, { accessFlags := 8, nameIndex := 344, descriptorIndex := 339, attributes := #[] }, { accessFlags := 8, nameIndex := 338, descriptorIndex := 339, attributes := #[] }, { accessFlags := 4120, nameIndex := 245, descriptorIndex := 246, attributes := #[] }])
  fields := #[{ name := "E", type := .double, accessFlags := 25, slot := 0, constantValue := 0 }, { name := "PI", type := .double, accessFlags := 25, slot := 1, constantValue := 0 }, { name := "TAU", type := .double, accessFlags := 25, slot := 2, constantValue := 0 }, { name := "DEGREES_TO_RADIANS", type := .double, accessFlags := 26, slot := 3, constantValue := 0 }, { name := "RADIANS_TO_DEGREES", type := .double, accessFlags := 26, slot := 4, constantValue := 0 }, { name := "negativeZeroFloatBits", type := .long, accessFlags := 26, slot := 5, constantValue := 0 }, { name := "negativeZeroDoubleBits", type := .long, accessFlags := 26, slot := 6, constantValue := 0 }, { name := "twoToTheDoubleScaleUp", type := .double, accessFlags := 8, slot := 7, constantValue := 0 }, { name := "twoToTheDoubleScaleDown", type := .double, accessFlags := 8, slot := 8, constantValue := 0 }, { name := "$assertionsDisabled", type := .boolean, accessFlags := 4120, slot := 9, constantValue := 0 }]
  methods := #[k9m0, k9m1]
  instanceTypes := #[]
  staticTypes := #[.double, .double, .double, .double, .double, .long, .long, .double, .double, .boolean]
  resolved := Array.replicate 460 none
  statics := none }

def pool10 : Array CpInfo := pool [(1, .class_ 2), (0, u "java/lang/Long"), (98, u "(J)I"), (133, .class_ 237), (1, u "java/lang/Long$LongCache"), (33, .class_ 272), (0, u "java/lang/Number"), (2, u "value"), (0, u "J"), (37, .long 6148914691236517205), (1, .long 3689348814741910323), (1, .long 1085102592571150095), (42, u "TYPE"), (0, u "Ljava/lang/Class;"), (0, .class_ 364), (0, u "java/lang/Comparable"), (0, .class_ 366), (0, u "java/lang/constant/Constable"), (0, .class_ 368), (0, u "java/lang/constant/ConstantDesc"), (0, u "MIN_VALUE"), (1, u "MAX_VALUE"), (4, u "SIZE"), (0, u "I"), (1, u "BYTES"), (1, u "serialVersionUID"), (94, u "bitCount")] 47

def k10c0 : Code := { maxStack := 6, maxLocals := 2, code := jdk_35_method_50_code, exceptionTable := #[], attributes := #[] }
def k10m0 : Method := { name := "bitCount", desc := "(J)I", sig := { parameters := [.long], returnType := some .int }, accessFlags := 9, code := some k10c0 }
/-- java/lang/Long -/
def k10 : Class := { plain "java/lang/Long" (some 4) with
  accessFlags := 49
  interfaces := #[5, 6, 7]
  cf := some (fileOf pool10 1 #[.nestMembers #[235]] #[{ accessFlags := 9, nameIndex := 476, descriptorIndex := 101, attributes := #[] }] 49 271 #[363, 365, 367] #[{ accessFlags := 25, nameIndex := 369, descriptorIndex := 276, attributes := #[] }, { accessFlags := 25, nameIndex := 371, descriptorIndex := 276, attributes := #[] }, { accessFlags := 25, nameIndex := 361, descriptorIndex := 362, attributes := #[] }, { accessFlags := 18, nameIndex := 275, descriptorIndex := 276, attributes := #[] }, { accessFlags := 25, nameIndex := 376, descriptorIndex := 377, attributes := #[] }, { accessFlags := 25, nameIndex := 379, descriptorIndex := 377, attributes := #[] }, { accessFlags := 26, nameIndex := 381, descriptorIndex := 276, attributes := #[] }])
  fields := #[{ name := "MIN_VALUE", type := .long, accessFlags := 25, slot := 0, constantValue := 0 }, { name := "MAX_VALUE", type := .long, accessFlags := 25, slot := 1, constantValue := 0 }, { name := "TYPE", type := (.object "java/lang/Class"), accessFlags := 25, slot := 2, constantValue := 0 }, { name := "value", type := .long, accessFlags := 18, slot := 0, constantValue := 0 }, { name := "SIZE", type := .int, accessFlags := 25, slot := 3, constantValue := 0 }, { name := "BYTES", type := .int, accessFlags := 25, slot := 4, constantValue := 0 }, { name := "serialVersionUID", type := .long, accessFlags := 26, slot := 5, constantValue := 0 }]
  methods := #[k10m0]
  instanceTypes := #[.long]
  staticTypes := #[.long, .long, (.object "java/lang/Class"), .int, .int, .long]
  resolved := Array.replicate 524 none
  statics := none }

def pool11 : Array CpInfo := pool [(2, .class_ 4), (1, u "java/lang/Object"), (0, u "<init>"), (0, u "()V"), (0, .class_ 8), (0, u "com/example/newsweave/newsweave/core/HeapSizes"), (0, .long 16), (1, .long 8), (1, .long 18446744073709551608), (1, .long 524288), (1, .long 2), (15, u "ofArray"), (0, u "(J)J"), (0, u "REFERENCE_OCTETS"), (0, u "I"), (2, u "MAP_ENTRY_OCTETS"), (0, u "J"), (2, u "TEXT_OCTETS"), (0, u "ARRAY_HEADER_OCTETS"), (0, u "OBJECT_ALIGNMENT"), (0, u "SMALLEST_REGION_OCTETS")] 9

def k11m0 : Method := { name := "<init>", desc := "()V", sig := { parameters := [], returnType := none }, accessFlags := 2, code := none }
def k11c1 : Code := { maxStack := 4, maxLocals := 4, code := prog_38_method_2_code, exceptionTable := #[], attributes := #[] }
def k11m1 : Method := { name := "ofArray", desc := "(J)J", sig := { parameters := [.long], returnType := some .long }, accessFlags := 9, code := some k11c1 }
/-- com/example/newsweave/newsweave/core/HeapSizes -/
def k11 : Class := { plain "com/example/newsweave/newsweave/core/HeapSizes" (some 0) with
  accessFlags := 49
  interfaces := #[]
  cf := some (fileOf pool11 7 #[] #[{ accessFlags := 2, nameIndex := 5, descriptorIndex := 6, attributes := #[] }, { accessFlags := 9, nameIndex := 33, descriptorIndex := 34, attributes := #[] }] 49 2 #[] #[{ accessFlags := 25, nameIndex := 35, descriptorIndex := 36, attributes := #[] }, { accessFlags := 25, nameIndex := 39, descriptorIndex := 40, attributes := #[] }, { accessFlags := 26, nameIndex := 43, descriptorIndex := 40, attributes := #[] }, { accessFlags := 26, nameIndex := 44, descriptorIndex := 40, attributes := #[] }, { accessFlags := 26, nameIndex := 45, descriptorIndex := 40, attributes := #[] }, { accessFlags := 26, nameIndex := 46, descriptorIndex := 40, attributes := #[] }])
  fields := #[{ name := "REFERENCE_OCTETS", type := .int, accessFlags := 25, slot := 0, constantValue := 0 }, { name := "MAP_ENTRY_OCTETS", type := .long, accessFlags := 25, slot := 1, constantValue := 0 }, { name := "TEXT_OCTETS", type := .long, accessFlags := 26, slot := 2, constantValue := 0 }, { name := "ARRAY_HEADER_OCTETS", type := .long, accessFlags := 26, slot := 3, constantValue := 0 }, { name := "OBJECT_ALIGNMENT", type := .long, accessFlags := 26, slot := 4, constantValue := 0 }, { name := "SMALLEST_REGION_OCTETS", type := .long, accessFlags := 26, slot := 5, constantValue := 0 }]
  methods := #[k11m0, k11m1]
  instanceTypes := #[]
  staticTypes := #[.int, .long, .long, .long, .long, .long]
  resolved := Array.replicate 56 none
  statics := none }

def pool12 : Array CpInfo := pool [(1, u "java/lang/Cloneable"), (0, .class_ 1), (0, u "java/lang/Object"), (0, .class_ 3)] 3

/-- java/lang/Cloneable -/
def k12 : Class := { plain "java/lang/Cloneable" (some 0) with
  accessFlags := 1537
  interfaces := #[]
  cf := some (fileOf pool12 2 #[] #[] 1537 4 #[] #[])
  fields := #[]
  methods := #[]
  instanceTypes := #[]
  staticTypes := #[]
  resolved := Array.replicate 8 none
  statics := none }

/-- the primitive byte -/
def k13 : Class := { plain "byte" none with kind := .primitive 'B', accessFlags := 0x411 }
/-- [B -/
def k14 : Class := { plain "[B" (some 0) with kind := .array 13 .byte, interfaces := #[12, 3], accessFlags := 1041 }

/-- the primitive int -/
def k15 : Class := { plain "int" none with kind := .primitive 'I', accessFlags := 0x411 }
/-- [I -/
def k16 : Class := { plain "[I" (some 0) with kind := .array 15 .int, interfaces := #[12, 3], accessFlags := 1041 }

/-- the primitive long -/
def k17 : Class := { plain "long" none with kind := .primitive 'J', accessFlags := 0x411 }
/-- [J -/
def k18 : Class := { plain "[J" (some 0) with kind := .array 17 .long, interfaces := #[12, 3], accessFlags := 1041 }

def heap : Heap := #[]
def kJJ : Class := { plain "[[J" (some 0) with kind := .array 18 (.array .long), interfaces := #[12, 3], accessFlags := 1041 }
def kII : Class := { plain "[[I" (some 0) with kind := .array 16 (.array .int), interfaces := #[12, 3], accessFlags := 1041 }
def classes : Array Class := #[k0, k1, k2, k3, k4, k5, k6, k7, k8, k9, k10, k11, k12, k13, k14, k15, k16, k17, k18, kJJ, kII]
def interned : List (Array UInt16 × Addr) := []
def slotsUsed : Nat := 0
def theMethod : MethodId := ⟨1, 4⟩
def args0 : Array Value := #[.int 5, .int 9, .int 3]
def aboutOver (below : List Frame) : State where
  vm := { classes := classes, interned := interned.toArray }
  heap := heap
  slotsUsed := slotsUsed
  threads := #[{ frames := .invoking theMethod args0 :: below }]
def below0 : List Frame := [.native { method := ⟨0, 0⟩, args := #[] }]
def about1 : State := aboutOver below0
def p0 : Program := .bare "" "" ""
def e0 : Env := launch0.env 0 0 0
theorem w_frames : about1.frames = Frame.invoking theMethod args0 :: below0 := rfl
set_option maxRecDepth 65536 in
theorem w_args : argsFit about1.vm theMethod args0 = true := by decide +kernel
set_option maxRecDepth 65536 in
theorem w_heap : heapFits about1 = true := by decide +kernel
set_option maxRecDepth 65536 in
theorem w_runnable : about1.curStatus? = some .runnable := by decide +kernel
set_option maxRecDepth 65536 in
theorem w_alone : about1.alone = true := by decide +kernel
set_option maxRecDepth 65536 in
theorem w_named : about1.methodNamed? x = some theMethod := by decide +kernel
set_option maxRecDepth 65536 in
theorem w_hears : about1.hears theMethod below0 = true := by decide +kernel
set_option maxRecDepth 65536 in
theorem w_ripe : about1.ripe theMethod args0 below0 = true := by decide +kernel
theorem w_running : about1.status = .running := rfl
set_option maxRecDepth 65536 in
theorem w_room : about1.hasRoom e0.platform room_1 = true :=
  launch0.hasRoom_least _ room_1 (by decide +kernel) (by decide +kernel) (by decide +kernel) (by decide +kernel) (by decide +kernel) (by decide +kernel)
theorem allAtoms_all (ts : List Jvm.Cond) (a : Array Jvm.Value) (st : Jvm.State) : (allAtoms ts).before a st = ts.all (fun c => c.before a st) := by
  induction ts with
  | nil => rfl
  | cons c t ih =>
    show (Jvm.Cond.and c (allAtoms t)).before a st = _
    rw [Jvm.Cond.before_and, ih, List.all_cons]
def words1 : List Jvm.Cond := Jvm.Cond.code x code maxLocals ret :: tables_1
/-- a 'code' word, met by the world's own term for the bytes: nothing is compared byte by byte -/
theorem code_word {y : MethodName} {bytes : ByteArray} {mx : Nat} {rt : Option FieldType} {a : Array Value} {s : State} {m : MethodId} {meth : Method} {c : Code} (h1 : s.methodNamed? y = some m) (h2 : s.vm.method? m = some meth) (h3 : meth.code = some c) (h4 : c.code = bytes)
    (h5 : (c.maxLocals == mx && c.exceptionTable.isEmpty && decide (c.maxStack ≤ mostOperands) && decide (meth.sig.returnType = rt) && !meth.locks && decide (parseMethodDescriptor y.desc = some meth.sig)) = true) : (Jvm.Cond.code y bytes mx rt).before a s = true := by
  simp only [Bool.and_eq_true, beq_iff_eq, Bool.not_eq_true', decide_eq_true_eq] at h5
  obtain ⟨⟨⟨⟨⟨g1, g2⟩, g3⟩, g4⟩, g5⟩, g6⟩ := h5
  simp [Cond.before, Cond.holds, Cond.value, h1, h2, h3, h4, g1, g2, g3, g4, g5, g6]
def isCode : Jvm.Cond → Bool
  | .code _ _ _ _ => true
  | _ => false
theorem all_split {L : List Jvm.Cond} {P : Jvm.Cond → Bool} (h1 : L.all (fun c => isCode c || P c) = true) (h2 : ∀ c ∈ L.filter isCode, P c = true) : L.all P = true := by
  refine List.all_eq_true.mpr fun c hc => ?_
  have h := List.all_eq_true.mp h1 c hc
  rcases Bool.eq_false_or_eq_true (isCode c) with hi | hi
  · exact h2 c (List.mem_filter.mpr ⟨hc, hi⟩)
  · simpa [hi] using h
set_option maxRecDepth 65536 in
theorem w_c0 : (Jvm.Cond.code x code maxLocals ret).before args0 about1 = true := code_word (m := ⟨1, 4⟩) (meth := k1m4) (c := k1c4) (by decide +kernel) rfl rfl rfl (by decide +kernel)
set_option maxRecDepth 65536 in
theorem w_c1 : (Jvm.Cond.code ({ cls := "com/example/newsweave/newsweave/nas/PlaceRecords", name := "<init>", desc := "([II)V" } : Jvm.MethodName) prog_89_method_1_code (6 : Nat) (Option.none : Option Jvm.ClassFile.FieldType)).before args0 about1 = true := code_word (m := ⟨2, 0⟩) (meth := k2m0) (c := k2c0) (by decide +kernel) rfl rfl rfl (by decide +kernel)
set_option maxRecDepth 65536 in
theorem w_c2 : (Jvm.Cond.code ({ cls := "java/lang/Object", name := "<init>", desc := "()V" } : Jvm.MethodName) object_method_1_code (1 : Nat) (Option.none : Option Jvm.ClassFile.FieldType)).before args0 about1 = true := code_word (m := ⟨0, 0⟩) (meth := k0m0) (c := k0c0) (by decide +kernel) rfl rfl rfl (by decide +kernel)
set_option maxRecDepth 65536 in
theorem w_c3 : (Jvm.Cond.code ({ cls := "java/lang/Integer", name := "numberOfLeadingZeros", desc := "(I)I" } : Jvm.MethodName) jdk_33_method_47_code (2 : Nat) (Option.some Jvm.ClassFile.FieldType.int)).before args0 about1 = true := code_word (m := ⟨8, 0⟩) (meth := k8m0) (c := k8c0) (by decide +kernel) rfl rfl rfl (by decide +kernel)
set_option maxRecDepth 65536 in
theorem w_c4 : (Jvm.Cond.code ({ cls := "java/lang/Math", name := "max", desc := "(II)I" } : Jvm.MethodName) jdk_29_method_65_code (2 : Nat) (Option.some Jvm.ClassFile.FieldType.int)).before args0 about1 = true := code_word (m := ⟨9, 1⟩) (meth := k9m1) (c := k9c1) (by decide +kernel) rfl rfl rfl (by decide +kernel)
set_option maxRecDepth 65536 in
theorem w_c5 : (Jvm.Cond.code ({ cls := "com/example/newsweave/newsweave/nas/PlaceRecords", name := "fill", desc := "(I[I)[I" } : Jvm.MethodName) prog_89_method_2_code (13 : Nat) (Option.some (Jvm.ClassFile.FieldType.array Jvm.ClassFile.FieldType.int))).before args0 about1 = true := code_word (m := ⟨2, 1⟩) (meth := k2m1) (c := k2c1) (by decide +kernel) rfl rfl rfl (by decide +kernel)
set_option maxRecDepth 65536 in
theorem w_c6 : (Jvm.Cond.code ({ cls := "java/lang/Long", name := "bitCount", desc := "(J)I" } : Jvm.MethodName) jdk_35_method_50_code (2 : Nat) (Option.some Jvm.ClassFile.FieldType.int)).before args0 about1 = true := code_word (m := ⟨10, 0⟩) (meth := k10m0) (c := k10c0) (by decide +kernel) rfl rfl rfl (by decide +kernel)
set_option maxRecDepth 65536 in
theorem w_c7 : (Jvm.Cond.code ({ cls := "com/example/newsweave/newsweave/nas/PlaceRecordsHeapPinLaw", name := "bitLengthAtLeastOne", desc := "(I)I" } : Jvm.MethodName) method_3_code (2 : Nat) (Option.some Jvm.ClassFile.FieldType.int)).before args0 about1 = true := code_word (m := ⟨1, 2⟩) (meth := k1m2) (c := k1c2) (by decide +kernel) rfl rfl rfl (by decide +kernel)
set_option maxRecDepth 65536 in
theorem w_c8 : (Jvm.Cond.code ({ cls := "com/example/newsweave/newsweave/nas/PlaceRecordsHeapPinLaw", name := "pad", desc := "(J)J" } : Jvm.MethodName) method_2_code (2 : Nat) (Option.some Jvm.ClassFile.FieldType.long)).before args0 about1 = true := code_word (m := ⟨1, 1⟩) (meth := k1m1) (c := k1c1) (by decide +kernel) rfl rfl rfl (by decide +kernel)
set_option maxRecDepth 65536 in
theorem w_c9 : (Jvm.Cond.code ({ cls := "com/example/newsweave/newsweave/nas/PlaceRecords", name := "heap", desc := "()J" } : Jvm.MethodName) prog_89_method_6_code (4 : Nat) (Option.some Jvm.ClassFile.FieldType.long)).before args0 about1 = true := code_word (m := ⟨2, 2⟩) (meth := k2m2) (c := k2c2) (by decide +kernel) rfl rfl rfl (by decide +kernel)
set_option maxRecDepth 65536 in
theorem w_c10 : (Jvm.Cond.code ({ cls := "com/example/newsweave/newsweave/core/HeapSizes", name := "ofArray", desc := "(J)J" } : Jvm.MethodName) prog_38_method_2_code (4 : Nat) (Option.some Jvm.ClassFile.FieldType.long)).before args0 about1 = true := code_word (m := ⟨11, 1⟩) (meth := k11m1) (c := k11c1) (by decide +kernel) rfl rfl rfl (by decide +kernel)
set_option maxRecDepth 65536 in
theorem w_c11 : (Jvm.Cond.code ({ cls := "com/example/newsweave/newsweave/nas/PlaceRecordsHeapPinLaw", name := "sixtyFourNone", desc := "()[I" } : Jvm.MethodName) method_4_code (0 : Nat) (Option.some (Jvm.ClassFile.FieldType.array Jvm.ClassFile.FieldType.int))).before args0 about1 = true := code_word (m := ⟨1, 3⟩) (meth := k1m3) (c := k1c3) (by decide +kernel) rfl rfl rfl (by decide +kernel)
def codes1 : List Jvm.Cond := [Jvm.Cond.code x code maxLocals ret, Jvm.Cond.code ({ cls := "com/example/newsweave/newsweave/nas/PlaceRecords", name := "<init>", desc := "([II)V" } : Jvm.MethodName) prog_89_method_1_code (6 : Nat) (Option.none : Option Jvm.ClassFile.FieldType), Jvm.Cond.code ({ cls := "java/lang/Object", name := "<init>", desc := "()V" } : Jvm.MethodName) object_method_1_code (1 : Nat) (Option.none : Option Jvm.ClassFile.FieldType), Jvm.Cond.code ({ cls := "java/lang/Integer", name := "numberOfLeadingZeros", desc := "(I)I" } : Jvm.MethodName) jdk_33_method_47_code (2 : Nat) (Option.some Jvm.ClassFile.FieldType.int), Jvm.Cond.code ({ cls := "java/lang/Math", name := "max", desc := "(II)I" } : Jvm.MethodName) jdk_29_method_65_code (2 : Nat) (Option.some Jvm.ClassFile.FieldType.int), Jvm.Cond.code ({ cls := "com/example/newsweave/newsweave/nas/PlaceRecords", name := "fill", desc := "(I[I)[I" } : Jvm.MethodName) prog_89_method_2_code (13 : Nat) (Option.some (Jvm.ClassFile.FieldType.array Jvm.ClassFile.FieldType.int)), Jvm.Cond.code ({ cls := "java/lang/Long", name := "bitCount", desc := "(J)I" } : Jvm.MethodName) jdk_35_method_50_code (2 : Nat) (Option.some Jvm.ClassFile.FieldType.int), Jvm.Cond.code ({ cls := "com/example/newsweave/newsweave/nas/PlaceRecordsHeapPinLaw", name := "bitLengthAtLeastOne", desc := "(I)I" } : Jvm.MethodName) method_3_code (2 : Nat) (Option.some Jvm.ClassFile.FieldType.int), Jvm.Cond.code ({ cls := "com/example/newsweave/newsweave/nas/PlaceRecordsHeapPinLaw", name := "pad", desc := "(J)J" } : Jvm.MethodName) method_2_code (2 : Nat) (Option.some Jvm.ClassFile.FieldType.long), Jvm.Cond.code ({ cls := "com/example/newsweave/newsweave/nas/PlaceRecords", name := "heap", desc := "()J" } : Jvm.MethodName) prog_89_method_6_code (4 : Nat) (Option.some Jvm.ClassFile.FieldType.long), Jvm.Cond.code ({ cls := "com/example/newsweave/newsweave/core/HeapSizes", name := "ofArray", desc := "(J)J" } : Jvm.MethodName) prog_38_method_2_code (4 : Nat) (Option.some Jvm.ClassFile.FieldType.long), Jvm.Cond.code ({ cls := "com/example/newsweave/newsweave/nas/PlaceRecordsHeapPinLaw", name := "sixtyFourNone", desc := "()[I" } : Jvm.MethodName) method_4_code (0 : Nat) (Option.some (Jvm.ClassFile.FieldType.array Jvm.ClassFile.FieldType.int))]
set_option maxRecDepth 65536 in
theorem codes_eq : words1.filter isCode = codes1 := rfl
theorem w_codes : ∀ c ∈ words1.filter isCode, c.before args0 about1 = true := by
  rw [codes_eq]
  intro c hc
  simp only [codes1, List.mem_cons, List.not_mem_nil, or_false] at hc
  rcases hc with rfl | rfl | rfl | rfl | rfl | rfl | rfl | rfl | rfl | rfl | rfl | rfl
  · exact w_c0
  · exact w_c1
  · exact w_c2
  · exact w_c3
  · exact w_c4
  · exact w_c5
  · exact w_c6
  · exact w_c7
  · exact w_c8
  · exact w_c9
  · exact w_c10
  · exact w_c11
set_option maxRecDepth 65536 in
theorem w_t1 : (words1.take 24).all (fun c => isCode c || c.before args0 about1) = true := by decide +kernel
set_option maxRecDepth 65536 in
theorem w_t2 : ((words1.drop 24).take 24).all (fun c => isCode c || c.before args0 about1) = true := by decide +kernel
set_option maxRecDepth 65536 in
theorem w_t3 : (((words1.drop 24).drop 24).take 24).all (fun c => isCode c || c.before args0 about1) = true := by decide +kernel
set_option maxRecDepth 65536 in
theorem w_t4 : (((words1.drop 24).drop 24).drop 24).all (fun c => isCode c || c.before args0 about1) = true := by decide +kernel
theorem w_tables : (allAtoms (Jvm.Cond.code x code maxLocals ret :: tables_1)).before args0 about1 = true := by
  rw [allAtoms_all]
  show words1.all (fun c => c.before args0 about1) = true
  refine all_split ?_ w_codes
  rw [← List.take_append_drop 24 words1, List.all_append, w_t1, ← List.take_append_drop 24 (words1.drop 24), List.all_append, w_t2, ← List.take_append_drop 24 ((words1.drop 24).drop 24), List.all_append, w_t3, w_t4]
  rfl
set_option maxRecDepth 65536 in
theorem w_case : (Jvm.Cond.and given_1 narrow_1).before args0 about1 = true := by decide +kernel
theorem w_applies : (headSpec (Jvm.Cond.code x code maxLocals ret :: tables_1) room_1).applies x e0.platform about1 = true :=
  (Spec.applies_iff w_frames).mpr ⟨w_running, w_runnable, w_alone, w_named, w_hears, w_ripe, w_room, w_tables⟩
theorem atStart : AtStart classFile x code maxLocals ret World_1 tables_1 room_1 Calls_1 rest_1 Pre_1 launch0 p0 e0 about1 theMethod args0 below0 :=
  ⟨lists_1, trivial, launch0.admits_env _ _ _, launch0.least_env, fairChoices_fair.cas, fairChoices_fair.clock, w_frames, w_args, w_heap, w_applies, trivial, trivial, w_case⟩
end start1
theorem witness_1 : WitnessClaimed_1 := ⟨start1.p0, start1.e0, start1.about1, start1.theMethod, start1.args0, start1.below0, start1.atStart⟩
end Jvm.Pilot.@@N@@
